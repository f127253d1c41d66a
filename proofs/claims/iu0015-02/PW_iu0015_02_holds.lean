import PyProof.Rows.All
import Wide.All
import OpenK.AllK
import Wide.FinOn
import Lean
import PySem.Challenge.RW_iu0015_02
set_option Elab.async false
set_option linter.all false
set_option genInjectivity false
set_option genSizeOfSpec false
set_option tactic.hygienic false
set_option maxRecDepth 100000
set_option maxHeartbeats 0
open Option renaming some->W,none->X,map_eq_some_iff->kK,bind_eq_some_iff->wH,map->Du,isNone_iff_eq_none->aaE,ne_none_iff_exists'->aaF
open PySem renaming eval->aa,Value->aq,Addr->az,Str->aA,wpAny_bind->aB,wpAny->aF,starEach->aH,Obj->aI,Heap->aK,Shared->aT,wpAny_pure->aV,callEnv->aY,execs->bg,Params->bF,backTo->bG,FuncData->bI,wpAny_mono->bJ,backToKw->bZ,keywordEach->cf,wpAny_execs_nil->cA,Pos->cC,Stmt->cQ,Around->cT,wpAny_ite_false->cW,wpAny_execs_cons->de,OsState->df,wpAny_call->dq,Sem->dG,callWith->dH,Flow->dM,GenState->dQ,Drawn->dT,wpAny_holding->eH,sizeLine_eq->eO,call->eU,getAttr->fc,rawInt->fu,sizeLine->fv,wpAny_storeName_local->fw,standAt->fB,holding->fI,compareOp->fP,wpAny_standAt->gG,wpAny_truthy_bool->gH,Env->gL,wpAny_Name->gR,SetTable->gZ,compEnvC->hX,getMethod->ie,IsRangeIter->iw,wpAny_loadName_local->iK,World->js,wpAny_ite_true->jA,Tok->jF,assign->jH,Seg->jX,seg_execs_cons->ky,Builtin->kC,typeOf->kY,wpAny_loadPart'->lg,behindInMarks->lO,codeAny->lT,letTemporaryGo->me,swapsWith->mB,Fin->nX,Scope->nY,codeAny_call_builtin->oi,wpAny_Assign_Name->oU,wpAny_of_eq->oV,wpAny_rule->oW,wpAny_specialOf->oX,assignEach->pX,mainGlobals->qB,seg_bind_wrap->qQ,wpAny_Return_some->qY,wpAny_assign_Name->qZ,Paired->rH,getItem->sd,letOwnedTupleGo->sk,seg_wrap->sY,setGen_self->sZ,treeTable->te,wpAny_isTrue_Compare1->ti,callEnvC->uv,closureFor->uy,codeAny_builtin->uz,isInstance->uO,operate->vu,pyNext->vA,setAttr->vD,wpAny_BinOp->vJ,BindsTo->vU,Code->vW,argsOk->wR,evalPart_some->xl,foldedSetIterable->xr,plainId_quiet->xZ,spliced->yf,subscripted->yh,swappedStores->yi,swapsWithSole->yj,wpAny_call_entry->yp,wpAny_newTuple->yr,Result->zR,eqIsQuiet->As,ofAClassStatement->By,plainObj_wpAny_Assign_Attribute->BE,richCompare->BJ,seg_again->BM,wpAny_If->Ci,wpAny_eqBool_int->Cj,wpAny_newList->Cm,wpAny_seqItems->Cn,DictEntry->CL,IsRange->CV,IsPair->Dy,binaryOp->DV,bindSpecial->DW,callSpecialIfBound?->DZ,call_meets->Ea,checkBuiltinCall->Ed,codeAny_mono->Ei,interactive->FK,noteFrame->Gj,pyIter->Hr,seg_Expr_Yield->Hz,seqIndex?->HA,theTreesLotGoes->HH,truthy->HM,tryCompare->HN,wpAny_is_other->HQ,wpAny_lt_int->HR,wpAny_pyIter_gen->HS,wpAny_pyIter_list->HT,wpAny_pyIter_range->HU,wpAny_setState_of->HV,wpAny_typeOf->HW,wpAny_updateSeq->HX,Arguments->Jk,IntMulOk->JT,MeetsIn->Ks,Protocol->KV,arm_eval_List->LG,builtinsNs->Mo,codeAny_call_def->MC,compPost->MD,concat_meets->MG,eval_ListComp->Nn,hashByValue->NY,noFill_tuple_add->Pf,reduceHash->VY,seg_end->Wf,seg_func->Wi,seg_whileLoop->Wj,seq_tuple_add->Wl,setRelay->Wm,setSearchFrom->Wn,wpAny_Constant_none->WX,wpAny_For->WY,wpAny_Subscript_list_slice->WZ,wpAny_cRoomFor->Xa,wpAny_comprehension_free->Xb,wpAny_field->Xc,wpAny_isTrue_value->Xd,wpAny_ite->Xe,wpAny_pyNext_range_end->Xf,wpAny_pyNext_range_item->Xg,wpAny_richCompare_same_room->Xh,wpAny_storeName_cell->Xi,wpAny_truthy_list->Xj,IsZip->aaR,call->aaV,seqSlot_of->aaW,codeAny_forLoop->acj,codeAny_of_tree->ack,importedModules->aea,objEq_entry_other->aiI,searchCouldBeSeen->aj1,wpAny_askSetting->ak3,wpAny_collect_seq->ak4,wpAny_is_ref_other->ak5,wpAny_is_ref_self->ak6,wpAny_ite_split->ak7,wpAny_loadName_cell->ak8,wpAny_newFunctionEnv->ak9,wpAny_newObj_type->ala,wpAny_pyNext_gen->alb,wpAny_pyNext_list_end->alc,wpAny_pyNext_list_item->ald,wpAny_storeSet_of->ale
open Bool renaming true->af,false->aw,false_eq_true->ly,and_eq_true_iff->pE,eq_false_iff->pG,and_eq_true->vV,eq_iff_iff->ze,decide_and->Js,false_ne_true->Jt,not_true->Ju,noConfusion->Yu,or_eq_true->Yv,or_false->Yw
open And renaming intro->au,imp_right->vT,imp->yY,left->Jj,imp_left->Yp
open Int renaming toNat->bh,mul_pos->bP,le_of_lt->cn,mul_nonneg->dF,lt_trichotomy->eX,mul_neg_of_pos_of_neg->fy,natAbs->fY,mul_comm->gN,mul_neg_of_neg_of_pos->gU,mul_neg->iP,le_refl->kE,mul_pos_of_neg_of_neg->mH,le_of_eq->nO,not_lt->rz,add_nonneg->wa,ne_of_lt->wb,neg_mul->wc,le_total->zo,lt_irrefl->zq,lt_trans->zt,neg_pos_of_neg->zu,sub_nonneg_of_le->zv,fdiv_eq_ediv_of_nonneg->CN,lt_or_gt_of_ne->CO,lt_or_le->CQ,mul_lt_mul_of_pos_right->CS,neg_inj->CT,sub_pos_of_lt->CU,add_zero->JG,fmod_eq_emod_of_nonneg->JH,le_trans->JI,lt_of_not_ge->JJ,mul_le_mul_of_nonneg_left->JK,mul_zero->JL,natCast_nonneg->JM,neg_pos->JN,ofNat_lt->JO,pos_of_neg_neg->JP,sub_self->JQ,toNat_of_nonneg->JR,zero_mul->JS,add_pos_of_nonneg_of_pos->YU,add_pos_of_pos_of_nonneg->YW,eq_of_sub_eq_zero->YX,fmod_lt_of_pos->YY,fmod_nonneg_of_pos->YZ,le_sub_one_of_lt->Za,lt_asymm->Zc,lt_of_lt_of_le->Zd,lt_of_sub_pos->Ze,mul_add->Zf,mul_ediv_add_emod->Zg,ne_of_gt->Zh,neg_mul_neg->Zi,neg_neg_iff_pos->Zj,nonneg_of_neg_nonpos->Zk,sub_neg_of_lt->Zl
open Pure renaming pure->bj
open Nat renaming le_refl->bT,ne_of_lt->cJ,zero_le->dN,le_trans->eT,lt_of_lt_of_le->fj,beq->fE,le_add_right->fF,not_lt_zero->fT,le_of_lt->iy,blt->mJ,lt_add_right->mK,add->pJ,le_of_lt_succ->pK,lt_succ_self->pN,not_lt->pO,add_sub_cancel_left->rC,le_of_eq->rD,lt_add_of_pos_right->rF,ne_of_gt->rG,lt_irrefl->ui,lt_succ_of_le->uj,succ->uk,succ_pos->um,le_antisymm->wq,le_of_add_left_le->wu,lt_of_add_right_lt->wx,lt_of_sub_eq_succ->wy,lt_trans->wA,mod_lt->wB,sub_self->wC,zero_add->wD,le_add_left->zH,le_add_right_of_le->zJ,cast->Dq,lt_of_le_of_lt->Dr,min_eq_left->Ds,add_sub_cancel'->Kw,dvd_of_mod_eq_zero->Ky,eq_of_lt_succ_of_not_lt->KA,le_succ->KC,le_succ_of_le->KD,le_total->KG,lt_trichotomy->KH,pow_succ->KI,rec->KJ,sub_le->KL,sub_one_lt_of_lt->KN,succ_add->KO,succ_add_eq_add_succ->KP,succ_le_succ->KQ,succ_ne_self->KR,zero_lt_of_lt->KS,add_assoc->aab,add_comm->aac,add_le_add_right->aad,add_sub_of_le->aae,add_zero->aaf,div_eq_of_lt->aag,eq_sub_of_add_eq->aah,le_of_add_right_le->aai,le_of_not_ge->aaj,le_of_succ_le->aak,le_sub_one_of_lt->aal,log2_lt->aam,lt_add_one->aan,lt_of_add_lt_add_left->aao,lt_of_le_of_ne->aap,lt_or_ge->aaq,lt_succ_of_lt->aar,max_eq_left->aas,min_eq_right->aat,min_le_left->aau,min_le_right->aav,mul_add_div->aaw,mul_add_mod->aax,mul_le_mul->aay,sub_lt_of_lt->aaz,sub_lt_sub_left->aaA,sub_zero->aaB,succ_mul->aaC,two_pow_pos->aaD
open PyProof.Rows renaming args_cons->cF,IsTup->cU,args_nil->eQ,seqObj->gu,assignInOrder_cons->gP,IntsAre->iQ,AllBare->jC,Call_->mE,bindName_->mP,assignInOrder_nil->rN,pairsOf->vz,kwAll_cons->xB,kwAll_nil->xC,oneType'->xV,Tuple_->zW,isTrue_or->AO,slot_tuple_getitem->BQ,Assign_Tuple->CE,callWith_builtin1->Dw,append_at->DM,isTrue_plain->FN,Assign_Tuple_swapped->Jr,Constant_bool->JA,callWith_type1->KW,assign_Tuple_tuple->LH,evalArgs_kw2->Nm,Constant_none->YG,gt_int->aaJ,args_tuple_getitem->abz,entry_tuple_getitem->acH,get?_update_seq->adT,subscriptTail_ops->ako,getItem_tuple->alH,mul_int->alI,ne_int->alJ,truthy_int->alK
open PySem.Value renaming ref->cM,none->pW,type->rL,int->wN
open List renaming length_map->cO,mem_cons->cP,mem_map->dc,range->fD,mem_append->fM,mem_cons_of_mem->fZ,mem_singleton->gb,mem_cons_self->gO,length_append->gW,mem_append_left->iT,length_cons->jD,getElem_mem->jU,mem_range->jV,size_toArray->jW,getElem?_map->kF,map_append->kG,not_mem_nil->kH,replicate->kJ,mem_append_right->lC,nodup_cons->lF,mem_map_of_mem->mI,all_eq_true->nP,getElem?_eq_getElem->nR,map_cons->nT,toArray->nU,head?->rA,filter_cons_of_pos->ub,length->uc,length_range->ud,length_singleton->ue,mem_iff_getElem->uf,mem_of_getElem?->ug,any_eq_true->we,filterMap_cons_some->wg,foldl_cons->wh,getD->wi,length_take->wj,map_map->wo,filter_cons_of_neg->zB,mem_flatMap->zE,nodup_append->zF,take_length->zG,countP_cons->CY,flatMap_cons->CZ,getElem?_eq_some_iff->Dc,getElem_map->Dd,length_drop->De,mem_filterMap->Df,mem_of_mem_drop->Dh,mem_of_mem_take->Di,pairwise_append->Dj,pairwise_cons->Dk,pairwise_iff_getElem->Dm,drop_eq_getElem_cons->JW,filterMap_cons_none->JX,filter_eq_self->JY,foldl_append->JZ,getElem?_append_left->Ka,getElem?_append_right->Kb,getElem?_of_mem->Kc,getElem?_toArray->Ke,length_zip->Kf,map->Kg,map_congr_left->Kh,mem_filter->Ki,range_succ->Kj,rel_of_pairwise_cons->Kk,replicate_succ->Kl,sum_append->Km,take_of_length_le->Kn,take_sublist->Ko,any_cons->Zs,any_map->Zt,any_toArray->Zu,append_assoc->Zv,cons_append->Zx,countP_mono_left->Zy,drop_of_length_le->Zz,drop_sublist->ZA,eq_of_mem_replicate->ZC,filterMap_cons->ZD,filterMap_map->ZE,filter_append->ZF,find?_eq_none->ZG,getElem?_cons_succ->ZH,getElem_drop->ZI,getElem_range->ZJ,getElem_zip->ZK,length_eq_zero_iff->ZL,length_erase_of_mem->ZM,length_filter_le->ZN,length_replicate->ZO,map_nil->ZP,mem_erase_of_ne->ZQ,nil_append->ZR,nodup_nil->ZS,nodup_range->ZT,pairwise_singleton->ZU,perm_append_singleton->ZV,sum_cons->ZW,take_add_one->ZX,take_nil->ZY
open PySem.W renaming instObj->dy,Looks->eS,dictOf->gQ,handedIn->ik,findIn->jK,recIn->jQ,methodCall_KW->kT,emptyDict->lW,callWith_K->mQ,boot_o_6->og,boot_heap->qf,plainGet_of->qM,MethP->rB,handed_on->sf,looks_findIn->su,methodObj->sA,getL->uK,WData->wO,kas_rev->xx,keepIn->xy,keeps_M->xA,method_call->xI,plainGet->xY,boot_drawn->Aa,callWith_of->Ad,cls_bind->Ai,cm_get->Aj,codeRec_of->Ak,kas_desc->AU,kas_place->AV,specialIn->BU,takesIn->BZ,topFrame->Ca,ReadsAllW->Dz,StarOf->DB,boot_toks->DX,kas_tail3->FQ,lookIn->FZ,piecesOf->Ho,binds_K->LY,boot_o_0->LZ,boot_o_1->Ma,boot_o_10->Mb,boot_o_2->Mc,boot_o_4->Me,boot_o_5->Mh,boot_o_9->Mi,check_slot->Mv,findCls->NC,get_bind->NS,kas_item->Ox,lookIn_dict->OK,make_core->OT,makes_of->OV,method_cls->OW,method_fn->OX,segRun_of->Wd
open PySem.Heap renaming lt_size->dA,SameBut->dE,get?_push_of_some->eP,get?_none_of_le->jq,get?_push_size->jT,ExtBut->vX,get?_update_other->vY,get?_update_self->vZ
open PySem.PyData renaming keyHash->dX
open Min renaming min->eE
open PySem.BindsTo renaming of_eq->eR
open Ne renaming symm->fN
open Array renaming mk->fX,getElem?_eq_some_iff->tY,getElem?_eq_getElem->yZ,getElem?_toList->zb,forIn_toList->CA,length_toList->CB,size_push->CC,getD->Jl,getD_eq_getD_getElem?->Jn,getElem?_push_size->Jo,replicate->Jp,toList_inj->Jq,mem_iff_getElem->Ys,mem_of_getElem?->Yt
open PySem.SetTable renaming bits->hO,runEnd->iB,Probe->rI,turns->uq,advance->wJ,below->wK,leap->wM,insertAt_perm->Lb,toList_insertAt->aaT,has->aa0,laid->aa1,layClean->aa2,slot->aa3
open PySem.Obj renaming mapSeq->iA,mk->jr,cls->pQ,putSet->wG
open Exists renaming imp->iO
open Eq renaming symm->kD
open Prod renaming ext->kL,fst->zK,snd->KU
open PySem.Flow renaming ret->lA
open ForInStep renaming yield->mF,done->CM
open ForIn renaming forIn->mT
open PySem.Code renaming cUnits->nG,weight->nJ,builtin->Jy,quiet_builtin->YF
open PySem.Builtin.Int renaming intBits->pH,intTooBig->Yx
open PySem.W.Looks renaming ld->pI,of_peek->ZZ
open PySem.Pos renaming mk->pU
open PySem.Builtin.Range renaming rangeSize->rq,small->zf,rangeFitsLong->Yz
open PySem.ClassData renaming mk->rx
open PySem.GenOnly renaming setGen->ry
open PySem.W.SharedT renaming abs->rJ,mk->rK
open LT renaming lt->wd
open PySem.F renaming called_set->wI,slot_tuple_mul->zk,slot_tuple_eq->zM,slot_tuple_hash->zN,plain_extend_loop->Dx,args_tuple_mul_2->JC,entry_tuple_mul->JD,args_tuple_add_2->KX,cmp_object->KY,entry_tuple_add->KZ,slot_tuple_add->La,slot_int_rmul->YJ,slot_list_contains->YK,slot_tuple_eq->YL,slot_tuple_getattribute->YM,slot_tuple_lt->YN,slot_tuple_rmul->YO,args_tuple_eq_2->aaL,entry_extend_loop->aaM,entry_tuple_eq->aaN,slot_list_extend->aaO,slot_tuple_ne->aaP
open PySem.SetTable.layClean renaming free->wL
open PySem.Builtin.Tuple renaming tupleItemsOf->zg,tupleHashOf->CG,tupleExact->alB,tupleIsExact->alC,tupleTooMany->alD
open PySem.Builtin renaming bitAnd->zi,divisionGoesByPylong->YB
open PySem.Heap.SameBut renaming update->zm
open PySem.IsPart renaming int->zw
open PySem.W.KasT renaming kasWp_bind->zy,ret->zA,ask->Zn
open PySem.W.Fast renaming te14364793385576792824->zO,te10110043849684766642->Ld,te12563942051412417395->aaU,te1066825118222455980->alO,te11892475500146522536->alP,te14082659384304107361->alQ,te15667345088766844465->alR,te4187177175401517315->alS,te9446332074065402090->alT
open PySem.Shared renaming setGen->zT
open PySem.Around renaming under_plainId->Cz,deeper->Yq,in1->Yr
open PySem.Builtin.Slice renaming slicePlaces->CF,sliceAdjust->Jv,sliceApplied->YA,sliceFields->alA
open PySem.Calls renaming evalArgs_plain->CK,Name_function_global->YC,callWith_builtin->YD
open PyProof.Rows.IsTup renaming new->CW
open PyProof.Rows.F renaming plain_set_update_loop->Dv,entry_set_update_loop->aaI
open PySem.SetTable.below renaming go->DA
open Std renaming lt_of_le_of_ne->DD
open PySem.W.WData renaming weight->DF
open PySem.W.WShape renaming has->DG,hasItems->abp
open Classical renaming not_not->Jx,not_and_iff_not_or_not->YE
open Decidable renaming not_not->JB
open PySem.GenState renaming fresh->JE
open Iff renaming rfl->JF
open PySem.Manifest renaming signature?->Kr,isStub->aaa
open PySem.SetTable.probe renaming go->Ll
open PyProof.Rows.SortSt renaming mk'->Lm
open PySem.W.WTm renaming holds->Ls,value->Lu
open PySem.Builtin.List renaming listSameRef->Yy,listExtendWith->alr,listItems->als,listLengthHint->alu,listTooLong->alv,listTouch->alw
open Function renaming comp->YR
open HAdd renaming hAdd->YS
open List.Perm renaming refl->Zr
open List.cons renaming injEq->Zw
open Option.some renaming inj->aaG,injEq->alG
open PyProof renaming noPylong_small->aaK
open PySem.IsL renaming update->aaQ
open PySem.P renaming add_list->aaS
open PySem.Str renaming ofString->aa4
open PySem.Thread renaming mk->abm
open PySem.Value.int renaming injEq->abo
open PySem.Walks renaming list->abq
open PySem.callAny renaming viaDunder->ab4
open PySem.Builtin.Frozenset renaming updateFrom->alq
open PySem.Builtin.ObjectAttr renaming dataDescriptor?->alx,find->aly,getOf->alz
open List.Pairwise renaming filterMap->alE,tail->alF
open PySem.AutoSeq1 renaming list_extend_list_tuple_0->alL
open PySem.Challenge renaming pw_iu0015_02->alM,rw_iu0015_02->alN
open PySem.WalksT renaming zip2->alU
open String.Pos.Raw renaming mk_le_mk->alV
set_option genCtorIdx false
set_option genSizeOf false
set_option bootstrap.genMatcherCode false
namespace bY
open Lean in
def rf:Syntax:= .node .none `Lean.Parser.Tactic.tacticSeq #[.node .none `Lean.Parser.Tactic.tacticSeq1Indented #[.node .none `null #[.node .none `Lean.Parser.Tactic.tacticRfl #[.atom .none "rfl"]]]]
open Lean in
def fW:Syntax:= .node .none `Lean.Parser.Tactic.tacticSeq #[.node .none `Lean.Parser.Tactic.tacticSeq1Indented #[.node .none `null #[.node .none `Lean.Parser.Tactic.omega #[.atom .none "omega",.node .none `Lean.Parser.Tactic.optConfig #[.node .none `null #[]]]]]]
open Lean in
def Hw:Syntax:= .node .none `Lean.Parser.Tactic.tacticSeq #[.node .none `Lean.Parser.Tactic.tacticSeq1Indented #[.node .none `null #[.node .none `Lean.Parser.Tactic.decide #[.atom .none "decide",.node .none `Lean.Parser.Tactic.optConfig #[.node .none `null #[]]]]]]
namespace Li
inductive LT where
 |v(d:Nat)|n(k:Nat)|a(x b:LT)|m(k:Nat)(x:LT)|w(x:LT)(k:Nat)|s(x b:LT)|g(x:LT)|c(x:LT)
inductive LF where
 |le(b:Bool)(x a:LT)|lt(b:Bool)(x a:LT)|eq(b:Bool)(x a:LT)
 |an(f g:LF)|or(f g:LF)|im(f g:LF)|ff(f g:LF)|no(f:LF)|fl
 |dm(b:Bool)(c r x:LT)(k:Nat)|sb(c x a:LT)|mn(b:Bool)(c x a:LT)|mx(b:Bool)(c x a:LT)
 |tn(c x:LT)|na(c x:LT)
noncomputable def bS(N:List Nat):LT->Nat
 | .v d=>N.getD d 0
 | .n b=>b
 | .a x e=>bS N x+bS N e
 | .m b x=>b*bS N x
 | .w x b=>bS N x*b
 | .s _ _| .g _| .c _=>0
noncomputable def bU(N:List Nat)(b:List Int):LT->Int
 | .v f=>b.getD f 0
 | .n d=>(d:Int)
 | .a x e=>bU N b x+bU N b e
 | .m d x=>(d:Int)*bU N b x
 | .w x d=>bU N b x*(d:Int)
 | .s x e=>bU N b x-bU N b e
 | .g x=>-bU N b x
 | .c x=>((bS N x:Nat):Int)
def du(N:List Nat)(a:List Int):LF->Prop
 | .le e x c=>match e with|false=>bS N x<=bS N c|true=>bU N a x<=bU N a c
 | .lt e x c=>match e with|false=>bS N x<bS N c|true=>bU N a x<bU N a c
 | .eq e x c=>match e with|false=>bS N x=bS N c|true=>bU N a x=bU N a c
 | .an f g=>du N a f/\du N a g
 | .or f g=>du N a f\/du N a g
 | .im f g=>du N a f->du N a g
 | .ff f g=>du N a f↔du N a g
 | .no f=>¬du N a f
 | .fl=>False
 | .dm e d i x h=>match e with
  |false=>bS N d=bS N x/h/\bS N i=bS N x%h
  |true=>bU N a d=bU N a x/(h:Int)/\bU N a i=bU N a x%(h:Int)
 | .sb d x c=>bS N d=bS N x-bS N c
 | .mn e d x c=>match e with|false=>bS N d=eE (bS N x) (bS N c)|true=>bU N a d=eE (bU N a x) (bU N a c)
 | .mx e d x c=>match e with|false=>bS N d=max (bS N x) (bS N c)|true=>bU N a d=max (bU N a x) (bU N a c)
 | .tn d x=>bS N d=(bU N a x).toNat
 | .na d x=>bS N d=(bU N a x).natAbs
noncomputable abbrev Rw:=Int×List (Nat×Int)
noncomputable def vl(N:List Nat)(a:List Int)(c:Nat):Int:=bif fE (c%2) 0 then((N.getD (c/2) 0:Nat):Int) else a.getD (c/2) 0
noncomputable def dl(N:List Nat)(a:List Int):List (Nat×Int)->Int
 |[]=>0
 |b::c=>b.2*vl N a b.1+dl N a c
noncomputable def dot(N:List Nat)(a:List Int)(r:Rw):Int:=r.1+dl N a r.2
noncomputable def ins(c:Nat)(k:Int):List (Nat×Int)->List (Nat×Int)
 |[]=>[(c,k)]
 |a::b=>bif fE c a.1 then(c,a.2+k)::b else a::ins c k b
theorem An(N Z c k):∀l,dl N Z (ins c k l)=k*vl N Z c+dl N Z l
 |[]=>rfl
 |a::b=>by
  unfold ins;cases h:fE c a.1
  .have:=An N Z c k b;simp only[cond_false,dl,this];grind
  .have:=Nat.eq_of_beq_eq_true h;subst this;simp only[cond_true,dl];grind
noncomputable def mf(k:Int):LT->Rw->Rw
 | .v e,b=>(b.1,ins (2*e) k b.2)
 | .n d,b=>(b.1+k*(d:Int),b.2)
 | .a x f,b=>mf k x (mf k f b)
 | .m d x,b=>mf (k*(d:Int)) x b
 | .w x d,b=>mf (k*(d:Int)) x b
 | .s _ _,b| .g _,b| .c _,b=>b
noncomputable def jf(k:Int):LT->Rw->Rw
 | .v f,b=>(b.1,ins (2*f+1) k b.2)
 | .n d,b=>(b.1+k*(d:Int),b.2)
 | .a x e,b=>jf k x (jf k e b)
 | .m d x,b=>jf (k*(d:Int)) x b
 | .w x d,b=>jf (k*(d:Int)) x b
 | .s x e,b=>jf k x (jf (-k) e b)
 | .g x,b=>jf (-k) x b
 | .c x,b=>mf k x b
theorem WW(N Z i):vl N Z (2*i)=((N.getD i 0:Nat):Int):=by have a:2*i%2=0:=Nat.mul_mod_right 2 i;have b:2*i/2=i:=Nat.mul_div_cancel_left i (um 1);simp only[vl,a,b];rfl
theorem ak0(N Z i):vl N Z (2*i+1)=Z.getD i 0:=by have a:(2*i+1)%2=1:=aax 2 i 1;have b:(2*i+1)/2=i:=aaw (um 1) i 1;simp only[vl,a,b];rfl
theorem FY{k a:Int}:a=k*((0:Nat):Int)+a:=by simp
theorem uP(N Z):∀t k r,dot N Z (mf k t r)=k*((bS N t:Nat):Int)+dot N Z r
 | .v e,k,r=>by show dot N Z (r.1,ins (2*e) k r.2)=k*((N.getD e 0:Nat):Int)+dot N Z r;simp only[dot,An,WW];grind
 | .n b,k,r=>by show dot N Z (r.1+k*(b:Int),r.2)=k*((b:Nat):Int)+dot N Z r;simp only[dot];grind
 | .a x d,k,r=>by show dot N Z (mf k x (mf k d r))=k*((bS N x+bS N d:Nat):Int)+dot N Z r;rw[uP N Z x,uP N Z d];grind
 | .m b x,k,r=>by show dot N Z (mf (k*(b:Int)) x r)=k*((b*bS N x:Nat):Int)+dot N Z r;rw[uP N Z x];grind
 | .w x b,k,r=>by show dot N Z (mf (k*(b:Int)) x r)=k*((bS N x*b:Nat):Int)+dot N Z r;rw[uP N Z x];grind
 | .s _ _,k,r=>FY
 | .g _,k,r=>FY
 | .c _,k,r=>FY
theorem qw(N Z):∀t k r,dot N Z (jf k t r)=k*bU N Z t+dot N Z r
 | .v e,k,r=>by show dot N Z (r.1,ins (2*e+1) k r.2)=k*Z.getD e 0+dot N Z r;simp only[dot,An,ak0];grind
 | .n b,k,r=>by show dot N Z (r.1+k*(b:Int),r.2)=k*(b:Int)+dot N Z r;simp only[dot];grind
 | .a x d,k,r=>by show dot N Z (jf k x (jf k d r))=k*(bU N Z x+bU N Z d)+dot N Z r;rw[qw N Z x,qw N Z d];grind
 | .m b x,k,r=>by show dot N Z (jf (k*(b:Int)) x r)=k*((b:Int)*bU N Z x)+dot N Z r;rw[qw N Z x];grind
 | .w x b,k,r=>by show dot N Z (jf (k*(b:Int)) x r)=k*(bU N Z x*(b:Int))+dot N Z r;rw[qw N Z x];grind
 | .s x d,k,r=>by show dot N Z (jf k x (jf (-k) d r))=k*(bU N Z x-bU N Z d)+dot N Z r;rw[qw N Z x,qw N Z d];grind
 | .g x,k,r=>by show dot N Z (jf (-k) x r)=k*(-bU N Z x)+dot N Z r;rw[qw N Z x];grind
 | .c x,k,r=>uP N Z x k r
noncomputable def ev(N:List Nat)(a:List Int)(b:Bool)(t:LT):Int:=match b with|false=>((bS N t:Nat):Int)|true=>bU N a t
noncomputable def ln(b:Bool)(k:Int)(t:LT)(r:Rw):Rw:=match b with|false=>mf k t r|true=>jf k t r
theorem ae9(N Z b t k r):dot N Z (ln b k t r)=k*ev N Z b t+dot N Z r:=by
 cases b
 .exact uP N Z t k r
 .exact qw N Z t k r
noncomputable def qO(b:Bool)(x y:LT)(d:Int):Rw:=ln b 1 y (ln b (-1) x (d,[]))
theorem vB(N Z b x y d):dot N Z (qO b x y d)=ev N Z b y-ev N Z b x+d:=by
 have h:dot N Z (d,[])=d:=by simp only[dot,dl];grind
 simp only[qO,ae9,h];grind
inductive LR where
 |c(l:List (Bool×LF))|b(p a:Bool×LF)|r(l:List Rw)|x
noncomputable def rd:Bool->LF->LR
 |true, .le d x e=> .r [qO d x e 0]
 |false, .le d x e=> .r [qO d e x (-1)]
 |true, .lt d x e=> .r [qO d x e (-1)]
 |false, .lt d x e=> .r [qO d e x 0]
 |true, .eq d x e=> .r [qO d x e 0,qO d e x 0]
 |false, .eq d x e=> .b (af, .lt d x e) (af, .lt d e x)
 |true, .an f g=> .c [(af,f),(af,g)]
 |false, .an f g=> .b (aw,f) (aw,g)
 |true, .or f g=> .b (af,f) (af,g)
 |false, .or f g=> .c [(aw,f),(aw,g)]
 |true, .im f g=> .b (aw,f) (af,g)
 |false, .im f g=> .c [(af,f),(aw,g)]
 |true, .ff f g=> .c [(af, .im f g),(af, .im g f)]
 |false, .ff f g=> .b (aw, .im f g) (aw, .im g f)
 |d, .no f=> .c [(!d,f)]
 |true, .fl=> .x
 |true, .dm d h j x i=>match i with
  |0=> .c []
  |i+1=> .c [(af, .eq d (.a (.m (i+1) h) j) x),(af, .le d (.n 0) j),(af, .lt d j (.n (i+1)))]
 |true, .sb h x e=> .b (af, .an (.le aw x e) (.eq aw h (.n 0))) (af, .an (.le aw e x) (.eq aw (.a h e) x))
 |true, .mn d h x e=> .b (af, .an (.le d x e) (.eq d h x)) (af, .an (.le d e x) (.eq d h e))
 |true, .mx d h x e=> .b (af, .an (.le d x e) (.eq d h e)) (af, .an (.le d e x) (.eq d h x))
 |true, .tn h x=> .b (af, .an (.le af (.n 0) x) (.eq af (.c h) x)) (af, .an (.le af x (.n 0)) (.eq aw h (.n 0)))
 |true, .na h x=> .b (af, .an (.le af (.n 0) x) (.eq af (.c h) x)) (af, .an (.le af x (.n 0)) (.eq af (.c h) (.g x)))
 |false,_=> .c []
def sg(N:List Nat)(a:List Int)(p:Bool×LF):Prop:=match p.1 with|true=>du N a p.2|false=>¬du N a p.2
def al(N:List Nat)(a:List Int):List (Bool×LF)->Prop
 |[]=>True
 |b::c=>sg N a b/\al N a c
def ar(N:List Nat)(a:List Int)(l:List Rw):Prop:=∀b∈l,0<=dot N a b
def dR(N:List Nat)(a:List Int):LR->Prop
 | .c d=>al N a d
 | .b e f=>sg N a e\/sg N a f
 | .r d=>ar N a d
 | .x=>False
theorem Nc(N Z b x y):du N Z (.le b x y)↔ev N Z b x<=ev N Z b y:=by
 cases b
 .exact Int.ofNat_le.symm
 .exact JF
theorem qk(N Z b x y):du N Z (.lt b x y)↔ev N Z b x<ev N Z b y:=by
 cases b
 .exact JO.symm
 .exact JF
theorem EJ(N Z b x y):du N Z (.eq b x y)↔ev N Z b x=ev N Z b y:=by
 cases b
 .exact Int.ofNat_inj.symm
 .exact JF
theorem wQ{N Z r}(h:0<=dot N Z r):ar N Z [r]:=by intro b a;cases a with|head=>exact h|tail _ a=>cases a
theorem ar2{N Z r s}(h:0<=dot N Z r)(k:0<=dot N Z s):ar N Z [r,s]:=by intro b a;cases a with|head=>exact h|tail _ a=>exact wQ k _ a
theorem ajy(N Z):∀(b:Bool) (f:LF),sg N Z (b,f)->dR N Z (rd b f)
 |true, .le b x c,h=>wQ (by rw[vB];exact wa (zv ((Nc N Z b x c).1 h)) (kE 0))
 |false, .le b x c,h=>wQ (by rw[vB];exact Za (CU (Int.not_le.1 λd=>h ((Nc N Z b x c).2 d))))
 |true, .lt b x c,h=>wQ (by rw[vB];exact Za (CU ((qk N Z b x c).1 h)))
 |false, .lt b x c,h=>wQ (by rw[vB];exact wa (zv (rz.1 λd=>h ((qk N Z b x c).2 d))) (kE 0))
 |true, .eq b x c,h=>ar2 (by rw[vB,(EJ N Z b x c).1 h];exact wa (zv (kE _)) (kE 0)) (by rw[vB,(EJ N Z b x c).1 h];exact wa (zv (kE _)) (kE 0))
 |false, .eq b x c,h=>by show du N Z (.lt b x c)\/du N Z (.lt b c x);rw[qk,qk];exact CO λd=>h ((EJ N Z b x c).2 d)
 |true, .an f g,h=>⟨h.1,h.2,trivial⟩
 |false, .an f g,h=>YE.1 h
 |true, .or f g,h=>h
 |false, .or f g,h=>⟨λd=>h (.inl d),λd=>h (.inr d),trivial⟩
 |true, .im f g,h=>(Classical.em _).elim (λd=> .inr (h d)) .inl
 |false, .im f g,h=>⟨Jx.1 λd=>h λo=>(d o).elim,λd=>h λp=>d,trivial⟩
 |true, .ff f g,h=>⟨h.1,h.2,trivial⟩
 |false, .ff f g,h=>YE.1 λd=>h ⟨d.1,d.2⟩
 |true, .no f,h=>⟨h,trivial⟩
 |false, .no f,h=>⟨Jx.1 h,trivial⟩
 |true, .fl,h=>h
 |false, .fl,_=>trivial
 |true, .dm b e i x 0,h=>trivial
 |true, .dm aw e i x (d+1),h=>by
  have n:bS N e=bS N x/(d+1):=h.1;have j:bS N i=bS N x%(d+1):=h.2;refine⟨?_,dN _,?_,trivial⟩
  .show(d+1)*bS N e+bS N i=bS N x;rw[n,j];exact Nat.div_add_mod _ _
  .show bS N i<d+1;rw[j];exact wB _ (um _)
 |true, .dm af e i x (d+1),h=>by
  have n:bU N Z e=bU N Z x/((d+1:Nat):Int):=h.1;have j:bU N Z i=bU N Z x%((d+1:Nat):Int):=h.2;refine⟨?_,?_,?_,trivial⟩
  .show((d+1:Nat):Int)*bU N Z e+bU N Z i=bU N Z x;rw[n,j];exact Zg _ _
  .show((0:Nat):Int)<=bU N Z i;rw[j];exact Int.emod_nonneg _ (by omega)
  .show bU N Z i<((d+1:Nat):Int);rw[j];exact Int.emod_lt_of_pos _ (by omega)
 |false, .dm ..,_=>trivial
 |true, .sb e x c,h=>by have h:bS N e=bS N x-bS N c:=h;exact(KG (bS N x) (bS N c)).elim (λa=> .inl ⟨a,h.trans (Nat.sub_eq_zero_of_le a)⟩) λa=> .inr ⟨a,(congrArg (·+bS N c) h).trans (Nat.sub_add_cancel a)⟩
 |false, .sb ..,_=>trivial
 |true, .mn aw e x c,h=>by have h:bS N e=eE (bS N x) (bS N c):=h;exact(KG (bS N x) (bS N c)).elim (λa=> .inl ⟨a,h.trans (Ds a)⟩) λa=> .inr ⟨a,h.trans (aat a)⟩
 |true, .mn af e x c,h=>by have h:bU N Z e=eE (bU N Z x) (bU N Z c):=h;exact(zo (bU N Z x) (bU N Z c)).elim (λa=> .inl ⟨a,h.trans (Int.min_eq_left a)⟩) λa=> .inr ⟨a,h.trans (Int.min_eq_right a)⟩
 |false, .mn ..,_=>trivial
 |true, .mx aw e x c,h=>by have h:bS N e=max (bS N x) (bS N c):=h;exact(KG (bS N x) (bS N c)).elim (λa=> .inl ⟨a,h.trans (Nat.max_eq_right a)⟩) λa=> .inr ⟨a,h.trans (aas a)⟩
 |true, .mx af e x c,h=>by have h:bU N Z e=max (bU N Z x) (bU N Z c):=h;exact(zo (bU N Z x) (bU N Z c)).elim (λa=> .inl ⟨a,h.trans (Int.max_eq_right a)⟩) λa=> .inr ⟨a,h.trans (Int.max_eq_left a)⟩
 |false, .mx ..,_=>trivial
 |true, .tn e x,h=>by have h:bS N e=(bU N Z x).toNat:=h;exact(zo 0 (bU N Z x)).elim (λa=> .inl ⟨a,(congrArg Dq h).trans (JR a)⟩) λa=> .inr ⟨a,h.trans (Int.toNat_of_nonpos a)⟩
 |false, .tn ..,_=>trivial
 |true, .na e x,h=>by have h:bS N e=(bU N Z x).natAbs:=h;exact(zo 0 (bU N Z x)).elim (λa=> .inl ⟨a,(congrArg Dq h).trans (Int.natAbs_of_nonneg a)⟩) λa=> .inr ⟨a,(congrArg Dq h).trans (Int.ofNat_natAbs_of_nonpos a)⟩
 |false, .na ..,_=>trivial
noncomputable def cb(k:Int):List (Nat×Int)->List (Nat×Int)->List (Nat×Int)
 |[],a=>a
 |b::c,a=>ins b.1 (k*b.2) (cb k c a)
theorem Eb(N Z k):∀r s,dl N Z (cb k r s)=k*dl N Z r+dl N Z s
 |[],s=>by simp only[cb,dl];grind
 |a::r,s=>by simp only[cb,An,dl,Eb N Z k r s];grind
noncomputable def z0:Int->Bool
 | .ofNat 0=>af
 |_=>aw
theorem Xm:∀{x:Int},z0 x=af->x=0
 | .ofNat 0,_=>rfl
 | .ofNat (_+1),h=>nomatch h
 | .negSucc _,h=>nomatch h
noncomputable def ck(d:Int):List (Nat×Int)->Bool
 |[]=>af
 |a::b=>z0 (a.2%d)&&ck d b
noncomputable def uC(d:Int):List (Nat×Int)->List (Nat×Int)
 |[]=>[]
 |a::b=>(a.1,a.2/d)::uC d b
theorem MR(N Z d):∀r,ck d r=af->dl N Z r=d*dl N Z (uC d r)
 |[],_=>(JL d).symm
 |a::r,h=>by have h:=pE.1 h;have b:=Zg a.2 d;rw[Xm h.1,JG] at b;show a.2*vl N Z a.1+dl N Z r=d*(a.2/d*vl N Z a.1+dl N Z (uC d r));rw[MR N Z d r h.2,Zf,<-Int.mul_assoc,b]
noncomputable def st(r s:Rw)(k l:Int)(d:Nat):Rw:=
 bif ck ((d:Int)+1) (cb k r.2 (cb l s.2 [])) then((k*r.1+l*s.1)/((d:Int)+1),uC ((d:Int)+1) (cb k r.2 (cb l s.2 []))) else(0,[])
theorem akj(N Z)(r s:Rw)(k l d:Nat)(hr:0<=dot N Z r)(hs:0<=dot N Z s):0<=dot N Z (st r s k l d):=by
 unfold st;cases e:ck ((d:Int)+1) (cb k r.2 (cb l s.2 [])) with
 |false=>exact kE 0
 |true=>
  have h:=MR N Z _ _ e;rw[Eb,Eb] at h;have a:0<=(k:Int)*dot N Z r:=dF (JM _) hr;have b:0<=(l:Int)*dot N Z s:=dF (JM _) hs;show 0<=((k:Int)*r.1+l*s.1)/((d:Int)+1)+dl N Z (uC ((d:Int)+1) (cb k r.2 (cb l s.2 [])));generalize dl N Z (uC ((d:Int)+1) (cb k r.2 (cb l s.2 [])))=c at h;have f:-c<=((k:Int)*r.1+l*s.1)/((d:Int)+1):=by refine(Int.le_ediv_iff_mul_le (show(0:Int)<(d:Int)+1 by omega)).2 ?_;simp only[dot,dl] at h a b;grind
  have:=zv f;rwa [Int.sub_neg] at this
noncomputable def tq(c:Nat):Nat×Nat:=(c%32,c/32)
noncomputable def nm(c:Nat):Nat×Nat:=bif mJ (c%32) 31 then(c%32,c/32) else
 (c/1024%32^(c/32%32),c/1024/32^(c/32%32))
noncomputable def gr(l:List Rw)(i:Nat):Rw:=l.getD i (0,[])
theorem Ft{N Z l}(h:ar N Z l)(i):0<=dot N Z (gr l i):=by
 rw[gr,List.getD_eq_getElem?_getD];cases e:l[i]?with
 |none=>exact kE 0
 |some a=>exact h a (ug e)
noncomputable def zr:List (Nat×Int)->Bool
 |[]=>af
 |a::b=>z0 a.2&&zr b
theorem Yo(N Z):∀l,zr l=af->dl N Z l=0
 |[],_=>rfl
 |a::b,h=>by have h:=pE.1 h;show a.2*vl N Z a.1+dl N Z b=0;rw[Xm h.1,Yo N Z b h.2,JS];rfl
noncomputable def ng:Int->Bool
 | .ofNat _=>aw
 | .negSucc _=>af
noncomputable def bd(l:List Rw):Bool:=zr (gr l 0).2&&ng (gr l 0).1
theorem abL{N Z l}(h:ar N Z l)(b:bd l=af):False:=by
 have a:=Ft h 0;rw[bd,vV] at b;rw[dot,Yo N Z _ b.1] at a;cases e:(gr l 0).1 with
 |ofNat c=>have:=b.2;rw[e] at this;cases this
 |negSucc c=>rw[e] at a;omega
noncomputable def FU(k:List Rw->Nat->Option Nat)(l:List Rw)(i:Nat×Nat):Option Nat:=
 bif fE i.1 0 then(bif bd l then W i.2 else X) else
  let x:=nm i.2;let a:=nm x.2;let b:=nm a.2;let c:=nm b.2
  k (st (gr l (i.1-1)) (gr l a.1) x.1 b.1 c.1::l) c.2
noncomputable def lf:Nat->List Rw->Nat->Option Nat
 |0,_,_=>X
 |f+1,a,b=>FU (lf f) a (nm b)
theorem OB(N Z):∀f l c s,lf f l c=W s->ar N Z l->False
 |0,_,_,_,h,_=>nomatch h
 |f+1,l,c,s,h,d=>by
  have h:FU (lf f) l (nm c)=W s:=h;generalize nm c=j at h;unfold FU at h;cases e:fE j.1 0 with
  |false=>
   rw[e] at h;refine OB N Z f _ _ s h λk g=>?_;cases g with
   |head=>exact akj N Z _ _ _ _ _ (Ft d _) (Ft d _)
   |tail _ g=>exact d k g
  |true=>
   rw[e] at h;cases b:bd l with
   |false=>rw[b] at h;cases h
   |true=>exact abL d b
noncomputable def WE(k:List (Bool×LF)->List Rw->Nat->Option Nat)(q:List (Bool×LF))(l:List Rw)(c:Nat):LR->Option Nat
 | .c a=>k (a++q) l c
 | .r a=>k q (a++l) c
 | .x=>W c
 | .b a d=>bif fE (c%32) 0 then k q l (c/32) else(k (a::q) l (c/32)).bind λc=>k (d::q) l c
noncomputable def tb:Nat->List (Bool×LF)->List Rw->Nat->Option Nat
 |0,_,_,_=>X
 |f+1,[],a,b=>lf f a b
 |f+1,d::e,a,b=>WE (tb f) e a b (rd d.1 d.2)
theorem LA{N Z}:∀{l m},al N Z l->al N Z m->al N Z (l++m)
 |[],_,_,a=>a
 |b::l,_,h,a=>⟨h.1,LA h.2 a⟩
theorem akr{N Z}{k:List (Bool×LF)->List Rw->Nat->Option Nat}(K:∀q l c s,k q l c=W s->al N Z q->ar N Z l->False){q l c s}:∀x,WE k q l c x=W s->dR N Z x->al N Z q->ar N Z l->False
 | .c g,h,d,e,f=>K _ _ _ _ h (LA d e) f
 | .r g,h,d,e,f=>K _ _ _ _ h e λj n=>(fM.1 n).elim (d j) (f j)
 | .x,_,d,_,_=>d
 | .b g o,h,d,e,f=>by
  have h:(bif fE (c%32) 0 then k q l (c/32) else(k (g::q) l (c/32)).bind λc=>k (o::q) l c)=W s:=h;cases i:fE (c%32) 0 with
  |true=>rw[i] at h;exact K _ _ _ _ h e f
  |false=>rw[i] at h;obtain⟨p,e1,e2⟩:=wH.1 h;exact d.elim (λd=>K _ _ _ _ e1 ⟨d,e⟩ f) λd=>K _ _ _ _ e2 ⟨d,e⟩ f
theorem WG(N Z):∀f q l c s,tb f q l c=W s->al N Z q->ar N Z l->False
 |0,_,_,_,_,h,_,_=>nomatch h
 |f+1,[],l,c,s,h,_,e=>OB N Z f l c s h e
 |f+1,d::q,l,c,s,h,g,e=>akr (WG N Z f) (rd d.1 d.2) h (ajy N Z d.1 d.2 g.1) g.2 e
noncomputable def nn:Nat->List Rw
 |0=>[]
 |a+1=>(0,[(2*a,1)])::nn a
theorem Pe(N Z):∀n,ar N Z (nn n)
 |0=>λc a=>by cases a
 |n+1=>λb a=>by
  cases a with
  |head=>simp only[dot,dl,WW];omega
  |tail _ a=>exact Pe N Z n b a
noncomputable def pT:Nat->Nat->LT×Nat
 |0,b=>(.n 0,b)
 |f+1,b=>
  let d:=b%32;let b:=b/32
  bif mJ 7 d then(.v (d-8),b) else
  bif mJ d 2 then(bif fE d 0 then(let x:=pT f b;(.g x.1,x.2)) else(let e:=nm b;(.n e.1,e.2))) else
  bif mJ d 4 then(bif fE d 2 then(let x:=pT f b;let h:=pT f x.2;(.a x.1 h.1,h.2)) else(let x:=pT f b;let h:=pT f x.2;(.s x.1 h.1,h.2))) else
  bif mJ d 6 then(let e:=nm b;let x:=pT f e.2;(bif fE d 4 then .m e.1 x.1 else .w x.1 e.1,x.2)) else
  bif fE d 6 then(let x:=pT f b;(.c x.1,x.2)) else(let e:=nm b;(.v e.1,e.2))
noncomputable def pF:Nat->Nat->LF×Nat
 |0,d=>(.fl,d)
 |f+1,d=>
  let a:=d%32;let d:=d/32
  bif mJ a 6 then
    (let x:=pT 99 d;let b:=pT 99 x.2
     ((bif mJ a 2 then LF.le else bif mJ a 4 then LF.lt else LF.eq) (fE (a%2) 1) x.1 b.1,b.2)) else
  bif mJ a 10 then
    (let x:=pF f d;let b:=pF f x.2
     ((bif fE a 6 then LF.an else bif fE a 7 then LF.or else bif fE a 8 then LF.im else LF.ff) x.1 b.1,b.2)) else
  bif fE a 10 then(let x:=pF f d;(.no x.1,x.2)) else
  bif fE a 11 then(.fl,d) else
  (let e:=pT 99 d;let x:=pT 99 e.2
   bif fE a 12 then(.tn e.1 x.1,x.2) else
   bif fE a 13 then(.na e.1 x.1,x.2) else
   let b:=pT 99 x.2
   bif fE a 14 then(.sb e.1 x.1 b.1,b.2) else
   bif mJ a 17 then(.mn (fE a 16) e.1 x.1 b.1,b.2) else
   bif mJ a 19 then(.mx (fE a 18) e.1 x.1 b.1,b.2) else
   let g:=nm b.2
   (.dm (fE a 20) e.1 x.1 b.1 g.1,g.2))
noncomputable def lc(f c:Nat):Bool:=(tb 999 [(aw,(pF 99 f).1)] (nn 12) c).isSome
theorem Lk(f c:Nat)(N:List Nat)(a:List Int){P:Prop}(h:P=du N a (pF 99 f).1:=by kernel_rfl)(k:af=lc f c:=by kernel_rfl):P:=by rw[h];replace k:=k.symm;rw[lc] at k;refine Jx.1 λb=>?_;obtain⟨d,e⟩:=Option.isSome_iff_exists.1 k;exact WG N a _ _ _ _ d e ⟨b,trivial⟩ (Pe N a 12)
theorem Lj(f c:Nat)(N:List Nat)(a:List Int){D P:Prop}(d:D)(h:(D->P)=du N a (pF 99 f).1:=by kernel_rfl)(k:af=lc f c:=by kernel_rfl):P:=Lk f c N a h k d
theorem Lq(f c:Nat)(N:List Nat)(a:List Int)(k:af=lc f c:=by kernel_rfl):True/\du N a (pF 99 f).1:=⟨⟨⟩,Lk f c N a rfl k⟩
end Li
def aeo(f:Nat):Prop:=Li.du [] [] (Li.pF 99 f).1
theorem afe(f c:Nat)(k:af=Li.lc f c:=by kernel_rfl):True/\aeo f:=⟨⟨⟩,Li.Lk f c _ _ rfl k⟩
def aep(f:Nat)(y0:Int):Prop:=Li.du [] [y0] (Li.pF 99 f).1
theorem ip(f c:Nat){y0:Int}(k:af=Li.lc f c:=by kernel_rfl):True/\aep f y0:=⟨⟨⟩,Li.Lk f c _ _ rfl k⟩
def aeq(f:Nat)(y0 a:Int):Prop:=Li.du [] [y0,a] (Li.pF 99 f).1
theorem cV(f c:Nat){y0 a:Int}(k:af=Li.lc f c:=by kernel_rfl):True/\aeq f y0 a:=⟨⟨⟩,Li.Lk f c _ _ rfl k⟩
def aer(f:Nat)(y0 a b:Int):Prop:=Li.du [] [y0,a,b] (Li.pF 99 f).1
theorem dJ(f c:Nat){y0 a b:Int}(k:af=Li.lc f c:=by kernel_rfl):True/\aer f y0 a b:=⟨⟨⟩,Li.Lk f c _ _ rfl k⟩
def aes(f:Nat)(y0 a b c:Int):Prop:=Li.du [] [y0,a,b,c] (Li.pF 99 f).1
theorem gj(f c:Nat){y0 a b d:Int}(k:af=Li.lc f c:=by kernel_rfl):True/\aes f y0 a b d:=⟨⟨⟩,Li.Lk f c _ _ rfl k⟩
def aet(f:Nat)(y0 a b c d:Int):Prop:=Li.du [] [y0,a,b,c,d] (Li.pF 99 f).1
theorem qy(f c:Nat){y0 a b d e:Int}(k:af=Li.lc f c:=by kernel_rfl):True/\aet f y0 a b d e:=⟨⟨⟩,Li.Lk f c _ _ rfl k⟩
def aeu(f:Nat)(y0 a b c d e:Int):Prop:=Li.du [] [y0,a,b,c,d,e] (Li.pF 99 f).1
theorem qz(f c:Nat){y0 a b d e g:Int}(k:af=Li.lc f c:=by kernel_rfl):True/\aeu f y0 a b d e g:=⟨⟨⟩,Li.Lk f c _ _ rfl k⟩
def aev(f:Nat)(a:Nat):Prop:=Li.du [a] [] (Li.pF 99 f).1
theorem kl(f c:Nat){a:Nat}(k:af=Li.lc f c:=by kernel_rfl):True/\aev f a:=⟨⟨⟩,Li.Lk f c _ _ rfl k⟩
def aew(f:Nat)(a:Nat)(y0:Int):Prop:=Li.du [a] [y0] (Li.pF 99 f).1
theorem aff(f c:Nat){a:Nat}{y0:Int}(k:af=Li.lc f c:=by kernel_rfl):True/\aew f a y0:=⟨⟨⟩,Li.Lk f c _ _ rfl k⟩
def aex(f:Nat)(a:Nat)(y0 b:Int):Prop:=Li.du [a] [y0,b] (Li.pF 99 f).1
theorem afg(f c:Nat){a:Nat}{y0 b:Int}(k:af=Li.lc f c:=by kernel_rfl):True/\aex f a y0 b:=⟨⟨⟩,Li.Lk f c _ _ rfl k⟩
def aey(f:Nat)(a:Nat)(y0 b c:Int):Prop:=Li.du [a] [y0,b,c] (Li.pF 99 f).1
theorem afh(f c:Nat){a:Nat}{y0 b d:Int}(k:af=Li.lc f c:=by kernel_rfl):True/\aey f a y0 b d:=⟨⟨⟩,Li.Lk f c _ _ rfl k⟩
def aez(f:Nat)(a b:Nat):Prop:=Li.du [a,b] [] (Li.pF 99 f).1
theorem dz(f c:Nat){a b:Nat}(k:af=Li.lc f c:=by kernel_rfl):True/\aez f a b:=⟨⟨⟩,Li.Lk f c _ _ rfl k⟩
def aeA(f:Nat)(a b:Nat)(y0:Int):Prop:=Li.du [a,b] [y0] (Li.pF 99 f).1
theorem afi(f c:Nat){a b:Nat}{y0:Int}(k:af=Li.lc f c:=by kernel_rfl):True/\aeA f a b y0:=⟨⟨⟩,Li.Lk f c _ _ rfl k⟩
def aeB(f:Nat)(a b:Nat)(y0 c:Int):Prop:=Li.du [a,b] [y0,c] (Li.pF 99 f).1
theorem AY(f c:Nat){a b:Nat}{y0 d:Int}(k:af=Li.lc f c:=by kernel_rfl):True/\aeB f a b y0 d:=⟨⟨⟩,Li.Lk f c _ _ rfl k⟩
def aeC(f:Nat)(a b x2:Nat):Prop:=Li.du [a,b,x2] [] (Li.pF 99 f).1
theorem fq(f c:Nat){a b x2:Nat}(k:af=Li.lc f c:=by kernel_rfl):True/\aeC f a b x2:=⟨⟨⟩,Li.Lk f c _ _ rfl k⟩
def aeD(f:Nat)(a b x2:Nat)(y0 c:Int):Prop:=Li.du [a,b,x2] [y0,c] (Li.pF 99 f).1
theorem OP(f c:Nat){a b x2:Nat}{y0 d:Int}(k:af=Li.lc f c:=by kernel_rfl):True/\aeD f a b x2 y0 d:=⟨⟨⟩,Li.Lk f c _ _ rfl k⟩
def aeE(f:Nat)(a b x2 c:Nat):Prop:=Li.du [a,b,x2,c] [] (Li.pF 99 f).1
theorem gm(f c:Nat){a b x2 d:Nat}(k:af=Li.lc f c:=by kernel_rfl):True/\aeE f a b x2 d:=⟨⟨⟩,Li.Lk f c _ _ rfl k⟩
def aeF(f:Nat)(a b x2 c d:Nat):Prop:=Li.du [a,b,x2,c,d] [] (Li.pF 99 f).1
theorem oC(f c:Nat){a b x2 d e:Nat}(k:af=Li.lc f c:=by kernel_rfl):True/\aeF f a b x2 d e:=⟨⟨⟩,Li.Lk f c _ _ rfl k⟩
def aeG(f:Nat)(a b x2 c d e:Nat):Prop:=Li.du [a,b,x2,c,d,e] [] (Li.pF 99 f).1
theorem afj(f c:Nat){a b x2 d e g:Nat}(k:af=Li.lc f c:=by kernel_rfl):True/\aeG f a b x2 d e g:=⟨⟨⟩,Li.Lk f c _ _ rfl k⟩
def aeH(f:Nat)(a b x2 c d e g:Nat):Prop:=Li.du [a,b,x2,c,d,e,g] [] (Li.pF 99 f).1
theorem afk(f c:Nat){a b x2 d e g h:Nat}(k:af=Li.lc f c:=by kernel_rfl):True/\aeH f a b x2 d e g h:=⟨⟨⟩,Li.Lk f c _ _ rfl k⟩
open Li (Lk Lj)
theorem o0(p:a<b):a<b+4:=mK 4 p
theorem o1(p:b%2=0)(q:a%2=b%2):a%2=0:=q▸p
theorem o2{a:Int}(p:0<a):a≠0:=fN (wb p)
theorem o3{a:Int}(p:a<0):0< -a:=zu p
theorem o4:0<=0:=dN 0
theorem o5{a:Int}(p:0<a)(q:a=0):False:=wb p q.symm
theorem o6{a:Int}(p:¬a<0):0<=a:=rz.mp p
theorem o7{a b:Int}(p:b<a):0<a-b:=CU p
theorem o8{a:Int}(p:a<=0):0<=-a:=Int.neg_nonneg_of_nonpos p
theorem o9:a<b+1->¬a=b->a<b:=Lk 0x25024a08a4042912048 0x4411000108421 [a,b] []
theorem kU:a%4=0->a%2=0:=Lj 0xb0800a8881218b9910a4ccc8 0x10044108c2308401200260a801384600882c0052118001004a1 [a,(a/4),(a%4),(a/2),(a%2)] [] (au (au (rfl (a:=(a/4))) (rfl (a:=(a%4)))) (au (rfl (a:=(a/2))) (rfl (a:=(a%2)))))
theorem km{a:Int}(p:¬0<a):a<=0:=rz.mp p
theorem oG:¬a+2=a:=Lk 0x20414088a 0 [a] []
theorem mv:a<a+4:=Lk 0x8140902 0 [a] []
theorem mY:a<b+4->a-b<4:=Lj 0x205422052240909429c8 0x8821004410800110421 [a,b,(a-b)] [] (rfl (a:=(a-b)))
theorem mZ:a+(c+1)=b->a<b:=Lk 0x4a0490854240888 0x1005c008421 [a,b,c] []
theorem uZ{a b:Int}(p:0<=a)(q:0<=b):0<=a+b:=wa p q
theorem oH{a b:Int}(p:a-b=0):a=b:=YX p
theorem oJ{a:Int}(p:0<a):0<a:=p
theorem oK(p:a%4=0):(a+4)%4=0:=by rw[<-p];exact Nat.add_mod_right a 4
theorem qG(p:a<b):¬a=b+2:=cJ (mK 2 p)
theorem qH:a+2<a+4:=Lk 0x40a0420a042 0 [a] []
theorem qI{a:Int}(p:0<a):-a<0:=Zj.mpr p
theorem qJ{a b:Nat}(p:¬b<a):a<=b:=Nat.le_of_not_lt p
theorem sM:a-b=c+1->a-(b+1)=c:=Lj 0x298408542591010a448639285b8c8 0x401200280840118420004c1080270840110421000200d0011842000401400270840138420088210840008c210042178001 [a,b,c,(a-b),(a-(b+1))] [] (au (rfl (a:=(a-b))) (rfl (a:=(a-(b+1)))))
theorem sN{a b:Nat}(p:a<b):¬a=b:=cJ p
theorem xM{a:Int}:a<0->0<=-a:=Lk 0x100004200a068 0x8421 [] [a]
theorem sO{a b c:Int}:c<=0->c=b-a->0<=a-b:=Lk 0x940c010a123515000a828 0x12042008023 [] [a,b,c]
theorem xN{a:Int}(p:0<a):0<=a:=cn p
theorem qK:a%4=0->(a+2)%2=0:=Lj 0x58400544408414098b9910a4ccc8 0x10044108c2308401200260a801384600882c0052118001004a1 [a,(a/4),(a%4),((a+2)/2),((a+2)%2)] [] (au (au (rfl (a:=(a/4))) (rfl (a:=(a%4)))) (au (rfl (a:=((a+2)/2))) (rfl (a:=((a+2)%2)))))
theorem sQ{a:Int}(p:0< -a):a<0:=JN.mp p
theorem sS{a b:Int}(p:0<b)(q:a<0):a<b:=zt q p
theorem ve:a%4=0->(a+4)%2=0:=Lj 0x58400544408814098b9910a4ccc8 0x10044108c2308401200260a801384600882c0052118001004a1 [a,(a/4),(a%4),((a+4)/2),((a+4)%2)] [] (au (au (rfl (a:=(a/4))) (rfl (a:=(a%4)))) (au (rfl (a:=((a+4)/2))) (rfl (a:=((a+4)%2)))))
theorem xO(p:b%2=0)(q:c%2=b%2)(r:a%2=c%2):a%2=0:=p▸r▸q
theorem sT{a b:Int}(p:b<a):-a< -b:=Int.neg_lt_neg p
theorem vf{a b:Nat}:a<=b->¬a<b->a=b:=Lk 0x4a089409484a008 0x4410800100441 [a,b] []
theorem sU:a+(c+1)=b->a-1<b:=Lj 0x12b12421509022202142dc8 0x802600421080210c0000982100441080200cc0108601 [a,b,c,(a-1)] [] (rfl (a:=(a-1)))
theorem vg{a b:Int}(p:0<b)(q:a=-b):a<0:=by subst q;exact Zj.mpr p
theorem vh{a b:Int}(p:0<b)(q:a=b):0<a:=q▸p
theorem vi(p:b%2=0)(q:a%2=c%2)(r:c%2=b%2):a%2=0:=p▸r▸q
theorem vj:b<a->a+1-(b+1)<a+1-b:=Lj 0x16a12122424214096e0852208502538c8 0x9021004a108001204410002408801 [a,b,((a+1)-(b+1)),((a+1)-b)] [] (au (rfl (a:=((a+1)-(b+1)))) (rfl (a:=((a+1)-b))))
theorem vk{a b c:Nat}(p:c<=b)(q:a<c):a<b:=fj q p
theorem RO:0<0+1+1+1+1:=Nat.zero_lt_succ 3
theorem RP:1<0+1+1+1+1:=Nat.one_lt_succ_succ 2
theorem RQ:2<0+1+1+1+1:=wy rfl
theorem RR:3<0+1+1+1+1:=aan 3
theorem GC{a:Int}:0<=a->a<0->False:=Lk 0x2c0140d0800428 0x8022 [] [a]
theorem Bh{a b:Int}(p:b-a=0):a=b:=kD (YX p)
theorem xP{a:Int}:0<a->a<0->False:=Lk 0x2c0140d0800468 0x8022 [] [a]
theorem xQ{a:Int}:a<0->0<a->False:=Lk 0x2d0008d000a068 0x8421 [] [a]
theorem xR:a+6<a+8:=Lk 0x80a0460a042 0 [a] []
theorem xS:a+4<a+8:=Lk 0x80a0440a042 0 [a] []
theorem xT:a<a+8:=Lk 0x10140902 0 [a] []
theorem sW(p:2<=b)(q:a=b):2<=a:=q▸p
theorem Bi{a b:Int}:b<a->0<=a-b:=Lk 0x1281802142468 0x8022 [] [a,b]
theorem xU{a b:Int}(p:b<0)(q:a=-b):0<a:=by subst q;exact zu p
theorem Bj(p:a+(b+1)<1000):a<1000:=wx p
theorem Bk{a b:Int}:0<a/\b<0\/a<0/\0<b->0< -a/\-b<0\/-a<0/\0< -b:=Lk 0x240008c0140066005201a00008cc74802300503300291a001198e8 0x8022000011042008001084200040118401 [] [a,b]
theorem GF{a:Int}(p:a<0):a<=0:=cn p
theorem Bl(p:b-a=c+1):a<b:=wy p
theorem Bm{a:Int}(p:a<0):a<0:=p
theorem Bn:b-a=0->a<=b->a=b:=Lj 0x94112802001511084a9c8 0x210840008c21004a108400084210002009c21 [a,b,(b-a)] [] (rfl (a:=(b-a)))
theorem Bo:b<64->a=b->a<=16777216:=Lk 0x20000005f85004a0881005f0a448 0x12042008421 [a,b] []
theorem Bp:¬a+6=a+4:=rG (iy (pN (uk (a+4))))
theorem Bq:¬a=a+4:=cJ (KQ (fF a 3))
theorem Br{a b:Int}(p:a<b):a-b<0:=Zl p
theorem GG{a b c:Int}:b<0->b=c-a->0<=c->0<a:=Lk 0x400235002142143495000a468 0x20090012842008024 [] [a,b,c]
theorem Bu{a b:Int}:b<a->a<2*a-b:=Lk 0x250220d0342468 0x8022 [] [a,b]
theorem GH{a b:Int}(p:0<b-a):a<b:=Ze p
theorem Bv:6*a<=100000000->a+a<=134217728:=Lk 0x100000006f85081005f5e10037c2831008 0x8461 [a] []
theorem Bw(p:a<b):a+1<b+1:=Nat.add_lt_add_right p 1
theorem o73:a≠a+1:=Nat.ne_add_one a
theorem GI{a b c:Int}:a=b+0*c->0<b->0<a:=Lk 0x8004690046850089120a8 0x10046008024 [] [a,b,c]
theorem GJ{a:Nat}:a<100000->(a:Int)<2^63:=Lk 0x80000000000000006fc2830c61a809f0a048 0x8421 [a] []
theorem GL{a b c:Int}:a=b-c->0<=c-b->a<=0:=Lk 0xa02950c010a1491a0a8 0x11042008821 [] [a,b,c]
theorem RU{a b:Int}(p:b=0)(q:a=-b):a=0:=by subst p;exact kD ((λ{a b}=>CT.mp) (congrArg Neg.neg q.symm))
theorem GN{a b:Int}:0<b+a->b<0->0<a:=Lk 0x40023005234212200468 0x11042008023 [] [a,b]
theorem GO{a b c:Int}:a-b=-c->0<c->b<0->a<0:=Lk 0xa0600a468500234280940ca8 0x20094011042008c21 [] [a,b,c]
theorem GP{a b c:Int}:b-a=-c->c<0->b<0->a<0:=Lk 0xa0600a468005434280848ca8 0x24084011042009021 [] [a,b,c]
theorem GQ{a:Int}(p:0<=a)(q:a≠0):0<a:=DD p (id (fN q))
theorem GR{a:Int}(p:a<=0)(q:a≠0):a<0:=DD p q
theorem GS{a b:Int}:0<b+a->0<a+b:=Lk 0x9408011a12200468 0x8022 [] [a,b]
theorem RV{a:Int}(p:a<0):a≠0:=fN (Zh p)
theorem GU:a+2<a+8:=Lk 0x80a0420a042 0 [a] []
theorem GV{a:Nat}:(a:Int)-(a:Int)<=0:=Lk 0x50641861 0 [a] []
theorem GW{a b:Nat}:(a:Int)-((b:Int)+1)=(a:Int)-(b:Int)-1:=kD (Int.sub_sub (a) (b) 1)
theorem GX(p:a+1<b+1):a<b:=Nat.succ_lt_succ_iff.mp p
theorem GY:a+(4-(b-a))%4<a+4:=Lj 0x40a04d408445b5935102b7212a718c8 0x2108400 [a,b,(b-a),(4-(b-a)),((4-(b-a))/4),((4-(b-a))%4)] [] (au (au (rfl (a:=(b-a))) (rfl (a:=(4-(b-a))))) (au (rfl (a:=((4-(b-a))/4))) (rfl (a:=((4-(b-a))%4)))))
theorem GZ:b<a+4->¬b<a->(a+(4-(b-a))%4)%2=b%2:=Lj 0x22f2212252081409224093184c4d409ee9916d64d440adc84a9c6318c8 0x2008c21004c009423084011803909801287400882c005214802a0b801584600bc32005e1700011042108028004811042108c01c84c00943a00541100270ac01185c00ac2b005e19002f0b82000401180310c40100021084214848108028004017803008c01005200b42200421600260bc01707200c42300401800300d40190620004210842908821105000803300581100210a401684400842c004c17802e0e401884600803000601a80320c4200062188021 [a,b,(b-a),(4-(b-a)),((4-(b-a))/4),((4-(b-a))%4),((a+((4-(b-a))%4))/2),((a+((4-(b-a))%4))%2),(b/2),(b%2)] [] (au (au (au (au (rfl (a:=(b-a))) (rfl (a:=(4-(b-a))))) (au (rfl (a:=((4-(b-a))/4))) (rfl (a:=((4-(b-a))%4))))) (au (rfl (a:=((a+((4-(b-a))%4))/2))) (rfl (a:=((a+((4-(b-a))%4))%2))))) (au (rfl (a:=(b/2))) (rfl (a:=(b%2)))))
theorem Ha:¬a=a+4+2:=Lk 0x41205021208a 0x22 [a] []
theorem Hb:a+2<a+4+4:=Lk 0x20481408420a042 0 [a] []
theorem Hc:a+4<a+4+4:=Lk 0x20481408440a042 0 [a] []
theorem o95{a:Int}(p:¬0<=a):a<0:=JJ p
theorem Hd{a b:Int}:b<0->0<a->0<a-b:=Lk 0x4a06008d0008d000a468 0x11842008022 [] [a,b]
theorem He(p:a<b+1)(q:¬a<b):a=b:=KA p q
theorem Hf{a b:Int}:a<0->0<b->a-b<0:=Lk 0x52818d2008d000a068 0x10046008821 [] [a,b]
theorem Hg{a b:Int}:0<a->b<0->0<a-b:=Lk 0x4a06008c0148d0800468 0x11042008023 [] [a,b]
theorem Gn(p:a+(b+1)=c):a+1+b=c:=by subst p;exact KP a b
theorem Gp{a b:Int}:¬0< -a+-b->0<=a+b:=Lk 0x4a040085204004008d48 0x8022 [] [a,b]
theorem Gq:b<=36->a=b->a<=70:=Lk 0x8c2f85004a0880905f0a408 0x12042008421 [a,b] []
theorem Gr{a b c:Int}:b-a+c=0->0<b->0<c->0<a:=Lk 0x20011a8011a12008d000a909188a8 0x20090010048008024 [] [a,b,c]
theorem Gs(p:a<=b):a+0<b+1:=uj p
theorem Gu(p:a<b):a+0<b+c:=mK c p
theorem Gv:a<=0->b<a->False:=Lk 0x168489000a008 0x1005c008421 [a,b] []
theorem Gw:c<=b+1->a<c->a<=b:=Lk 0x128029024042912808 0x10048008421 [a,b,c] []
theorem Gy:b+1<=a->a=a-1+1:=Lj 0x42a120880852202021429c8 0x8c210002008c200040128024084000902100421080210c021 [a,b,(a-1)] [] (rfl (a:=(a-1)))
theorem Gz(p:a+1<=b+1):a<=b:=pK p
theorem Pr(p:a+b<1000):a<1000:=wx p
theorem Pu(p:a<500):a<1000:=eT p (by decide)
theorem Pw{a b:Int}:b<0->0<=b->a<=0:=Lk 0x140520085000a468 0x8822 [] [a,b]
theorem Py:b<=a->a<b->a=b\/a=b+2:=Lk 0x41489044a0874a04842408 0x2008800 [a,b] []
theorem Pz{a:Int}:a<0->-a≠0:=Lk 0x28015400a068 0x8821 [] [a]
theorem PA{a:Nat}:a<2^60->(a:Int)<2^63:=Lk 0x10000000000000000df8506184000000000000001bf0a048 0x8421 [a] []
theorem PB{a b:Nat}(p:¬b<=a):a<=b:=aaj p
theorem PC:13<=14:=by decide
theorem PD{a b:Int}(p:a=-b)(q:b=0):a=0:=by subst p;exact Int.neg_eq_zero.mpr q
theorem PE{a b c:Int}(p:a=b-c)(q:b<c):a<0:=by subst p;exact Zl q
theorem PF{a b:Int}:0<b->a=b->a≠0:=Lk 0x1415494150900468 0x10842008c25 [] [a,b]
theorem PG{a b c:Int}:b<0->c=a->c=-b->0<a:=Lk 0x10008d2051508515000a468 0x21084013048008024 [] [a,b,c]
theorem PH{a b:Int}:a<=b\/b<=a:=zo a b
theorem PJ{a b c:Int}:b=c-a->b<0->0<=c->0<a:=Lk 0x4002350021400291a10a1a4a8 0x20090011842008025 [] [a,b,c]
theorem PK{a b c:Int}(p:0<b)(q:c=b)(r:a=c):0<a:=r▸q▸p
theorem PL{a:Int}:0<a->a<=0->False:=Lk 0x2c014050800468 0x8022 [] [a]
theorem PM{a b c:Int}:b=a+0*c->0<b->0<a:=Lk 0x8004690046850088124a8 0x10046008023 [] [a,b,c]
theorem PN{a b:Int}:b≠a->a-b≠0:=Lk 0x5281954849548 0x4411000100461 [] [a,b]
theorem PO{a b:Int}(p:a<0)(q:0<b):a<b:=Zd p (cn q)
theorem PQ(p:a<=70):a<=1000:=eT p (by decide)
theorem PR(p:a-b=0):a<=b:=Nat.le_of_sub_eq_zero p
theorem PS{a b:Int}:a<0\/b<0->¬b<0->a<0:=Lk 0x503005235200148c0140ce8 0x4411000110421 [] [a,b]
theorem PT{a b c d:Int}:0<a->b<0->b+c+d=a->¬0<c->d<0->False:=Lk 0x1600ac68500235210b524422a00148d0800468 0x46108023084012842008c26 [] [a,b,c,d]
theorem PU{a b:Int}:a<0->0<b->0< -a/\-b<0:=Lk 0xa403400011992008d000a068 0x4011000110421 [] [a,b]
theorem PV{a b:Int}:b<0\/a<0->¬b<0->a<0:=Lk 0x503005235200140c0148ce8 0x4410800110441 [] [a,b]
theorem PW{a b c d:Int}:0<a->b<0->b+c+d=a->¬0<d->c<0->False:=Lk 0x1600a868580235210b524422a00148d0800468 0x48108022084012842008c26 [] [a,b,c,d]
theorem PX{a b:Int}:a<0\/b<0->b=0->a<0:=Lk 0x28180292a00148c0140ce8 0x4611800118421 [] [a,b]
theorem PY{a b:Int}:b<0\/a<0->0<b->a<0:=Lk 0x281a4011a00140c0148ce8 0x4410800110441 [] [a,b]
theorem PZ{a b c d:Int}:0<b->c<0->c+a+d=b->d<0->0<a:=Lk 0x20011802b1a12b428422a00150d0900468 0x4810802608401004e008024 [] [a,b,c,d]
theorem Qb{a b c d:Int}:0<b->c<0->c+d+a=b->d=0->0<a:=Lk 0x20011802b2a1285a8422a00150d0900468 0x48108027084010050008025 [] [a,b,c,d]
theorem Qc:a%4=0->(a+8)%4=0:=Lj 0x58400544411014098b9910a4ccc8 0x10842308c2318401200260a801384600882c0052118001004a1 [a,(a/4),(a%4),((a+8)/4),((a+8)%4)] [] (au (au (rfl (a:=(a/4))) (rfl (a:=(a%4)))) (au (rfl (a:=((a+8)/4))) (rfl (a:=((a+8)%4)))))
theorem Qf(p:9<=a):0+1<=a:=wu p
theorem Qg{a b c:Nat}(p:a<c)(q:c=b):a<b:=q▸p
theorem Qh{a:Nat}:0+(a:Int)*1=(a:Int):=Lk 0x1064182500445 1 [a] []
theorem Qi{a:Nat}:0+((a:Int)+1)*1=0+(a:Int)*1+1:=rfl
theorem Qj{a b c:Nat}:a<=b/\b<=c->a+(b-a)<=c:=Lj 0x14b4080a48128019084adc8 0x200940100440004a1080220840110421 [a,b,c,(b-a)] [] (rfl (a:=(b-a)))
theorem Qk:a+(b+1)=a+1+b:=kD (KP a b)
theorem Ql(p:a<eE 12 (b-1)):a<12:=fj p (aau 12 (b-1))
theorem Qm:a+1+4*(b+1)<100000->a<100000:=Lk 0x30d404f8502186a027c210a4442042810848 0x1005c308421 [a,b] []
theorem GA:a%4=0->4*((a+4)/4)+(a+4+2)%4=a+6:=Lj 0xc1409cb21044005444104120502139b3210281317322149998c8 0x40118c2008c012852309822005214800118420084211848118c2209461205600a02800521680220c00168461 [a,(a/4),(a%4),((a+4)/4),((a+4)%4),(((a+4)+2)/4),(((a+4)+2)%4)] [] (au (au (au (rfl (a:=(a/4))) (rfl (a:=(a%4)))) (au (rfl (a:=((a+4)/4))) (rfl (a:=((a+4)%4))))) (au (rfl (a:=(((a+4)+2)/4))) (rfl (a:=(((a+4)+2)%4)))))
theorem Qn{a b c:Nat}(p:b<c-a):a+b<c:=Nat.add_lt_of_lt_sub' p
theorem Qo:a%4=0->(a+6)%2=0:=Lj 0x58400544408c14098b9910a4ccc8 0x10044108c2308401200260a801384600882c0052118001004a1 [a,(a/4),(a%4),((a+6)/2),((a+6)%2)] [] (au (au (rfl (a:=(a/4))) (rfl (a:=(a%4)))) (au (rfl (a:=((a+6)/2))) (rfl (a:=((a+6)%2)))))
theorem Qp:¬a+2=a+4:=cJ (iy (pN (uk (a+2))))
theorem Qq:¬a+2=a+4+2:=cJ (iy (fF (uk (uk (a+2))) 2))
theorem Qr(p:a<b):¬a=b+4:=cJ (mK 4 p)
theorem Qs{a:Int}:0<=a->0<=- -a:=Lk 0x20000042800428 0x8022 [] [a]
theorem afG{a:Int}(p:0<=a):-a<=0:=Int.neg_le_zero_iff.mpr p
theorem Qt{a:Int}(p:0<a):¬a<0:=Zc p
theorem afH{a b:Int}(p:b<0)(q:b=-a):0<a:=by subst q;exact JP p
theorem Qu{a b:Int}(p:0<b)(q:b=-a):a<0:=by subst q;exact JN.mp p
theorem afI{a b c:Int}:a=b*0-c->0<=c->a<=0:=Lk 0xa02a00428524051a0a8 0x10046008821 [] [a,b,c]
theorem Qv{a b:Int}:0<a->b<=0->b=a->False:=Lk 0x2d092a0014850800468 0x11842008424 [] [a,b]
theorem Qw{a b c:Int}(p:c=-b)(q:a=c):a=-b:=q▸p
theorem Qx{a b c d:Int}:b=0->b+(c-a+d)=0->0<c->0<d->0<a:=Lk 0x10008d6008d0a004680056850c49115000a4a8 0x40128020094010050008024 [] [a,b,c,d]
theorem Qy:a<b/2->2*a<b:=Lj 0x250220948120495aa68 0x2009801004c010421 [a,b,(b/2),(b%2)] [] (au (rfl (a:=(b/2))) (rfl (a:=(b%2))))
theorem Qz:a<b/2->2*a+1<b:=Lj 0x1210a04410948120495aa68 0x2009801004c010421 [a,b,(b/2),(b%2)] [] (au (rfl (a:=(b/2))) (rfl (a:=(b%2))))
theorem QA{a:Nat}:0+(a:Int)*2=2*(a:Int):=Lk 0x418444184500445 1 [a] []
theorem QB{a b c:Int}:a<c->0<b->c<0->a<b:=Lk 0x940c0150d090046852068 0x23084010048008c21 [] [a,b,c]
theorem QC{a b c:Int}:b<=0->c=b->c=-a->0<=a:=Lk 0x1000850051509515000a428 0x2008801304a008023 [] [a,b,c]
theorem QD{a b c:Int}:b<0->c=b->a=-c->0<a:=Lk 0x10008d4041509515000a468 0x2008801304a008023 [] [a,b,c]
theorem QF{a b c:Int}:c<b->0<c->a<0->a<b:=Lk 0x940c0140d0a004684a868 0x2009401004a008421 [] [a,b,c]
theorem QG{a:Int}:0<=- -a->0<=a:=Lk 0x20010a00000428 0x8022 [] [a]
theorem QH{a b:Int}(p:a=b)(q:0<b):0<a:=p▸q
theorem QI{a:Int}(p:a=0)(q:0<a):False:=wb q p.symm
theorem QJ(p:a<0):False:=Nat.not_succ_le_zero a p
theorem QK(p:a<b):a+1<=b:=p
theorem GB(p:a<b):a<b+1:=mK 1 p
theorem QM(p:¬a<b)(q:a<b+1):a=b:=KA q p
theorem QN:¬a+2<a:=Nat.not_lt_of_le (fF a 2)
theorem QO{a b c:Nat}:¬a<c->¬b<c->a-c=b-c->a=b:=Lj 0x250462c885244a4290252149639485b8c8 0x40140022084014842000401580230840130421000280840118420090210052108001004c009c21084000802500541080015842009021004a10802608420004012802a0840008026004e108421 [a,b,c,(a-c),(b-c)] [] (au (rfl (a:=(a-c))) (rfl (a:=(b-c))))
theorem QP{a b c:Int}:b-c=a->b<c->0< -a:=Lk 0x200008d491a10a48ca8 0x11042008c21 [] [a,b,c]
theorem QQ{a b c:Int}:a-b=c->0< -c->a<b:=Lk 0x2503500011a14940ca8 0x11042008821 [] [a,b,c]
theorem QR{a b:Nat}(p:a<b)(q:b=a):False:=cJ p q.symm
theorem QS{a b c:Nat}:a<b->c=a->b<=c->False:=Lk 0xb52408428884a048 0x10046008024 [a,b,c] []
theorem QT{a b c:Int}:b-a+c=0->0<=b->0<=c->0<=a:=Lk 0x20010a8010a120085000a909188a8 0x20090010048008024 [] [a,b,c]
theorem QU{a b:Int}:0<a->0<=b->a=-b->False:=Lk 0x5a4082a1200850800468 0x10048008024 [] [a,b]
theorem QV(p:a=c)(q:b=c):a=b:=q▸p
theorem QW{a b:Int}:a=b->0<a->b<0->False:=Lk 0x2c0148d08004684a0a8 0x10842008822 [] [a,b]
theorem afJ{a:Int}(p:0<=a)(q:a<=0):a=0:=kD (Int.le_antisymm p q)
theorem afK{a b:Int}(p:0<=b)(q:0<a):0<a+b:=YW q p
theorem afL{a b:Int}(p:0<=a)(q:0<b):0<a+b:=YU p q
theorem QX:12<=12:=by decide
theorem QY(p:a<60):a<64:=eT p (by decide)
theorem QZ(p:b<60)(q:a=b):a<60:=q▸p
theorem Ra{a:Int}:0<=a->a<2->-9223372036854775808<=a/\a<9223372036854775808:=Lk 0x400000000000000037e140d080000000000000006fc200984140d0800428 0x4210800100461 [] [a]
theorem Rb:1<=5:=eT (pN 0) (zH (uk 0) 4)
theorem Rc(p:a+0=b):a<=b:=rD p
theorem Rd(p:a+0=b):a=b:=p
theorem Rf(p:a+(c+1)=b):a<=b:=Nat.le.intro p
theorem Rh:1<=a->a≠a-1:=Lj 0x25045202102021425c8 0x8024000240840100461 [a,(a-1)] [] (rfl (a:=(a-1)))
theorem Ri:1<=a+1:=zH 1 a
theorem Rj(p:a+1<=b):a<=b:=iy p
theorem Rk(p:a<c)(q:c+(d+1)=b):a<b:=by subst q;exact mK (d+1) p
theorem Rm:a<b->¬a=b-1->a<b-1:=Lj 0x1481290452128120214a9c8 0x94210044110001084210002009c0130420088220002108421 [a,b,(b-1)] [] (rfl (a:=(b-1)))
theorem Rn(p:1<=a):a-1<a:=KN p
theorem Ro:0<=a:=dN a
theorem Rp{a b c:Nat}(p:a<=c)(q:c<=b):a<=b:=eT p q
theorem Rq{a b:Nat}(p:a<b):a<b:=p
theorem Rr{a b c d:Nat}:c<b->d<=c->a<d->a<b:=Lk 0x25025a04852c084a848 0x2009401004a008421 [a,b,c,d] []
theorem Rt:c<a->a<b+1->a-1<b:=Lj 0x4ac410a4481210a1202142dc8 0x40128020088000982100421080230c40100441 [a,b,c,(a-1)] [] (rfl (a:=(a-1)))
theorem Ru{a:Int}:¬0<a->¬-a<0:=Lk 0x5001a90008d48 0x8421 [] [a]
theorem Rv{a:Int}(p:a<a):False:=wb p rfl
theorem Rx:b=1->c=0->a+(d+3)<1000->a+(b+0)+c+d<1000:=Lk 0x7d02f856a005224084217d02f84615890212001511010a488 0x24084012842008421 [a,b,c,d] []
theorem Ry:b=3->c=0->a+6*(d+3)<9900->a+(b+0)+c+6*d<9900:=Lk 0x9ab07f0acc450029120421093560fe1185623110212001511030a488 0x24084012842008421 [a,b,c,d] []
theorem RA{a b:Nat}:b<a->0<(a:Int)-(b:Int):=Lk 0x499061802342448 0x8022 [a,b] []
theorem RB{a b c:Int}:a=b+0*c->0<b->a<0->False:=Lk 0x2c0140d090046850089120a8 0x10046008024 [] [a,b,c]
theorem RC{a:Int}{b c:Nat}:b<c\/b=c/\0<a->b=c->0<a:=Lk 0x8004694110800469410c9408e8 0x4012000118461 [b,c] [a]
theorem RD(p:a<=b):a+1<=b+1:=aad p 1
theorem RE{a:Int}(p:-a<0):0<a:=JP p
theorem RF{a:Int}:a<=0->¬a=0->a<0:=Lk 0x28180282a9000a028 0x4411000108421 [] [a]
theorem RG{a:Int}(p:a=0)(q:¬a=0):False:=q p
theorem RH(p:a<500):a<4611686018427387904:=eT p (by decide)
theorem RK:a<500->a<=16777216:=Lk 0x20000005f85007d05f0a048 0x8421 [a] []
theorem RL{a:Int}:a<64->a<=16777216:=Lk 0x20000005f85011005f0a068 0x8421 [] [a]
theorem RM{a:Nat}:a<2^62->(a:Int)<2^63:=Lk 0x10000000000000000df8506190000000000000001bf0a048 0x8421 [a] []
theorem afM:a<=a+8:=fF a 8
theorem RN:a<=d+c->d<=b+1->a<=b+(c+1):=Lk 0x10a849120010a44b0214b12008 0x10046008821 [a,b,c,d] []
theorem afN:b<a->a-1-(a-b-1)=b:=Lj 0x9691091218a6b8215b1c942dc10a14e318c8 0xa421005610802c0840110420004014802e084014842008024080011842008039000200a001004800b821005210802509421000200ac01504200ac210058108022084000a021004a10802d0840108421000200e80110420004610802f084011842008425004a12842100020090000040008033004e1080230840100660004018802008801384410002308401006600040130020088013844108001 [a,b,(a-1),(a-b),((a-b)-1),((a-1)-((a-b)-1))] [] (au (au (au (rfl (a:=(a-1))) (rfl (a:=(a-b)))) (rfl (a:=((a-b)-1)))) (rfl (a:=((a-1)-((a-b)-1)))))
theorem afO:a<=a+4:=eT (bT a) (fF a 4)
theorem afP{a:Nat}:-2^63<=(a:Int):=Int.neg_ofNat_le_natCast (2^63) a
theorem afQ{a b c:Int}(p:c=a-b)(q:c<0):a<b:=by subst p;exact Int.lt_of_sub_neg q
theorem afR{a b:Int}(p:a=b-b):a=0:=by subst p;exact JQ b
theorem afS{a b:Int}(p:0<b)(q:a=b):0<=a:=by subst q;exact cn p
theorem afT(p:a<b)(q:a%2=0):a<b+4/\a%2=0:=by refine⟨?_,?_⟩<;>first|exact mK 4 p|exact kD (Nat.add_right_cancel (congrFun (congrArg YS q.symm) a))
theorem afU:a%4=0->a<a+4/\a%2=0:=Lj 0x58420502408c00a8881218b9910a4ccc8 0x4011042308c21004800982a004e1180220b001484600040128401 [a,(a/4),(a%4),(a/2),(a%2)] [] (au (au (rfl (a:=(a/4))) (rfl (a:=(a%4)))) (au (rfl (a:=(a/2))) (rfl (a:=(a%2)))))
theorem afV:a%4=0->a+2<a+4/\(a+2)%2=0:=Lj 0x161081408414084600544408414098b9910a4ccc8 0x4011042308c21004800982a004e1180220b001484600040128401 [a,(a/4),(a%4),((a+2)/2),((a+2)%2)] [] (au (au (rfl (a:=(a/4))) (rfl (a:=(a%4)))) (au (rfl (a:=((a+2)/2))) (rfl (a:=((a+2)%2)))))
theorem afW{a b:Int}(p:a-0=-b):a=-b:=by rw[<-p];exact kD (Int.sub_zero a)
theorem afX{a b:Int}(p:b=-a)(q:0<b):a<0:=by subst p;exact JN.mp q
theorem afY{a b:Int}(p:b+a=0)(q:0<b):a<0:=by rw[<-p];exact Int.lt_add_of_pos_left a q
theorem afZ{a b c:Int}(p:b-c=a)(q:c<b):0<a:=by subst p;exact CU q
theorem af0{a b c:Int}(p:b-a=c)(q:0<c):a<b:=by subst p;exact Ze q
theorem af1{a b:Int}(p:a+b=0)(q:0<b):a<0:=by rw[<-p];exact Int.lt_add_of_pos_right a q
theorem af2{a b:Int}(p:a<0/\0<b):0< -a:=by obtain⟨c,hb⟩:=p;exact zu c
theorem af3:¬a+10=a+8:=rG (iy (pN (uk (a+8))))
theorem af4:a<b->a<b+8+4:=Lk 0x40a029109024a048 0x8421 [a,b] []
theorem af5:a+6≠a:=rG (KQ (fF a 5))
theorem af6(p:a<b):¬a=b+8:=cJ (mK 8 p)
theorem af7:a<b->¬a=b+8+2:=Lk 0x41405221208a4a048 0x8822 [a,b] []
theorem af8(p:a<b):¬a=b+6:=cJ (mK 6 p)
theorem af9(p:c<=b)(q:a=c+1):a<=b+1:=by subst q;exact aad p 1
theorem aga(p:2<=b)(q:a=b):0<a:=by subst q;exact KS p
theorem agb{a b c:Nat}:a-b=c+1->0<(a:Int)-(b:Int):=Lj 0x4990618023085425910942dc8 0x22084012042008830000240840110601 [a,b,c,(a-b)] [] (rfl (a:=(a-b)))
theorem agc(p:a-b=c+1):a-b=a-b-1+1:=by rw[p];exact Nat.add_left_inj.mpr rfl
theorem agd:b<1000->b-a=c+1->a<100000:=Lj 0x30d404f8502085425911f40be1489084adc8 0x4c10802008c012842008831000250840110621 [a,b,c,(b-a)] [] (rfl (a:=(b-a)))
theorem age:b<1000->b-a=c+1->a+1<100000:=Lj 0x186a027c210a042085425911f40be1489084adc8 0x4c10802008c012842008831000250840110621 [a,b,c,(b-a)] [] (rfl (a:=(b-a)))
theorem agf:a-c=b+1->a-1-b=c:=Lj 0x14d2042912c884b1ae0850c7290b718c8 0x4012802c084013842008c210002a084015842008c2100401284000902100401b00010052008024005210802a08401104c1080010072008039004e1080230840008421004a11002a0b0010052008025080012042008036000200a401004800a82100541080220dc2108001184200843000001 [a,b,c,(a-c),(a-1),((a-1)-b)] [] (au (au (rfl (a:=(a-c))) (rfl (a:=(a-1)))) (rfl (a:=((a-1)-b))))
theorem agg:b-c=a+1->a=b-(c+1):=Lj 0x310408502591010a849639495b8c8 0x4c108027084011042000401200280840118421000200a0013842009c210044108001006c008c210840008c210042188001 [a,b,c,(b-c),(b-(c+1))] [] (au (rfl (a:=(b-c))) (rfl (a:=(b-(c+1)))))
theorem agh:b-a=c+1->a+1<=b:=Lj 0x1210a04008542591084adc8 0x2008c012042008830000240840110601 [a,b,c,(b-a)] [] (rfl (a:=(b-a)))
theorem agi:d-c=b+1->a=2*d->a-1-(2*b+1)=2*c:=Lj 0x2844711622208808522611010a444135ce0850d7296c718c8 0x4014002f08421184200a421004a1080010046008048009a11002a09001004e1000260840100b0000401400200b801088210882900981080440a0210002008821484a00803600501080230d400080012842008c3200001 [a,b,c,d,(d-c),(a-1),((a-1)-((2*b)+1))] [] (au (au (rfl (a:=(d-c))) (rfl (a:=(a-1)))) (rfl (a:=((a-1)-((2*b)+1)))))
theorem agj:d-c=b+1->a=2*d->a-1-2*b=2*c+1:=Lj 0x42a1104e22c44411010a44c22122235ce0850d7296c718c8 0x4014002f08421184200a421004a1080010046008048009a11002a09001004e100020098010058008059009610804309c010002008821484a00803600501080230d400080012842008c3200001 [a,b,c,d,(d-c),(a-1),((a-1)-(2*b))] [] (au (au (rfl (a:=(d-c))) (rfl (a:=(a-1)))) (rfl (a:=((a-1)-(2*b)))))
theorem agk{a:Nat}:¬(a:Int)<0:=Int.not_ofNat_neg a
theorem agl{a b:Nat}(p:b<=fv):eE a b<=fv:=eT (aav a b) p
theorem agm:a+1+b=a+(b+1):=KP a b
theorem agn:d<b+1-c->a<=d->a<=b-c:=Lj 0x6a00b4010c5890a4b5ca08522638c8 0x4e108028084011842008421000200a401404200a02100461080210842000481080220bc01 [a,b,c,d,((b+1)-c),(b-c)] [] (au (rfl (a:=((b+1)-c))) (rfl (a:=(b-c))))
theorem ago:c<=b->a<b-c+1->a<b+1-c:=Lj 0x310208562409095010a08522639495b8c8 0x260840138420084210002508c20004013002009c0138420084210002508c21 [a,b,c,(b-c),((b+1)-c)] [] (au (rfl (a:=(b-c))) (rfl (a:=((b+1)-c))))
theorem agp:a<b-c+1+d->a=b-c+1+(a-(b-c+1))->a-(b-c+1)<d:=Lj 0x16d1342160848221610b042409010b0486b949638c8 0x4012002009000 [a,b,c,d,(b-c),(a-((b-c)+1))] [] (au (rfl (a:=(b-c))) (rfl (a:=(a-((b-c)+1)))))
theorem agq:4*(a/4)+(a+1)%4=4*(b/4)+(b+1)%4->a=b:=Lj 0x94122e2104d51082220810a45184c897ba64085026b26442d53318c8 0x4410802008c613046309036184a11802009801405a00a827004e1300220c401804600a82a005e1980011042008023184c118c240b8612846008027004e1a80320a001784e00842900501180280b00188621 [a,b,(a/4),(a%4),((a+1)/4),((a+1)%4),(b/4),(b%4),((b+1)/4),((b+1)%4)] [] (au (au (au (au (rfl (a:=(a/4))) (rfl (a:=(a%4)))) (au (rfl (a:=((a+1)/4))) (rfl (a:=((a+1)%4))))) (au (rfl (a:=(b/4))) (rfl (a:=(b%4))))) (au (rfl (a:=((b+1)/4))) (rfl (a:=((b+1)%4)))))
theorem agr:4*((4*(a/4)+(a+2)%4)/4)+(4*(a/4)+(a+2)%4+2)%4=a:=Lj 0x883484110820b124208507cc8c49082736641050262e6442933318c8 0x100440084241846110c2f09401884a308430004814002508c01405000bc2f000220840100463088251848188c31088011860008c28004a1280260a80168621 [a,(a/4),(a%4),((a+2)/4),((a+2)%4),(((4*(a/4))+((a+2)%4))/4),(((4*(a/4))+((a+2)%4))%4),((((4*(a/4))+((a+2)%4))+2)/4),((((4*(a/4))+((a+2)%4))+2)%4)] [] (au (au (au (au (rfl (a:=(a/4))) (rfl (a:=(a%4)))) (au (rfl (a:=((a+2)/4))) (rfl (a:=((a+2)%4))))) (au (rfl (a:=(((4*(a/4))+((a+2)%4))/4))) (rfl (a:=(((4*(a/4))+((a+2)%4))%4))))) (au (rfl (a:=((((4*(a/4))+((a+2)%4))+2)/4))) (rfl (a:=((((4*(a/4))+((a+2)%4))+2)%4)))))
theorem ags:4*(a/4)+(a+2)%4≠a:=Lj 0x218921044510414098b9910a4ccc8 0x2008861084e309022 [a,(a/4),(a%4),((a+2)/4),((a+2)%4)] [] (au (au (rfl (a:=(a/4))) (rfl (a:=(a%4)))) (au (rfl (a:=((a+2)/4))) (rfl (a:=((a+2)%4)))))
theorem agt:c%2=b%2->a%2=(c+1)%2->a%2≠b%2:=Lj 0x3a0454a04439844082150a51989107cc497366253173318c8 0x8022084a118420098013844008428004814002708c01506c00d429 [a,b,c,(c/2),(c%2),(b/2),(b%2),(a/2),(a%2),((c+1)/2),((c+1)%2)] [] (au (au (au (au (rfl (a:=(c/2))) (rfl (a:=(c%2)))) (au (rfl (a:=(b/2))) (rfl (a:=(b%2))))) (au (rfl (a:=(a/2))) (rfl (a:=(a%2))))) (au (rfl (a:=((c+1)/2))) (rfl (a:=((c+1)%2)))))
theorem agu:¬b%2=0->a%2≠b%2->a%2=0:=Lj 0x2d22da45200159148121ac9892b54cc8 0x23084010044000020088013844000401284200040138001 [a,b,(b/2),(b%2),(a/2),(a%2)] [] (au (au (rfl (a:=(b/2))) (rfl (a:=(b%2)))) (au (rfl (a:=(a/2))) (rfl (a:=(a%2)))))
theorem agv{a b:Int}:b<=23->0<=a->a<b->2^5<=2^KB->fY a<2^KB:=Lj 0x84890100be1021281a100085170a428425a8 0x8026004c1080200880009c2100481080260840100441 [(2^KB),(fY a)] [a,b] (rfl (a:=(fY a)))
theorem agw:b<=63->a=b->a<=16777216:=Lk 0x20000005f85004a0880fc5f0a408 0x12042008421 [a,b] []
theorem agx:eE 12 (a-1)<=1000:=Lj 0x7d02f85404b02a784284b8c8 0x120420084210002108420 [a,(a-1),(eE 12 (a-1))] [] (au (rfl (a:=(a-1))) (rfl (a:=(eE 12 (a-1)))))
theorem agy:a+1+4*b<100000->a<100000:=Lk 0x61a809f0a0430d404f85242042810848 0x1005c308421 [a,b] []
theorem agz:a+1+4*b<100000->a+4*b<100000:=Lk 0x61a809f0a484408430d404f85242042810848 0x8421 [a,b] []
theorem agA(p:a=c+(b+1)):a-1-b=c:=by subst p;exact kD (aah rfl)
theorem agB:a+1+4*(b+1)<100000->a+4+4*b<100000:=Lk 0x186a027c292108140842186a027c210a4442042810848 0x8421 [a,b] []
theorem agC:a+2*(b+1)<100000->a+2+2*b<100000:=Lk 0x30d404f852220828108430d404f84214884440848 0x8421 [a,b] []
theorem agD:4*((4*(a/4)+(a+1)%4)/4)+(4*(a/4)+(a+1)%4+1)%4=4*(a/4)+(a+2)%4:=Lj 0x24921050690822104140a51990216248410a0f991892104e6cc810a04c5cc8852666318c8 0x4410802009061284430d027006c118c200d4011052009826004e1580280880158560004011802008c61104e309836186c1100210d401384400902800441580280a001485a1 [a,(a/4),(a%4),((a+1)/4),((a+1)%4),(((4*(a/4))+((a+1)%4))/4),(((4*(a/4))+((a+1)%4))%4),((((4*(a/4))+((a+1)%4))+1)/4),((((4*(a/4))+((a+1)%4))+1)%4),((a+2)/4),((a+2)%4)] [] (au (au (au (au (au (rfl (a:=(a/4))) (rfl (a:=(a%4)))) (au (rfl (a:=((a+1)/4))) (rfl (a:=((a+1)%4))))) (au (rfl (a:=(((4*(a/4))+((a+1)%4))/4))) (rfl (a:=(((4*(a/4))+((a+1)%4))%4))))) (au (rfl (a:=((((4*(a/4))+((a+1)%4))+1)/4))) (rfl (a:=((((4*(a/4))+((a+1)%4))+1)%4))))) (au (rfl (a:=((a+2)/4))) (rfl (a:=((a+2)%4)))))
theorem agE:b%4=0->a<b->4*(a/4)+(a+1)%4<b:=Lj 0x97b084109281200159104085027ba64435932256a998c8 0x42108c22090614842009024004212802c0b001186200b824 [a,b,(b/4),(b%4),(a/4),(a%4),((a+1)/4),((a+1)%4)] [] (au (au (au (rfl (a:=(b/4))) (rfl (a:=(b%4)))) (au (rfl (a:=(a/4))) (rfl (a:=(a%4))))) (au (rfl (a:=((a+1)/4))) (rfl (a:=((a+1)%4)))))
theorem agF:b%4=0->a<b->4*(a/4)+(a+2)%4<b:=Lj 0x97b084109281200159104105027ba64435932256a998c8 0x42108c22090614842009024004212802c0b001186200b824 [a,b,(b/4),(b%4),(a/4),(a%4),((a+2)/4),((a+2)%4)] [] (au (au (au (rfl (a:=(b/4))) (rfl (a:=(b%4)))) (au (rfl (a:=(a/4))) (rfl (a:=(a%4))))) (au (rfl (a:=((a+2)/4))) (rfl (a:=((a+2)%4)))))
theorem agG:a%4=0->4*(a/4)+(a+2)%4=a+2:=Lj 0x41409892104400544410414098b9910a4ccc8 0x40118c2008c0128523098220052118001084230882218441480260980108561 [a,(a/4),(a%4),((a+2)/4),((a+2)%4)] [] (au (au (rfl (a:=(a/4))) (rfl (a:=(a%4)))) (au (rfl (a:=((a+2)/4))) (rfl (a:=((a+2)%4)))))
theorem agH:a%4=0->4*((a+2)/4)+(a+2+2)%4=a:=Lj 0x21cb21044005444104110502139b3208281317322149998c8 0x1004a0084211848120c2009401385630a02400561580220c001684600042108c23088610848008c2800521680220c00168461 [a,(a/4),(a%4),((a+2)/4),((a+2)%4),(((a+2)+2)/4),(((a+2)+2)%4)] [] (au (au (au (rfl (a:=(a/4))) (rfl (a:=(a%4)))) (au (rfl (a:=((a+2)/4))) (rfl (a:=((a+2)%4))))) (au (rfl (a:=(((a+2)+2)/4))) (rfl (a:=(((a+2)+2)%4)))))
theorem agI:(4*(a/4)+(a+2)%4)%2=a%2:=Lj 0x20e209107cc4c49082736641050262e6442933318c8 0x1004410842408601100220c4011050009425004c1500270840008023084610803009421006200982200461380210a801384e1 [a,(a/4),(a%4),((a+2)/4),((a+2)%4),(((4*(a/4))+((a+2)%4))/2),(((4*(a/4))+((a+2)%4))%2),(a/2),(a%2)] [] (au (au (au (au (rfl (a:=(a/4))) (rfl (a:=(a%4)))) (au (rfl (a:=((a+2)/4))) (rfl (a:=((a+2)%4))))) (au (rfl (a:=(((4*(a/4))+((a+2)%4))/2))) (rfl (a:=(((4*(a/4))+((a+2)%4))%2))))) (au (rfl (a:=(a/2))) (rfl (a:=(a%2)))))
theorem agJ:(4*(a/4)+(a+1)%4)%2=(a+1)%2:=Lj 0x10710410a0507cc4c49082736640850262e6442933318c8 0x1004410842408601100220c4011050009425004c1500270840008023084610803009421006200982200461380210a801384e1 [a,(a/4),(a%4),((a+1)/4),((a+1)%4),(((4*(a/4))+((a+1)%4))/2),(((4*(a/4))+((a+1)%4))%2),((a+1)/2),((a+1)%2)] [] (au (au (au (au (rfl (a:=(a/4))) (rfl (a:=(a%4)))) (au (rfl (a:=((a+1)/4))) (rfl (a:=((a+1)%4))))) (au (rfl (a:=(((4*(a/4))+((a+1)%4))/2))) (rfl (a:=(((4*(a/4))+((a+1)%4))%2))))) (au (rfl (a:=((a+1)/2))) (rfl (a:=((a+1)%2)))))
theorem agK:c%2=d%2->e%2=c%2->f%2=d%2->a%2=g%2->b%2=(e+1)%2->g%2=(f+1)%2->a%2=b%2:=Lj 0x1cc1307d111ee111ac1112b1110a111281102085a2c1ff31042c17bb31279b989daccc48c5e626dab313293989728cc4a83e66318c6318c8 0x2008c214842008c2308401200250b4016042017c01a04600803300681b80340cc01284400d024004015802608401484a00cc2138be0084c2f86400d42148be008502f86800040118429084012046108023004a15802a0f001a04600803300681b80340cc01384400e02600521080200a001205600cc2138be0084c2f86400d42148be008502f8681 [a,b,c,d,e,f,g,(c/2),(c%2),(d/2),(d%2),(e/2),(e%2),(f/2),(f%2),(a/2),(a%2),(g/2),(g%2),(b/2),(b%2),((e+1)/2),((e+1)%2),((f+1)/2),((f+1)%2)] [] (au (au (au (au (au (au (au (au (au (rfl (a:=(c/2))) (rfl (a:=(c%2)))) (au (rfl (a:=(d/2))) (rfl (a:=(d%2))))) (au (rfl (a:=(e/2))) (rfl (a:=(e%2))))) (au (rfl (a:=(f/2))) (rfl (a:=(f%2))))) (au (rfl (a:=(a/2))) (rfl (a:=(a%2))))) (au (rfl (a:=(g/2))) (rfl (a:=(g%2))))) (au (rfl (a:=(b/2))) (rfl (a:=(b%2))))) (au (rfl (a:=((e+1)/2))) (rfl (a:=((e+1)%2))))) (au (rfl (a:=((f+1)/2))) (rfl (a:=((f+1)%2)))))
theorem agL:c%2=d%2->e%2=c%2->f%2=d%2->a%2=g%2->g%2=(e+1)%2->b%2=(f+1)%2->a%2=b%2:=Lj 0x1ec1307f111cd111ac1112b1110a111281102085a2c1ff3127dd9882160b9b989daccc48c5e626dab313293989728cc4a83e66318c6318c8 0x2008c21484200902308401180250ac01507800d02300401980340dc01a066009c2200781300200a401404200a4250066109c5f0042617c32007210a45f0042817c380002008c214842008c2308401200250b4016042417c01a04600803300681b80340cc01284400d024004e1080200a801205600cc2138be0084c2f86400e42148be008502f8701 [a,b,c,d,e,f,g,(c/2),(c%2),(d/2),(d%2),(e/2),(e%2),(f/2),(f%2),(a/2),(a%2),(g/2),(g%2),((e+1)/2),((e+1)%2),(b/2),(b%2),((f+1)/2),((f+1)%2)] [] (au (au (au (au (au (au (au (au (au (rfl (a:=(c/2))) (rfl (a:=(c%2)))) (au (rfl (a:=(d/2))) (rfl (a:=(d%2))))) (au (rfl (a:=(e/2))) (rfl (a:=(e%2))))) (au (rfl (a:=(f/2))) (rfl (a:=(f%2))))) (au (rfl (a:=(a/2))) (rfl (a:=(a%2))))) (au (rfl (a:=(g/2))) (rfl (a:=(g%2))))) (au (rfl (a:=((e+1)/2))) (rfl (a:=((e+1)%2))))) (au (rfl (a:=(b/2))) (rfl (a:=(b%2))))) (au (rfl (a:=((f+1)/2))) (rfl (a:=((f+1)%2)))))
theorem agM:c%2=d%2->a%2=(c+1)%2->d%2=(b+1)%2->a%2=b%2:=Lj 0x17892af22271221ed22049bda6208522ad262085429ca624461312dee9894d64cc6318c8 0x4011842708401204610802300461480280c801485c00b42a004611003408801384a00d42108be008402f86800ac2f005c1500010046109c21004611842009001184e00983a005217002d0a801284400b024004814803508422f802100be1a002b0bc0170541 [a,b,c,d,(c/2),(c%2),(d/2),(d%2),(a/2),(a%2),((c+1)/2),((c+1)%2),((b+1)/2),((b+1)%2),(b/2),(b%2)] [] (au (au (au (au (au (au (rfl (a:=(c/2))) (rfl (a:=(c%2)))) (au (rfl (a:=(d/2))) (rfl (a:=(d%2))))) (au (rfl (a:=(a/2))) (rfl (a:=(a%2))))) (au (rfl (a:=((c+1)/2))) (rfl (a:=((c+1)%2))))) (au (rfl (a:=((b+1)/2))) (rfl (a:=((b+1)%2))))) (au (rfl (a:=(b/2))) (rfl (a:=(b%2)))))
theorem agN:c%2=d%2->a%2=(c+1)%2->e%2=(b+1)%2->d%2=e%2->a%2=b%2:=Lj 0x6a44b4088c5888a488883888127599882148b1798996acc410a8549cc48946625c1f3129cd998c6318c8 0x2008c21484200902308401180250ac01506c00b42200421700290c0017854008c22007411002909401d842717c010985f0e801686200c02c00020088214844108c23004012002f090011860008c27004c10805f005218002f0a801284400b824004815803b084e2f802130be1d002d0c40180581 [a,b,c,d,e,(c/2),(c%2),(d/2),(d%2),(a/2),(a%2),((c+1)/2),((c+1)%2),(e/2),(e%2),((b+1)/2),((b+1)%2),(b/2),(b%2)] [] (au (au (au (au (au (au (au (rfl (a:=(c/2))) (rfl (a:=(c%2)))) (au (rfl (a:=(d/2))) (rfl (a:=(d%2))))) (au (rfl (a:=(a/2))) (rfl (a:=(a%2))))) (au (rfl (a:=((c+1)/2))) (rfl (a:=((c+1)%2))))) (au (rfl (a:=(e/2))) (rfl (a:=(e%2))))) (au (rfl (a:=((b+1)/2))) (rfl (a:=((b+1)%2))))) (au (rfl (a:=(b/2))) (rfl (a:=(b%2)))))
theorem agO:¬a<b->¬a=b->a-b=a-1-b+1:=Lj 0x85825112822909409484ad8e0850b7250a718c8 0x12842009c21005010800158420098210044108400004014002708401404200a42100023084010058008c210800108420084000803a00401b0029084014842000401d802009401005a009c21004610840008022004000802800401c8029084014842000421080220b0011842100021084010840009021000010044008001 [a,b,(a-b),(a-1),((a-1)-b)] [] (au (au (rfl (a:=(a-b))) (rfl (a:=(a-1)))) (rfl (a:=((a-1)-b))))
theorem agP:¬b<a->¬b=a->a+(b-1-a)=b-1:=Lj 0x14b40888491484244a4214b70429538c8 0x2008c0008c21080000942100501080210840008026004a108400084210042000441080010048100001304200802a0052108021084000802700401284000842100421 [a,b,(b-1),((b-1)-a)] [] (au (rfl (a:=(b-1))) (rfl (a:=((b-1)-a))))
theorem agQ{a b c:Nat}(p:c=b)(q:a<=c)(r:b≠a):a<b:=by subst p;exact aap q (id (fN r))
theorem agR:b=7/\a<5\/b=31/\a<19\/b=127/\a<77->a+1<=b:=Lk 0x484281004d17c2810fe2f852434c2817c3f0a4863942811c29218e8 0x1004a008421000200940108421000200940108421 [a,b] []
theorem agS:b<70->a*3<=(b+1)*5->a=7/\b<5\/a=31/\b<19\/a=127/\b<77->a=7/\b+1=5\/a=31/\b+1=19:=Lk 0x984214889f0fc28218a10852221c28218e268be14887f17c2821a6148be1f850431ca1488e1410c740429114a8194081185f0a448 0x250848118c60000010842000421090241902000441080010048108020004210800008421204832002000441080000802400421 [a,b] []
theorem agU(p:a+1=5):a+1<19:=by rw[p];exact wy rfl
theorem agV(p:a+1=19):a+1<77:=by rw[p];exact wy rfl
theorem agW:¬a*3<=(b+1)*5->a=7/\b<5\/a=31/\b<19\/a=127/\b<77->a=7/\b+1<5\/a=31/\b+1<19\/a=127/\b+1<77:=Lk 0x1345f084291087f17c2821a610852217c3f0a086394210a4423850431c4d17c2910fe2f850434c2917c3f0a0863942911c28218e8085222950328148 0x4011106209400088210002009021000000802220c4128000088210000100480084010002008883104a00000110420000010048000421 [a,b] []
theorem agX:¬a=a+2:=Lk 0x8281208a 0x22 [a] []
theorem agY:¬a+4=a+2:=Lk 0x41408814088a 0 [a] []
theorem agZ:¬a+6=a+2:=Lk 0x41408c14088a 0 [a] []
theorem ag0:a<b->¬a=b+4+2:=Lk 0x41205221208a4a048 0x8822 [a,b] []
theorem ag3:c%2=0->(a+4)%4=0->b%2=c%2->a%2=b%2:=Lj 0x8488c811000b88800584409128cc4983e64205027366253173318c8 0x8022084611042109001684800a82e004a1a803209801005a000401580200880128441 [a,b,c,(c/2),(c%2),((a+4)/4),((a+4)%4),(b/2),(b%2),(a/2),(a%2)] [] (au (au (au (au (rfl (a:=(c/2))) (rfl (a:=(c%2)))) (au (rfl (a:=((a+4)/4))) (rfl (a:=((a+4)%4))))) (au (rfl (a:=(b/2))) (rfl (a:=(b%2))))) (au (rfl (a:=(a/2))) (rfl (a:=(a%2)))))
theorem ag4:4*(a/4)+(a+2)%4<a+4:=Lj 0x40a04c49082110414098b9910a4ccc8 0x20088011044009c27 [a,(a/4),(a%4),((a+2)/4),((a+2)%4)] [] (au (au (rfl (a:=(a/4))) (rfl (a:=(a%4)))) (au (rfl (a:=((a+2)/4))) (rfl (a:=((a+2)%4)))))
theorem ag5:b%2=0->(c+4)%4=0->a%2=c%2->a%2=b%2:=Lj 0x64092811000b88800584409528cc4883e6420542736624b173318c8 0x8022084811042109401704400ac2f00481180250d401904c008027000200b80128421 [a,b,c,(b/2),(b%2),((c+4)/4),((c+4)%4),(a/2),(a%2),(c/2),(c%2)] [] (au (au (au (au (rfl (a:=(b/2))) (rfl (a:=(b%2)))) (au (rfl (a:=((c+4)/4))) (rfl (a:=((c+4)%4))))) (au (rfl (a:=(a/2))) (rfl (a:=(a%2))))) (au (rfl (a:=(c/2))) (rfl (a:=(c%2)))))
theorem ag6:b%4=0->a%2=0->a<b+4->¬a=b->¬a=b+2->a<b:=Lj 0x9408414890452128229040a44812001691000ac88121ac9912b54cc8 0x4011042508821084c00a02300401300270bc016050009c31005c1400010044109422084213002608c01004e009c2f00581400270c401705010002108401 [a,b,(b/4),(b%4),(a/2),(a%2)] [] (au (au (rfl (a:=(b/4))) (rfl (a:=(b%4)))) (au (rfl (a:=(a/2))) (rfl (a:=(a%2)))))
theorem ag7{a b:Int}(p:b<=0)(q:b=-a):0<=a:=by subst q;exact Zk p
theorem ag8{a b:Int}(p:0<=a):0<=a+((fY b):Int):=JI p (Int.le.intro b.natAbs rfl)
theorem ag9{a b c:Int}(p:b<c):a+b<a+c:=Int.add_lt_add_left p a
theorem aha{a:Int}(p:0<=a):0<a+2*2:=Int.lt_of_le_of_lt p (Int.lt.intro rfl)
theorem ahb{a b:Int}{c:Nat}:0<=b->a<=(c:Int)->a-b=2\/a-b=3->eE (bh a-bh b) (c-bh b)=2\/eE (bh a-bh b) (c-bh b)=3:=Lj 0x185a4105a438c2940ca20a50329d0832028480214316d7a90c7292b7254c42586318c8 0x4012802608800000200940130440004000000008036006a108025084010842009c23006410802b0a000088210064108022088011052008c26005212040000401b0035084012842008421004e118032084015850000022084019042008822004414802309801484800840008035006810802408401984200b021004a108001984200802300401800220a40198420088250800008035006810802408401984200b021004a1080000cc2100401180200c001105200cc210044128021080016842008421004412802608c000002d084010842008825004c118001004000802700401200200b401384e000001004e008024004016802709c000800100034084012842008421004e1180320840158500004410802208401206200842800521204000068108025084010842009c23006410802b0a000004410802208401206200842800521200210003308401204200cc2100581080250840008033004210803409401005c008027080000cc21004810803308401604200942100001006600842100681280200b801004e008420004016802008c013046000001005a008023004c118001004000b421004410802709c000002d084011042009c270002000421 [c,(bh a),(bh b),((bh a)-(bh b)),(c-(bh b)),(eE ((bh a)-(bh b)) (c-(bh b)))] [a,b] (au (au (au (au (rfl (a:=(bh a))) (rfl (a:=(bh b)))) (rfl (a:=((bh a)-(bh b))))) (rfl (a:=(c-(bh b))))) (rfl (a:=(eE ((bh a)-(bh b)) (c-(bh b))))))
theorem ahc{a b:Int}:a-b=2\/a-b=3->((bh b):Int)=b->0<=a:=Lj 0x20010a5062a0614a06510528194e84a188 0x802200421300210c4000802200421300210c420 [(bh b)] [a,b] (rfl (a:=(bh b)))
theorem ahd{a b:Int}:b-a=2\/b-a=3->bh a<=bh b:=Lj 0x9400614246510509194e84a588430c8 0x10060008421000000a02100401380230840130420005010802009c01184200982108001004e008c21004c108001004e008c21004c108421 [(bh a),(bh b)] [a,b] (au (rfl (a:=(bh a))) (rfl (a:=(bh b))))
theorem ahe{a b:Int}:a-b=2\/a-b=3->((bh b):Int)=b->bh a-bh b=2\/bh a-bh b=3:=Lj 0x30a8820a8874a0c540c2940ca20a50329d084a9c84b128618c8 0x2008801384a0080330000008022004e1280200cc000800008026004a108029084012842000581080210840108500090220800008026004a10802908401284200002c08401084200842800481100210002a084012042008027000000a821004810802009c0008420 [(bh b),(bh a),((bh a)-(bh b))] [a,b] (au (au (rfl (a:=(bh b))) (rfl (a:=(bh a)))) (rfl (a:=((bh a)-(bh b)))))
theorem ahf{a:Int}(p:a<0):¬¬a<0:=not_not_intro p
theorem ahg{a b c:Nat}(p:a<eE c b):a<b:=fj p (aav c b)
theorem ahh{a b c:Nat}(p:a<eE b c):a<b:=fj p (aau b c)
theorem ahi:a<13->a/2<=1000:=Lj 0x3e817c29034281204852668 0x2008c21004a008425 [a,(a/2),(a%2)] [] (au (rfl (a:=(a/2))) (rfl (a:=(a%2))))
theorem ahj:b<13->a<b/2->2*a<100000:=Lj 0x61a809f0a0441290243429120495aa68 0x4011842009c01184e110421 [a,b,(b/2),(b%2)] [] (au (rfl (a:=(b/2))) (rfl (a:=(b%2))))
theorem ahk:b<13->a<b/2->2*a+1<100000:=Lj 0x30d404f8421408821290243429120495aa68 0x4011842009c01184e110421 [a,b,(b/2),(b%2)] [] (au (rfl (a:=(b/2))) (rfl (a:=(b%2))))
theorem ahl{a:Nat}:0+(a:Int)*2+1=2*(a:Int)+1:=Lk 0x214184410428308a008845 1 [a] []
theorem ahm{a b c:Int}:a+b<c+b↔a<c:=Int.add_lt_add_iff_right b
theorem RS:a%2=0->a<b+4->b%4=0->¬a=b->¬a=b+2->a<b:=Lj 0x9408414890452128229000b48820522409000ac88225ac9890b54cc8 0x4011042308821084800a82500441300260bc01604e009c31005c1400010044108c22084212002609401104e00982f00581380270c401705010002108401 [a,b,(a/2),(a%2),(b/4),(b%4)] [] (au (au (rfl (a:=(a/2))) (rfl (a:=(a%2)))) (au (rfl (a:=(b/4))) (rfl (a:=(b%4)))))
theorem ahn{a b:Int}{c:Nat}:fY a<c->fY b<c->fY (a+b)<c*2:=Lj 0x20455890a121091212812da953509698c8 0x4017842008801086000842f004c1100250880108880080420002c08403704200804d004810802010c2000401680200e801005a00902100402180017842008039005210802408401008410800100600080390040150024084010084000581080200e801604200902100402184000802d00403780201340120420080430002e08421004400bc22005c1100260880128440084440040210421 [c,(fY a),(fY b),(fY (a+b))] [a,b] (au (au (rfl (a:=(fY a))) (rfl (a:=(fY b)))) (rfl (a:=(fY (a+b)))))
theorem aho{a b:Int}{c:Nat}:fY a<c->fY b<c->fY (a-b)<c*2:=Lj 0x20455890a12109121281ada953509698c8 0x581080200e801005a00902100402180017842008039004015002408401008410002e08421004400843000421780260880128440084440040210001005a01b8210040268024084010086108001604200806f00402680240840100860004017842008801784400b822004c1100250880108880080420800100600080390052108024084010084000401680200e80160420090210040218421 [c,(fY a),(fY b),(fY (a-b))] [a,b] (au (au (rfl (a:=(fY a))) (rfl (a:=(fY b)))) (rfl (a:=(fY (a-b)))))
theorem GD:a<a+1:=aan a
theorem ahp:a%4=0->b<4->4*((a+b)/4)+(a+b+1)%4=a+(b+1)%4:=Lj 0x11409ec21044205224002b220810a45184c810a50213dd3225026b26442d53318c8 0x2108401084a30ac22184212002609801104e30882e005615802c0c001684800c03000461a803209000088210048108c24088610842817c01304a00902718581100290b401206000b42d005c1900230d40190481 [a,b,(a/4),(a%4),((a+b)/4),((a+b)%4),(((a+b)+1)/4),(((a+b)+1)%4),((b+1)/4),((b+1)%4)] [] (au (au (au (au (rfl (a:=(a/4))) (rfl (a:=(a%4)))) (au (rfl (a:=((a+b)/4))) (rfl (a:=((a+b)%4))))) (au (rfl (a:=(((a+b)+1)/4))) (rfl (a:=(((a+b)+1)%4))))) (au (rfl (a:=((b+1)/4))) (rfl (a:=((b+1)%4)))))
theorem ahq:¬a+(4-b)%4<a:=Lj 0x10c4084a2298b9a481538c8 0x100460 [a,b,(4-b),((4-b)/4),((4-b)%4)] [] (au (rfl (a:=(4-b))) (au (rfl (a:=((4-b)/4))) (rfl (a:=((4-b)%4)))))
theorem ahr:¬a+(b+1)%4<a:=Lj 0x216810944085225aa68 0x8023 [a,b,((b+1)/4),((b+1)%4)] [] (au (rfl (a:=((b+1)/4))) (rfl (a:=((b+1)%4))))
theorem ahs{a:Int}:¬a<a:=zq a
theorem aht{a b:Int}(p:b=-a)(q:b<=0):0<=a:=by subst p;exact Zk q
theorem ahu:b%2=0->c%2=d%2->d%2=b%2->a%2=c%2->a%2=0:=Lj 0xcc8f9910d89111791000b488122729897184c4a7ba624b593318c8 0x20090010048008027004e12000100561 [a,b,c,d,(b/2),(b%2),(c/2),(c%2),(d/2),(d%2),(a/2),(a%2)] [] (au (au (au (au (rfl (a:=(b/2))) (rfl (a:=(b%2)))) (au (rfl (a:=(c/2))) (rfl (a:=(c%2))))) (au (rfl (a:=(d/2))) (rfl (a:=(d%2))))) (au (rfl (a:=(a/2))) (rfl (a:=(a%2)))))
theorem ahv{a b c:Int}(p:b+c=a)(q:b<0)(r:c<0):a<0:=by subst p;exact Int.add_neg q r
theorem ahw{a b c:Int}(p:b+c=a)(q:0<b)(r:0<c):0<a:=by subst p;exact Int.add_pos q r
theorem ahx{a:Nat}:¬a<a:=ui a
theorem ahy:a+(4-(a+2-a))%4=a+2:=Lj 0x10502620442298b9a481539020a049718c8 0x1006e30802300401280250a80008421184a110c2109c013846008026004c15802809c20004e1380200000138001 [a,((a+2)-a),(4-((a+2)-a)),((4-((a+2)-a))/4),((4-((a+2)-a))%4)] [] (au (au (rfl (a:=((a+2)-a))) (rfl (a:=(4-((a+2)-a))))) (au (rfl (a:=((4-((a+2)-a))/4))) (rfl (a:=((4-((a+2)-a))%4)))))
theorem ahz:eE 12 (a-1)<13:=Lj 0x685424b02a784284b8c8 0x120420084210002108420 [a,(a-1),(eE 12 (a-1))] [] (au (rfl (a:=(a-1))) (rfl (a:=(eE 12 (a-1)))))
theorem ahA:a<13->a/2<=6:=Lj 0x1829034281204852668 0x2008c21004a008425 [a,(a/2),(a%2)] [] (au (rfl (a:=(a/2))) (rfl (a:=(a%2))))
theorem ahB:c<b->b<a->a-1-b<a-1-c:=Lj 0x3582424484a84852dae4ad8e0850b718c8 0x1004a009421004c108001005400882608001004400a424004c108020090015044000401400200900150441080010064008024004a110001 [a,b,c,(a-1),((a-1)-b),((a-1)-c)] [] (au (au (rfl (a:=(a-1))) (rfl (a:=((a-1)-b)))) (rfl (a:=((a-1)-c))))
theorem ahC:c<a->a-1-b<a:=Lj 0x10c121424256c704285b8c8 0x200a00100680088210002308401005010002908401006c00902100421080210c8000902100421080210c821 [a,b,c,(a-1),((a-1)-b)] [] (au (rfl (a:=(a-1))) (rfl (a:=((a-1)-b))))
theorem ahD:a-c<=0->c<=b->a<=b:=Lj 0x94012a020015810a42dc8 0x240840100460090210002008c0128421 [a,b,c,(a-c)] [] (rfl (a:=(a-c)))
theorem ahE:d<c->b<=d->¬a>=b->(a+b)/2<c:=Lj 0x53048481485a40852c48125026b268 0x802a00821080230a4010048008024 [a,b,c,d,((a+b)/2),((a+b)%2)] [] (au (rfl (a:=((a+b)/2))) (rfl (a:=((a+b)%2))))
theorem ahF:¬a>=c->(a+c)/2=b->a<=b:=Lj 0x4a00959108501481290262e68 0x4e108042084021042009c24 [a,b,c,((a+c)/2),((a+c)%2)] [] (au (rfl (a:=((a+c)/2))) (rfl (a:=((a+c)%2))))
theorem ahG:¬c>=b->(c+b)/2=a->a<b:=Lj 0x4a0485910a481481254262e68 0x40148041084012050008821 [a,b,c,((c+b)/2),((c+b)%2)] [] (au (rfl (a:=((c+b)/2))) (rfl (a:=((c+b)%2))))
theorem ahH:d-b<=c+1->a<d->a-b<=c:=Lj 0x5340b409010a84c021286b92b638c8 0x1004e008421005011802008c0009021004019840008421004a11002908c010066000481080200cc21 [a,b,c,d,(d-b),(a-b)] [] (au (rfl (a:=(d-b))) (rfl (a:=(a-b))))
theorem ahI:a-d<=c+1->d<=b->a-(b+1)<=c:=Lj 0x29a04ac0808542601010a4486b968638c8 0x1004a00a421004810802008c0009021004019840008421004a1100220a8010066000481080200cc21 [a,b,c,d,(a-d),(a-(b+1))] [] (au (rfl (a:=(a-d))) (rfl (a:=(a-(b+1)))))
theorem ahJ:a-0<=a:=KL a 0
theorem ahK{a:Nat}:a<=a:=bT a
theorem ahL{a b:Nat}:a-b<=a:=KL a b
theorem ahM{a b c:Nat}:c<a->c=b->¬a=b:=Lk 0x4a08a4a88842848 0x12042008025 [a,b,c] []
theorem ahN(p:c<b)(q:c=a):a<=b-1:=by subst q;exact aal p
theorem ahO{a b c d:Nat}:b<d->d=a->¬(a<b/\b<=c):=Lk 0x52409408ca42c885a448 0x10048009022 [a,b,c,d] []
theorem ahP:d<b->b<c+1->a<d/\d<=c->a<b/\b<=c:=Lk 0x14902502329605a0464042a124484ac48 0x8c21000200980110421 [a,b,c,d] []
theorem ahQ:a<b+1->b-(b-c)=c->¬a=c->¬(c<a/\a<=b)->a<b:=Lj 0x1281250042846521482290a611010a44812169639495b8c8 0x4a11000108461000200d00110420098210046110020004a110001084610002708401204200843400420 [a,b,c,(b-c),(b-(b-c))] [] (au (rfl (a:=(b-c))) (rfl (a:=(b-(b-c)))))
theorem ahR{a b c:Nat}:c<=b->a<c->¬a=b:=Lk 0x4a08a520484a808 0x11842008424 [a,b,c] []
theorem ahS:c<=b->a<c->¬a=b+2:=Lk 0x8291208a520484a808 0x11842008424 [a,b,c] []
theorem ahT{a b c:Int}(p:a=b+c)(q:0<=b)(r:0<=c):0<=a:=by subst p;exact wa q r
theorem ahU{a b c:Int}(p:a=b+c)(q:0<=b)(r:0<c):0<a:=by subst p;exact YU q r
theorem ahV{a b c:Int}(p:a=b+c)(q:0<=c)(r:0<b):0<a:=by subst p;exact YW r q
theorem ahW{a:Nat}:0<=(a:Int):=JM a
theorem ahX:a<10000->2+4*a<100000:=Lk 0xc35013e14108208849c407f0a048 0x20421 [a] []
theorem ahY:eE 12 a/2<=6:=Lj 0x305401256a9a1814bcc8 0x8024084012802009401384c000401184200900128481 [a,(eE 12 a),((eE 12 a)/2),((eE 12 a)%2)] [] (au (rfl (a:=(eE 12 a))) (au (rfl (a:=((eE 12 a)/2))) (rfl (a:=((eE 12 a)%2)))))
theorem ahZ:a<100000->a+4<=16777216:=Lk 0x4000000bf0902810061a809f0a048 0x8421 [a] []
theorem ah0{a b c:Nat}:a<=c->eE (a-b) (c-b)=a-b:=Lj 0x16d229004316d7a54c7250b718c8 0x942100441080013042008421005211002608820004011800118421080012842008821000200d401084200a422004e110400088210002009021080012842008821000200c0012842100022084000802408401 [a,b,c,(a-b),(c-b),(eE (a-b) (c-b))] [] (au (au (rfl (a:=(a-b))) (rfl (a:=(c-b)))) (rfl (a:=(eE (a-b) (c-b)))))
theorem ah1{a b c:Int}:c<0->c=b-a->0<a-b:=Lk 0x940c011a123515000a868 0x12042008023 [] [a,b,c]
theorem ah2{a b:Int}(p:0<b)(q:b=a):0<a:=q▸p
theorem ah3{a:Nat}(p:a=0):0=(a:Int):=by subst p;exact Int.mem_toNat?.mp rfl
theorem ah4{a:Nat}:a<100000->(a:Int)<9223372036854775808/\(a=0\/(a:Int)<9223372036854775808):=Lk 0x10000000000000000df85061802821d0000000000000000df850619861a809f0a048 0x84210000108421 [a] []
theorem ah5{a b c:Nat}(p:a<=c):a-b<=c:=eT (KL a b) p
theorem ah6:a<=b->13+a<b+15:=Lk 0xf0a448684424a008 0x8421 [a,b] []
theorem ah7:b<=c->a<b->(a+b)/2<c:=Lj 0x29624a048524081250262e68 0x4014004108401104e008023 [a,b,c,((a+b)/2),((a+b)%2)] [] (au (rfl (a:=((a+b)/2))) (rfl (a:=((a+b)%2))))
theorem ah8:a<=b+(c+1)->a<=(b+a)/2+1+c:=Lj 0xa08562120010a849120081212262e68 0x98210042108022088010862009422 [a,b,c,((b+a)/2),((b+a)%2)] [] (au (rfl (a:=((b+a)/2))) (rfl (a:=((b+a)%2))))
theorem ah9:a<b->(a+b)/2+1<=b:=Lj 0x1210a8404a048125025aa68 0x20098020842008425 [a,b,((a+b)/2),((a+b)%2)] [] (au (rfl (a:=((a+b)/2))) (rfl (a:=((a+b)%2))))
theorem aia:b<=a+(c+1)->(a+b)/2<=a+c:=Lj 0x14812c010a848124081250262e68 0x8028004011802009c010862008022 [a,b,c,((a+b)/2),((a+b)%2)] [] (au (rfl (a:=((a+b)/2))) (rfl (a:=((a+b)%2))))
theorem aib:a<b->a<=(a+b)/2:=Lj 0x29004a048125025aa68 0x24084020842009422 [a,b,((a+b)/2),((a+b)%2)] [] (au (rfl (a:=((a+b)/2))) (rfl (a:=((a+b)%2))))
theorem aic:a<=0+a:=zH a 0
theorem aid{a:Nat}:2<=a->¬(a:Int)<2:=Lk 0x82830d4810408 0x8022 [a] []
theorem aie{a:Nat}{b c:Int}:2<=a->a<60->c=b->c=-(a:Int)%3->0<=((a:Int)-2*b)/3/\((a:Int)-2*b)/3<60:=Lj 0xf05f0b06c004265a4a8424a80f05f0a0484082040d02220c36b2834180b550c8 0x802208423280220c001384200a82a00461180010842211422104611006908823404a00c823004613003009401106600842a005e1480280b001084a1 [a] [b,c,((-(a:Int))/(3:Int)),((-(a:Int))%(3:Int)),(((a:Int)-((2:Int)*b))/(3:Int)),(((a:Int)-((2:Int)*b))%(3:Int))] (au (au (rfl (a:=((-(a:Int))/(3:Int)))) (rfl (a:=((-(a:Int))%(3:Int))))) (au (rfl (a:=(((a:Int)-((2:Int)*b))/(3:Int)))) (rfl (a:=(((a:Int)-((2:Int)*b))%(3:Int))))))
theorem aif{a:Int}(p:a<3):a<64:=Zd p (Int.le.intro_sub (64-uk 2) rfl)
theorem aih{a b:Int}:¬0<b->a<=0->a=-b->a=0:=Lk 0x50548105400280a12008d48 0x8c21000250840100461 [] [a,b]
theorem aii{a:Nat}:(a:Int)/2*2=((2*(a/2)):Int):=Lj 0x9110c8114a242933120c9450c8 0x20048108022004413002709c001002408421080240900128521 [a,(a/2),(a%2)] [((a:Int)/(2:Int)),((a:Int)%(2:Int))] (au (au (rfl (a:=((a:Int)/(2:Int)))) (rfl (a:=((a:Int)%(2:Int))))) (au (rfl (a:=(a/2))) (rfl (a:=(a%2)))))
theorem aij:2*(a/2)<=a:=Nat.mul_div_le a 2
theorem aik:a<a+4+4:=Lk 0x40902810902 0 [a] []
theorem ail:a%4=0->(a+4+4)%4=0:=Lj 0x2c2002a22084090281098b9910a4ccc8 0x10842308c2318401200260a801384600882c0052118001004a1 [a,(a/4),(a%4),(((a+4)+4)/4),(((a+4)+4)%4)] [] (au (au (rfl (a:=(a/4))) (rfl (a:=(a%4)))) (au (rfl (a:=(((a+4)+4)/4))) (rfl (a:=(((a+4)+4)%4)))))
theorem aim:(a+2)%2=(a+4)%2:=Nat.add_mod_eq_add_mod_left a rfl
theorem ain:b=a+8->a<b:=Lk 0x1281202812488 0x8821 [a,b] []
theorem aio:b=a+8->a+4<b:=Lk 0x9205021202812488 0x8821 [a,b] []
theorem aip:b=a+8->a+6<b:=Lk 0x9305021202812488 0x8821 [a,b] []
theorem aiq:a%4=0->4*((a+8)/4)+(a+8+2)%4=a+10:=Lj 0x141409cb21044005444104140502139b3220281317322149998c8 0x40118c2008c012852309822005214800118420084211848118c2209461205600a02800521680220c00168461 [a,(a/4),(a%4),((a+8)/4),((a+8)%4),(((a+8)+2)/4),(((a+8)+2)%4)] [] (au (au (au (rfl (a:=(a/4))) (rfl (a:=(a%4)))) (au (rfl (a:=((a+8)/4))) (rfl (a:=((a+8)%4))))) (au (rfl (a:=(((a+8)+2)/4))) (rfl (a:=(((a+8)+2)%4)))))
theorem air{a:Nat}:2<=a->((bh (-(a:Int)%3)):Int)*2+((bh (((a:Int)-2*(-(a:Int)%3))/3)):Int)*3=(a:Int):=Lj 0x419461952611445408204294c1a4444186b5512960d0602514318c8 0x1404221382100423088210c4017044009028000010064108421005214806308402484200062108420188019046208033004e158020194010096108001884210846110421980300900318420124210002a08401004420c82310401980270ac01009800806408001084200a42900c6108049084000802210641108210cc0108cc00982a0040258421 [a,(bh ((-(a:Int))%(3:Int))),(bh (((a:Int)-((2:Int)*((-(a:Int))%(3:Int))))/(3:Int)))] [((-(a:Int))/(3:Int)),((-(a:Int))%(3:Int)),(((a:Int)-((2:Int)*((-(a:Int))%(3:Int))))/(3:Int)),(((a:Int)-((2:Int)*((-(a:Int))%(3:Int))))%(3:Int))] (au (au (au (au (rfl (a:=((-(a:Int))/(3:Int)))) (rfl (a:=((-(a:Int))%(3:Int))))) (rfl (a:=(bh ((-(a:Int))%(3:Int)))))) (au (rfl (a:=(((a:Int)-((2:Int)*((-(a:Int))%(3:Int))))/(3:Int)))) (rfl (a:=(((a:Int)-((2:Int)*((-(a:Int))%(3:Int))))%(3:Int)))))) (rfl (a:=(bh (((a:Int)-((2:Int)*((-(a:Int))%(3:Int))))/(3:Int))))))
theorem ais{a:Nat}:2<=a->1<=bh (-(a:Int)%3)+bh (((a:Int)-2*(-(a:Int)%3))/3)/\bh (-(a:Int)%3)+bh (((a:Int)-2*(-(a:Int)%3))/3)<=a:=Lj 0x429220292208406408204294c1a4444186b5512960d0602514318c8 0xa021109c10802118441086200b822004814000008036004630842008841984600883400621280290a401184200a4210002508442884200846110421a00310940138560080250040158420005e10802009001184200a4210002b08442204200846110421a003109401385600802c004012040008022004211803108801104400842500521480230840148420004c10804608403484200846110421a003109401385600843c0040158421 [a,(bh ((-(a:Int))%(3:Int))),(bh (((a:Int)-((2:Int)*((-(a:Int))%(3:Int))))/(3:Int)))] [((-(a:Int))/(3:Int)),((-(a:Int))%(3:Int)),(((a:Int)-((2:Int)*((-(a:Int))%(3:Int))))/(3:Int)),(((a:Int)-((2:Int)*((-(a:Int))%(3:Int))))%(3:Int))] (au (au (au (au (rfl (a:=((-(a:Int))/(3:Int)))) (rfl (a:=((-(a:Int))%(3:Int))))) (rfl (a:=(bh ((-(a:Int))%(3:Int)))))) (au (rfl (a:=(((a:Int)-((2:Int)*((-(a:Int))%(3:Int))))/(3:Int)))) (rfl (a:=(((a:Int)-((2:Int)*((-(a:Int))%(3:Int))))%(3:Int)))))) (rfl (a:=(bh (((a:Int)-((2:Int)*((-(a:Int))%(3:Int))))/(3:Int))))))
theorem ait{a b:Int}{c:Nat}{d:Int}:d<=(c:Int)->0<=b->a<=d->a-b=2\/a-b=3->eE (bh a-bh b) (c-bh b)=2\/eE (bh a-bh b) (c-bh b)=3:=Lj 0x185a4105a438c2940ca20a50329d0a4050900428419414316d7a90c7292b7254c42586318c8 0x4012802708800000200940138440004000000008037006c10802508401084200a023006610802c0a400088210068108022088011856009027004012802a09820000200dc01b042009421004210802808c01984200b02900001104200d02100441100230ac01204e0080250054130021000200d801a842009021006810802d0840130420006810802008c01006200882a006810802209420000200d801a842009021006810802d084013042000034084010046008031004415003408401104a008420005e10802108401184c008024004e128000005e10802108401184c008024004e128001004000802700401200200b8014050000001004e00802400401700280a000080010003508401284200842100501180330840160520004410802208401286600882a004012802a09820000350840128420084210050118033084016052000022084011042009433004415002009401504c0084000d0210048108034084016842009821000200d001084200d42500401780200a0200003408401204200d021005a1080260840000401a002108401a84a00802f004014002108001005e008024004012002709400000200bc010048008024004e128001004000802f00441080280a000000200bc01104200a0280002000421 [c,(bh a),(bh b),((bh a)-(bh b)),(c-(bh b)),(eE ((bh a)-(bh b)) (c-(bh b)))] [a,b,d] (au (au (au (au (rfl (a:=(bh a))) (rfl (a:=(bh b)))) (rfl (a:=((bh a)-(bh b))))) (rfl (a:=(c-(bh b))))) (rfl (a:=(eE ((bh a)-(bh b)) (c-(bh b))))))
theorem aiu{a b:Int}:bh a-bh b=bh b+(bh a-bh b)-bh b:=kD (Nat.add_sub_self_left (bh b) (bh a-bh b))
theorem aiv{a:Int}{b:Nat}(p:0<=a)(q:bh a=b):a=(b:Int):=by subst q;exact Int.eq_natCast_toNat.mpr p
theorem aiw{a:Nat}{b:Int}:b<10->bh b=a->a<100000:=Lj 0x61a809f0a0484910a0a06842588 0x250840110420004a1080250840110421 [a,(bh b)] [b] (rfl (a:=(bh b)))
theorem aix(p:b<64)(q:a=b-b/2):a<64:=by subst q;exact aaz p
theorem aiy:1<=b->a=b-b/2->1<=a:=Lj 0x4042062088484204292c7092b54cc8 0x4011002108c01004e008428005415002008c000802c00401100270ac0130481 [a,b,(b/2),(b%2),(b-(b/2))] [] (au (au (rfl (a:=(b/2))) (rfl (a:=(b%2)))) (rfl (a:=(b-(b/2)))))
noncomputable def bp(i:Nat):Nat:=4*(i/4)+(i+1)%4
noncomputable def U(i:Nat):Nat:=4*(i/4)+(i+2)%4
theorem yd(i:Nat):bp (bp i)=U i:=by unfold bp U;exact agD
theorem cw(a:n%4=0)(h:i<n):bp i<n:=by unfold bp;exact agE a h
theorem bK(a:n%4=0)(h:i<n):U i<n:=by unfold U;exact agF a h
noncomputable def aZ(on:Nat->Nat)(i:Nat):Nat:=bp (on (bp i))
noncomputable def gh(on:Nat->Nat)(i:Nat):Nat:=bp (on (U (bp i)))
noncomputable def jz(on:Nat->Nat)(i:Nat):Nat:=on (U i)
noncomputable def upd(f:Nat->Nat)(i v:Nat):Nat->Nat:=λx=>if x=i then v else f x
noncomputable def dU(on:Nat->Nat)(i j:Nat):Nat->Nat:=
 upd (upd (upd (upd on i (on j)) j (on i)) (bp (on i)) (upd (upd on i (on j)) j (on i) (bp (on j)))) (bp (on j)) (upd (upd on i (on j)) j (on i) (bp (on i)))
noncomputable def cS(on:Nat->Nat)(n:Nat)(i:Nat):Nat:=if i<n then on i else n+(4-(i-n))%4
noncomputable def del(on:Nat->Nat)(i:Nat):Nat->Nat:=dU (dU on i (aZ on i)) (U i) (aZ (dU on i (aZ on i)) (U i))
noncomputable def conn(on:Nat->Nat)(n i j:Nat):Nat->Nat:=dU (dU (cS on n) n (gh (cS on n) i)) (U n) j
noncomputable def ju(a b c d e f:Int):Int:=(c-a)*(f-b)-(d-b)*(e-a)
noncomputable def FG(a b c d e f g h:Int):Int:=
 ((c-a)*(c-a)+(d-b)*(d-b))*((e-a)*(h-b)-(f-b)*(g-a))+((e-a)*(e-a)+(f-b)*(f-b))*((g-a)*(d-b)-(h-b)*(c-a))+((g-a)*(g-a)+(h-b)*(h-b))*((c-a)*(f-b)-(d-b)*(e-a))
noncomputable abbrev Pt:=Int×Int
noncomputable def dZ(P:Nat->Pt)(a b c:Nat):Int:=ju (P a).1 (P a).2 (P b).1 (P b).2 (P c).1 (P c).2
noncomputable def je(P:Nat->Pt)(p a b c:Nat):Int:=FG (P p).1 (P p).2 (P a).1 (P a).2 (P b).1 (P b).2 (P c).1 (P c).2
theorem gE(a:n%4=0):U n=n+2:=by unfold U;exact agG a
theorem jy(a:n%4=0):U (n+2)=n:=by unfold U;exact agH a
theorem eF(i:Nat):U i%2=i%2:=by unfold U;exact agI
def eI(n:Nat)(on:Nat->Nat):Prop:=∀a<n,on a%2=a%2
set_option tactic.hygienic true in
theorem eI.upd(p:eI n on)(h:j%2=i%2):eI n (upd on i j):=by
 intro x a;unfold bY.upd;split
 .rename_i b;rw[b];exact h
 .exact p x a
theorem qP(i:Nat):bp i%2=(i+1)%2:=by unfold bp;exact agJ
theorem eI.dU(p:eI n on)(m:∀i<n,on i<n)(o:n%4=0)(q:i<n)(r:j<n)(h:i%2=j%2):eI n (dU on i j):=by have g:=p i q;have k:=p j r;have l:=(p.upd (h▸k)).upd (g▸h);have t:=l (bp (on i)) (cw o (m i q));have u:=l (bp (on j)) (cw o (m j r));have s:=qP (on i);have f:=qP (on j);unfold bY.dU;exact(l.upd (agK h g k u s f)).upd (agL h g k t s f)
theorem iI(p:eI n on)(d:n%4=0)(e:i<n):aZ on i%2=i%2:=by unfold aZ;have f:=p (bp i) (cw d e);have g:=qP (on (bp i));have h:=qP i;exact agM f g h
theorem OG(p:eI n on)(e:n%4=0)(f:i<n):gh on i%2=i%2:=by unfold gh;have g:=p (U (bp i)) (bK e (cw e f));have h:=qP (on (U (bp i)));have j:=qP i;have k:=eF (bp i);exact agN g h j k
theorem ye(c:∀i<n,on i<n)(k:n%4=0)(l:i<n)(m:j<n):∀x<n,dU on i j x<n:=by
 have d:∀{f:Nat->Nat},(∀x<n,f x<n)->∀(o:Nat) {e:Nat},e<n->∀x<n,upd f o e x<n:=by
  intro f hf o e p x g;unfold upd;split
  .exact p
  .exact hf x g
 have h:=d (d c i (c j m)) j (c i l);intro x g;unfold dU;exact d (d h _ (h _ (cw k (c j m)))) _ (h _ (cw k (c i l))) x g
theorem eI.del(p:eI n on)(c:∀i<n,on i<n)(a:n%4=0)(b:i<n):eI n (del on i):=by have e:=cw a (c _ (cw a b));have f:=p.dU c a b e (iI p a b).symm;have g:=ye c a b e;have d:=bK a b;have h:=cw a (g _ (cw a d));exact f.dU g a d h (iI f a d).symm
noncomputable def oD(P:Nat->Pt)(b:Nat)(on:Nat->Nat)(r:Nat):Bool:=
 decide (0<je P (U (on r)) (U b) b (U r))&&decide (dZ P b (U b) (U (on r))<0)
noncomputable def kj(P:Nat->Pt)(b:Nat):Nat->(Nat->Nat)->Nat->Option ((Nat->Nat)×Nat)
 |0,_,_=>X
 |f+1,a,c=>if oD P b a c then kj P b f (del a c) (a c) else W (a,c)
noncomputable def oQ(P:Nat->Pt)(b:Nat)(on:Nat->Nat)(r:Nat):Bool:=
 decide (0<je P (U (aZ on r)) (U b) b (U r))&&decide (dZ P b (U b) (U (aZ on r))<0)
noncomputable def ku(P:Nat->Pt)(b:Nat):Nat->(Nat->Nat)->Nat->Option ((Nat->Nat)×Nat)
 |0,_,_=>X
 |f+1,a,c=>if oQ P b a c then ku P b f (del a c) (aZ a c) else W (a,c)
noncomputable def kS(P:Nat->Pt)(b:Nat)(f:Nat)(on:Nat->Nat):Option ((Nat->Nat)×Option Nat):=
 if dZ P b (U b) (U (on (U b)))<0 then(kj P b f on (on (U b))).map λx=>(x.1,W x.2) else W (on,X)
noncomputable def kW(P:Nat->Pt)(b:Nat)(f:Nat)(on:Nat->Nat):Option ((Nat->Nat)×Option Nat):=
 if dZ P b (U b) (U (aZ on b))<0 then(ku P b f on (aZ on b)).map λx=>(x.1,W x.2) else W (on,X)
noncomputable def bu(P:Nat->Pt)(n:Nat)(A B:Pt):Nat->Pt:=λx=>if x=n then A else if x=n+2 then B else P x
structure Qd where
 n:Nat
 on:Nat->Nat
 P:Nat->Pt
noncomputable def Qd.conn(q:Qd)(i j:Nat):Qd:=⟨q.n+4,bY.conn q.on q.n i j,bu q.P q.n (q.P (U i)) (q.P j)⟩
noncomputable def pick(P:Nat->Pt)(b:Nat):Option Nat->Option Nat->Option (Nat×Nat)
 |none,X=>X
 |some x,X=>W (U b,U x)
 |none,W a=>W (a,U b)
 |some x,W a=>if 0<je P (U a) (U x) (U b) b then W (a,U b) else W (U b,U x)
inductive ru(q:Qd)(b:Nat)(q':Qd)(c:Option Nat):Prop
 |mk (f1 f2:Nat) (d a:Nat->Nat) (l r:Option Nat) (e1:kS q.P b f1 q.on=W (d,l)) (e2:kW q.P b f2 d=W (a,r))
  (h:match pick q.P b l r with
  |none=>q'=⟨q.n,a,q.P⟩/\c=X
  |some (e,f)=>q'=Qd.conn ⟨q.n,a,q.P⟩ e f/\c=W q.n)
inductive iN:Nat->Qd->Nat->Qd->Prop
 |stop {q b a}:ru q b a X->iN 1 q b a
 |step {k q b c b1 a}:ru q b c (W b1)->iN k c b1 a->iN (k+1) q b a
inductive iu(P:Nat->Pt)(on:Nat->Nat):Nat->Nat->Nat->Nat->Nat->Prop
 |stop {x y}:¬0<dZ P x (U x) y->¬dZ P y (U y) x<0->iu P on 1 x y x y
 |left {k x y a b}:0<dZ P x (U x) y->iu P on k (gh on x) y a b->iu P on (k+1) x y a b
 |right {k x y a b}:¬0<dZ P x (U x) y->dZ P y (U y) x<0->iu P on k x (jz on y) a b->iu P on (k+1) x y a b
noncomputable def iG(on:Nat->Nat)(n:Nat):Nat->Nat:=dU (cS (cS on n) (n+4)) (n+2) (n+4)
noncomputable def P3(P:Nat->Pt)(n:Nat)(a b c:Pt):Nat->Pt:=bu (bu P n a b) (n+4) b c
noncomputable def vm(on:Nat->Nat)(n:Nat):Nat->Nat:=conn (iG on n) (n+8) (n+4) n
noncomputable def P4(P:Nat->Pt)(n:Nat)(a b c:Pt):Nat->Pt:=bu (P3 P n a b c) (n+8) c a
noncomputable def Qd.grow(q:Qd)(a b:Pt):Qd:=⟨q.n+4,cS q.on q.n,bu q.P q.n a b⟩
noncomputable def Qd.path(q:Qd)(a b c:Pt):Qd:=⟨q.n+8,iG q.on q.n,P3 q.P q.n a b c⟩
noncomputable def Qd.cZ(q:Qd)(a b c:Pt):Qd:=⟨q.n+12,vm q.on q.n,P4 q.P q.n a b c⟩
noncomputable def jk(q:Qd)(a b c:Pt):Qd×Nat×Nat:=
 if 0<ju a.1 a.2 b.1 b.2 c.1 c.2 then(q.cZ a b c,q.n,q.n+6) else if ju a.1 a.2 b.1 b.2 c.1 c.2<0 then(q.cZ a b c,q.n+10,q.n+8) else(q.path a b c,q.n,q.n+6)
theorem aco(q:Qd)(a b c:Pt)(d:q.n%4=0):(q.path a b c).conn (q.n+4) q.n=q.cZ a b c:=by
 have e:U (q.n+4)=q.n+6:=by unfold U;exact GA d
 show(⟨q.n+8+4,conn (iG q.on q.n) (q.n+8) (q.n+4) q.n,bu (P3 q.P q.n a b c) (q.n+8) (P3 q.P q.n a b c (U (q.n+4))) (P3 q.P q.n a b c q.n)⟩:Qd)=_;have f:P3 q.P q.n a b c (U (q.n+4))=c:=by rw[e];unfold P3 bu;rw[if_neg (by exact Bp),if_pos rfl]
 have g:P3 q.P q.n a b c q.n=a:=by unfold P3 bu;rw[if_neg (by exact Bq),if_neg (by exact Ha),if_pos rfl]
 rw[f,g];rfl
noncomputable def cr(p a b:Pt):Int:=(a.1-p.1)*(b.2-p.2)-(a.2-p.2)*(b.1-p.1)
noncomputable def dt(p a b:Pt):Int:=(a.1-p.1)*(b.1-p.1)+(a.2-p.2)*(b.2-p.2)
noncomputable def ic(p a b c:Pt):Int:=
 ((a.1-p.1)*(a.1-p.1)+(a.2-p.2)*(a.2-p.2))*((b.1-p.1)*(c.2-p.2)-(b.2-p.2)*(c.1-p.1))+((b.1-p.1)*(b.1-p.1)+(b.2-p.2)*(b.2-p.2))*((c.1-p.1)*(a.2-p.2)-(c.2-p.2)*(a.1-p.1))+((c.1-p.1)*(c.1-p.1)+(c.2-p.2)*(c.2-p.2))*((a.1-p.1)*(b.2-p.2)-(a.2-p.2)*(b.1-p.1))
theorem bW(p a b:Pt):cr a b p=cr p a b:=by unfold cr;grind
theorem bO(p a b:Pt):cr p b a=-cr p a b:=by unfold cr;grind
theorem eN(z l r c:Pt):ic z l r c=dt c l r*cr l r z-dt z l r*cr l r c:=by unfold ic dt cr;grind
theorem xu(p a b c d:Pt):cr p a b*cr p c d-cr p a c*cr p b d+cr p a d*cr p b c=0:=by unfold cr;grind
theorem Fq(p a b c d:Pt):cr p a b*ic d p a c-cr p a c*ic d p a b+cr p a d*ic c p a b=0:=by unfold cr ic;grind
theorem lZ(z a b c:Pt):ic z b c a=ic z a b c:=by unfold ic;grind
theorem uN(z a b c:Pt):ic z b a c=-ic z a b c:=by unfold ic;grind
theorem ad9(z a b c:Pt):ic c a b z=-ic z a b c:=by unfold ic;grind
theorem ka(P:Nat->Pt)(a b c:Nat):dZ P a b c=cr (P a) (P b) (P c):=rfl
theorem FF(P:Nat->Pt)(a b c d:Nat):je P a b c d=ic (P a) (P b) (P c) (P d):=rfl
noncomputable def cls(x:Int):Nat:=if 0<x then 0 else if x=0 then 1 else 2
def bM(p a b c:Pt):Prop:=cls (cr p a b)<cls (cr p a c)\/(cls (cr p a b)=cls (cr p a c)/\0<cr p b c)
noncomputable instance (p a b c:Pt):Decidable (bM p a b c):=inferInstanceAs (Decidable (_\/_))
def oP(p a b:Pt):Prop:=cr p a b=0/\0<dt p a b
theorem dD{x y:Int}(h:0<x*y)(b:0<x):0<y:=by
 rcases eX y 0 with a|a|a
 .have:=fy b a;exact(cV 0x10008c0148d0900468 0x8423).2 h this
 .subst a;simp at h
 .exact a
theorem uW{x y:Int}(h:0<=x*y)(b:0<x):0<=y:=by
 rcases eX y 0 with a|a|a
 .have:=fy b a;exact(cV 0x1000840148d0900428 0x8423).2 h this
 .exact(a▸kE _)
 .exact xN a
theorem sq_pos{x:Int}(h:x≠0):0<x*x:=by
 rcases eX x 0 with a|a|a
 .exact mH a a
 .exact absurd a h
 .exact bP a a
theorem ir(x:Int):0<=x*x:=by
 by_cases h:x=0
 .subst h;simp
 .exact cn (sq_pos h)
theorem dO{p a:Pt}(h:p≠a):0<dt p a a:=by
 unfold dt;have e:=ir (a.1-p.1);have f:=ir (a.2-p.2);by_cases b:a.1-p.1=0
 .by_cases d:a.2-p.2=0
  .exact absurd (kL (Bh b) (Bh d)) h
  .have:=sq_pos d;exact afL e this
 .have:=sq_pos b;exact afK f this
theorem dI(p a:Pt):cr p a a=0:=by unfold cr;grind
theorem ajw(h:p≠a):oP p a a:=⟨dI p a,dO h⟩
theorem MP(p a b:Pt):dt p a b=dt p b a:=by unfold dt;grind
theorem Hv(h:oP p a b):oP p b a:=⟨by have:=bO p a b;have:=h.1;exact PD ‹_› this,by rw[MP];exact h.2⟩
theorem oj(p a b c:Pt):cr p b c*dt p a a=dt p a c*cr p b a+cr p a c*dt p a b:=by unfold cr dt;grind
theorem EB(p a b:Pt):cr p a b*cr p a b+dt p a b*dt p a b=dt p a a*dt p b b:=by unfold cr dt;grind
theorem oN(e:p≠a)(f:p≠b)(h:cr p a b=0)(n:¬oP p a b):dt p a b<0:=by
 have c:=EB p a b;have g:=bP (dO e) (dO f);rw[h] at c;have i:dt p a b≠0:=by intro d;rw[d] at c;exact(ip 0x168004684002020020208a8 0x8821).2 c g
 have j:¬0<dt p a b:=λd=>n ⟨h,d⟩;exact(ip 0x503400235200141548 0x4211800110421).2 i j
theorem aiO{p a b c:Pt}(d:p≠a)(f:p≠c)(h:cr p a c=0)(n:¬oP p a c)(g:0<cr p a b):0<cr p b c:=by
 have e:=oj p a b c;have i:=oN d f h n;have j:=bO p a b;rw[h] at e;have k:=mH i (vg g j);have l:=dO d;have m:0<dt p a a*cr p b c:=by rw[gN];exact GI e k
 exact dD m l
theorem Hi{p a b c:Pt}(d:p≠a)(f:p≠c)(h:cr p a c=0)(n:¬oP p a c)(g:cr p a b<0):cr p b c<0:=by
 have e:=oj p a b c;have i:=oN d f h n;have j:=bO p a b;rw[h] at e;have k:=gU i (xU g j);have l:=dO d;have m:0<dt p a a*(-cr p b c):=by rw[gN,wc];exact(dJ 0x100004600a46850089120a8 0x11042008821).2 e k
 have:=dD m l;exact sQ this
structure Un(p a b:Pt):Prop where
 ha:p≠a
 hb:p≠b
 hr:¬oP p a b
theorem Un.symm(h:Un p a b):Un p b a:=⟨h.hb,h.ha,λc=>h.hr (Hv c)⟩
theorem Eh(x:Int):cls (-x)=2-cls x:=by
 unfold cls;by_cases h:0<x
 .rw[if_pos h,if_neg (by omega),if_neg (by omega)]
 .rw[if_neg h];by_cases a:x=0
  .rw[if_pos a,if_neg (by omega),if_pos (by omega)]
  .rw[if_neg a,if_pos (by omega)]
theorem My(x:Int):cls x<=2:=by
 unfold cls;split
 .decide
 .split
  .decide
  .decide
theorem rS(h:0<x):cls x=0:=if_pos h
theorem Ah(h:x=0):cls x=1:=by subst h;rfl
theorem Eg(h:x<0):cls x=2:=by unfold cls;rw[if_neg (rz.mpr (cn h)),if_neg (wb h)]
theorem abM(i:C=0->0<B->0<D)(j:B=0->C<0->0<D)(k:B=0->C=0->0<D->False)(h:cls B<cls C\/(cls B=cls C/\0<D)):cls D<cls (-B)\/(cls D=cls (-B)/\0< -C):=by
 rw[Eh];rcases eX B 0 with d|d|d
 .rw[Eg d] at h⊢;rcases h with h|⟨h,g⟩
  .exact absurd h (pO.mpr (My C))
  .rcases eX C 0 with a|a|a
   .exact .inr ⟨rS g,zu a⟩
   .replace h:=(Ah a)▸h;cases h
   .replace h:=(rS a)▸h;cases h
 .rw[Ah d] at h⊢;rcases eX C 0 with a|a|a
  .exact .inl (by rw[rS (j d a)];decide)
  .rw[Ah a] at h;rcases h with h|⟨h,g⟩
   .exact absurd h (by decide)
   .exact(k d a g).elim
  .rw[rS a] at h;rcases h with h|⟨h,_⟩<;>cases h
 .rw[rS d] at h⊢;rcases eX D 0 with f|f|f
  .refine .inr ⟨Eg f,?_⟩;rcases eX C 0 with a|a|a
   .exact zu a
   .exact absurd (i a d) (rz.mpr (cn f))
   .rw[rS a] at h;rcases h with h|⟨_,h⟩
    .cases h
    .exact absurd h (rz.mpr (cn f))
  .exact .inl (by rw[Ah f];decide)
  .exact .inl (by rw[rS f];decide)
theorem pY(d:Un p a b)(g:Un p a c)(l:Un p b c)(h:bM p a b c):bM p b c a:=by have i:=abM (λx e=>aiO d.ha g.hb x g.hr e) (λx e=>by have:=Hi d.ha d.hb x d.hr e;rw[bO p b c] at this;exact JP this) (λx e j=>by have f:=oj p a b c;rw[bO p a b,x,e] at f;have k:=bP j (dO d.ha);simp at f;exact o5 k f) h;unfold bM;exact(bO p a b)▸(bO p a c)▸(i)
theorem LV(h:bM p a b c):¬bM p a c b:=by have d:=bO p b c;unfold bM at*;exact(AY 0x20011a504325023a9204150900468490c8488e8 0x2009c01184200040128400084260002009021).2 h d
theorem wW(i:Un p a b)(l:Un p a c)(j:Un p b c):bM p a b c\/bM p a c b:=by
 have u:=bO p b c;have r:cr p b c=0->cls (cr p a b)≠cls (cr p a c):=by
  intro h m;have n:=oN j.ha j.hb h j.hr;have o:=oj p b a c;rw[h] at o;have s:=dO j.ha;have A:=bO p a b;by_cases d:cr p a b=0
  .have e:cr p a c=0:=by unfold cls at m;grind
   have f:=oN i.ha i.hb d i.hr;have g:=oN l.ha l.hb e l.hr;have t:dt p b c*dt p a a=dt p a b*dt p a c+cr p a b*cr p a c:=by unfold cr dt;grind
   rw[d] at t;have v:=mH f g;have w:=gU n (dO i.ha);exact RB t v w
  .rcases CO d with d|d
   .have e:cr p a c<0:=by unfold cls at m;grind
    have f:=mH n d;have g:=gU e s;exact RB o f g
   .have e:0<cr p a c:=by unfold cls at m;grind
    have f:=gU n d;have g:=bP e s;exact(dJ 0x2d0008d000a46850089120a8 0x11042008821).2 o f g
 unfold bM;by_cases d:cls (cr p a b)=cls (cr p a c)
 .have:cr p b c≠0:=λx=>r x d;exact(AY 0x480234248642447400234a0864a0473a504500282a108024a8 0x2008c0000022088000800108480000200880000421180210002108401184c000401180010842108021).2 u r
 .exact(AY 0x12008d092190911d0008d282192811ce941148 0x401180000044110001).2 d
theorem pZ{p a b c d:Pt}(s:Un p a b)(u:Un p a c)(v:Un p a d)(e:bM p a b c)(o:bM p a c d):bM p a b d:=by
 have g:=xu p a b c d;unfold bM at*;by_cases q:cls (cr p a b)=cls (cr p a c)/\cls (cr p a c)=cls (cr p a d)
 .right;obtain⟨h,z2⟩:=q;refine⟨h.trans z2,?_⟩;have k:0<cr p b c:=RC e h;have r:0<cr p c d:=RC o z2;by_cases f:cr p a c=0
  .exfalso;have i:cr p a b=0:=by unfold cls at h;grind
   have e:=oj p a b c;have t:=bO p a b;replace e:=(f)▸(i)▸(t)▸e;have j:=bP k (dO s.ha);simp at e;exact o5 j e
  .rcases CO f with f|f
   .have i:cr p a b<0:=by unfold cls at h;grind
    have l:cr p a d<0:=by unfold cls at z2;grind
    have m:=gU i r;have n:=gU l k;have j:0<(-cr p a c)*cr p b d:=by rw[wc];exact(dJ 0x400011802a1a00148d000a909188a8 0x23084011842009021).2 g m n
    exact dD j (o3 f)
   .have i:0<cr p a b:=by unfold cls at h;grind
    have l:0<cr p a d:=by unfold cls at z2;grind
    have m:=bP i r;have n:=bP l k;have j:0<cr p a c*cr p b d:=Gr g m n;exact dD j f
 .left;exact(OP 0x12812544520865212008d2a2192a11d080046a410ca408e8 0x84240002408820004c11000108501080010046008c2100400080240048108000080230044108021).2 e o q
structure QE(n:Nat)(on:Nat->Nat):Prop where
 n4:n%4=0
 lt:∀i<n,on i<n
 par:eI n on
 rM:∀i<n,bp (on (bp (on i)))=i
theorem Hx(h:bp i=bp j):i=j:=by unfold bp at h;exact agq h
theorem cg(i:Nat):U (U i)=i:=by unfold U;exact agr
theorem Hj(i:Nat):U i≠i:=by unfold U;exact ags
theorem aiQ(h:U i=U j):i=j:=by rw[<-cg i,h,cg]
theorem aiR(i:Nat):U (bp i)=bp (U i):=(yd (bp i)).symm.trans (congrArg bp (yd i))
theorem QE.cw(Q:QE n on)(h:i<n):bp i<n:=bY.cw Q.n4 h
theorem QE.bK(Q:QE n on)(h:i<n):U i<n:=bY.bK Q.n4 h
theorem QE.xW(Q:QE n on)(h:i<n):aZ on (on i)=i:=Q.rM i h
theorem QE.gq(Q:QE n on)(h:i<n):on (aZ on i)=i:=by have a:=Q.rM (bp i) (Q.cw h);exact Hx a
theorem QE.iH(Q:QE n on)(h:i<n):aZ on i<n:=bY.cw Q.n4 (Q.lt _ (Q.cw h))
theorem QE.iI(Q:QE n on)(h:i<n):aZ on i%2=i%2:=bY.iI Q.par Q.n4 h
theorem QE.inj(Q:QE n on)(a:i<n)(b:j<n)(h:on i=on j):i=j:=by rw[<-Q.xW a,h,Q.xW b]
theorem QE.xF(Q:QE n on)(h:i<n):gh on i=aZ on (U i):=by unfold gh aZ;rw[aiR]
theorem QE.gF(Q:QE n on)(a:i<n)(b:x<n):aZ on i=x↔on x=i:=
 ⟨λh=>by rw[<-h,Q.gq a],λh=>by rw[<-h,Q.xW b]⟩
theorem aiM(Q:QE n on)(h:i<n):∃y<n,y%2≠i%2/\i=bp (on y)/\bp (on i)=y:=by refine⟨bp (on i),Q.cw (Q.lt _ h),?_,(Q.rM i h).symm,rfl⟩;have:=Q.par i h;have:=qP (on i);exact agt ‹_› this
noncomputable def fR(i j x:Nat):Nat:=if x=i then j else if x=j then i else x
theorem qX(h:x≠a):upd f a v x=f x:=if_neg h
theorem Cf:upd f a v a=v:=if_pos rfl
theorem Ay{on:Nat->Nat}(b:x%2=0)(p:y%2=0)(h:on y%2=y%2)(e:x=bp (on y)):False:=by have a:=qP (on y);rw[<-e,b,Nat.add_mod,h,p] at a;exact absurd a (by decide)
theorem qS{on:Nat->Nat}(Q:QE n on)(f:i<n)(g:j<n)(h:i%2=0)(k:j%2=0)(d:x%2=0):dU on i j x=on (fR i j x):=by
 unfold dU;rw[qX λb=>Ay d k (Q.par j g) b,qX λb=>Ay d h (Q.par i f) b];unfold fR;by_cases c:x=j
 .subst c;rw[Cf];by_cases a:x=i
  .rw[if_pos a,a]
  .rw[if_neg a,if_pos rfl]
 .rw[qX c];by_cases a:x=i
  .rw[if_pos a,a,Cf]
  .rw[if_neg a,if_neg c,qX a]
theorem Ws{on:Nat->Nat}(Q:QE n on)(f:i<n)(g:j<n)(l:i%2=0)(m:j%2=0)(d:y<n)(q:y%2=0):bp (dU on i j (bp (on y)))=fR i j y:=by
 have h:∀b<n,b%2=0->upd (upd on i (on j)) j (on i) (bp (on b))=on (bp (on b)):=λb o p=>by rw[qX λc=>Ay m p (Q.par b o) c.symm,qX λc=>Ay l p (Q.par b o) c.symm]
 unfold dU;rw[h i f l,h j g m];unfold fR;by_cases k:y=j
 .subst k;rw[Cf,Q.rM i f];by_cases a:y=i
  .rw[if_pos a,a]
  .rw[if_neg a,if_pos rfl]
 .rw[qX λc=>k (Q.inj d g (Hx c))];by_cases a:y=i
  .rw[if_pos a,a,Cf,Q.rM j g]
  .rw[if_neg a,if_neg k,qX λc=>a (Q.inj d f (Hx c)),h y d q,Q.rM y d]
theorem vF:fR i j i=j:=if_pos rfl
theorem vG:fR i j j=i:=by
 unfold fR;by_cases a:j=i
 .rw[if_pos a,a]
 .rw[if_neg a,if_pos rfl]
theorem kX(a:x≠i)(b:x≠j):fR i j x=x:=by unfold fR;rw[if_neg a,if_neg b]
theorem HD{p:Nat->Prop}(a:p i)(b:p j)(c:p x):p (fR i j x):=by
 unfold fR;split
 .exact b
 .split
  .exact a
  .exact c
theorem WD(a:i%2=0)(b:j%2=0)(c:x%2=0):fR i j x%2=0:=HD (p:=λx=>x%2=0) a b c
theorem HE:fR i j (fR i j x)=x:=by
 by_cases a:x=i
 .rw[a,vF,vG]
 .by_cases b:x=j
  .rw[b,vG,vF]
  .rw[kX a b,kX a b]
theorem QE.dU{on:Nat->Nat}(Q:QE n on)(b:i<n)(c:j<n)(d:i%2=0)(e:j%2=0):QE n (dU on i j):=by
 refine⟨Q.n4,ye Q.lt Q.n4 b c,Q.par.dU Q.lt Q.n4 b c (e▸d),λx h=>?_⟩;have k:∀a<n,a%2=0->fR i j a<n/\fR i j a%2=0:=λa l m=>HD (p:=λa=>a<n/\a%2=0) ⟨b,d⟩ ⟨c,e⟩ ⟨l,m⟩;by_cases f:x%2=0
 .rw[qS Q b c d e f,Ws Q b c d e (k x h f).1 (k x h f).2,HE]
 .obtain⟨a,hy,g,e1,e2⟩:=aiM Q h;have g:a%2=0:=agu f g;rw[e1,Ws Q b c d e hy g,qS Q b c d e (k a hy g).2,HE]
theorem akf{on:Nat->Nat}(Q:QE n on)(b:i<n)(c:j<n)(d:i%2=0)(e:j%2=0)(a:x<n)(h:x%2=0):aZ (bY.dU on i j) x=fR i j (aZ on x):=by have k:=Q.iH a;have l:=Q.iI a;have f:=HD (p:=λg=>g<n/\g%2=0) ⟨b,d⟩ ⟨c,e⟩ ⟨k,l.trans h⟩;rw[(Q.dU b c d e).gF a f.1,qS Q b c d e f.2,HE,Q.gq a]
theorem Am(Q:QE n on)(c:i<n)(g:i%2=0)(t:x<n)(u:x%2=0)(y:on i≠U i)(z:on (U i)≠i):
  del on i x=(if x=U i then U i else if x=i then i else if on x=i then on i else if on x=U i then on (U i) else on x):=by
 have o:=Q.iH c;have p:=(Q.iI c).trans g;have d:=Q.gq c;have f:=Q.bK c;have j:=(eF i).trans g;have q:=Hj i;have r:=Q.dU c o g p;have A:=r.iH f;have v:=(r.iI f).trans j;have a:=Q.gq f;have s:aZ on (U i)≠i:=λb=>y (by replace a:=(b)▸a;exact a);have w:aZ on (U i)≠aZ on i:=λb=>q (by replace a:=(d)▸(b)▸a;exact a.symm);have B:U i≠aZ on i:=λb=>z (by replace d:=(b)▸d;exact d);have C:on x=i->x=aZ on i:=λh=>((Q.gF c t).mpr h).symm;have D:on x=U i->x=aZ on (U i):=λh=>((Q.gF f t).mpr h).symm;unfold del;rw[qS r f A j v u,qS Q c o g p (WD j v u),akf Q c o g p f j,kX s w];by_cases k:x=U i
 .rw[if_pos k,k,vF,kX s w,a]
 .rw[if_neg k];by_cases l:on x=U i
  .have b:=D l;rw[if_neg (b▸s),l,if_neg q,if_pos rfl,b,vG,kX q B]
  .rw[kX k λb=>l (b▸a),if_neg l];by_cases a:x=i
   .rw[if_pos a,a,vF,d]
   .rw[if_neg a];by_cases m:on x=i
    .rw[if_pos m,C m,vG]
    .rw[if_neg m,kX a λb=>m (b▸d)]
theorem QE.del(Q:QE n on)(a:i<n)(b:i%2=0):QE n (del on i):=by have f:=Q.iH a;have g:=(Q.iI a).trans b;have c:=Q.bK a;have e:=(eF i).trans b;have d:=Q.dU a f b g;exact d.dU c (d.iH c) e ((d.iI c).trans e)
theorem nh(h:x<n):cS on n x=on x:=by unfold cS;rw[if_pos h]
theorem Wb(h:k<4):bp (4*m+k)=4*m+(k+1)%4:=by unfold bp;rw[aaw (by decide),aab,aax,aag h,aaf]
theorem BC:cS on (4*m) (4*m+k)=4*m+(4-k)%4:=by unfold cS;rw[if_neg (pO.mpr (fF _ _)),rC]
theorem ajE(h:k<4):bp (cS on (4*m) (bp (cS on (4*m) (4*m+k))))=4*m+k:=by
 rw[BC,Wb (wB _ (by decide)),BC,Wb (wB _ (by decide))];have:∀k<4,(((4-((4-k)%4+1)%4)%4)+1)%4=k:=by decide
 rw[this k h]
theorem QE.grow(Q:QE n on):QE (n+4) (cS on n):=by
 refine⟨oK (Q.n4),λx b=>?_,λx b=>?_,λx b=>?_⟩
 .by_cases a:x<n
  .rw[nh a];have:=Q.lt x a;exact o0 this
  .unfold cS;rw[if_neg a];exact GY
 .by_cases a:x<n
  .rw[nh a];exact Q.par x a
  .unfold cS;rw[if_neg a];exact GZ b a
 .by_cases a:x<n
  .rw[nh a,nh (Q.cw (Q.lt x a))];exact Q.rM x a
  .obtain⟨d,rfl⟩:=Nat.le.dest (pO.mp a);obtain⟨e,rfl⟩:=Ky (Q.n4);exact ajE (aao b)
theorem QE.conn(Q:QE n on)(c:i<n)(f:j<n)(g:i%2=0)(h:j%2=0):QE (n+4) (conn on n i j):=by have b:=Q.n4;have a:=Q.grow;have d:=a.xF (o0 c);have e:=a.bK (show i<n+4 by exact o0 c);have k:=a.iH e;have l:=a.iI e;have m:=eF i;have o:=a.dU (show n<n+4 by exact mv) (d▸k) (by exact kU b) (d▸vi g l m);unfold bY.conn;exact(gE b)▸o.dU (by exact qH) (by exact o0 f) (by exact qK b) h
theorem aiT(Q:QE n on)(h:x<n):aZ (cS on n) x=aZ on x:=by unfold aZ;rw[nh (Q.cw h)]
theorem Al(Q:QE n on)(r:i<n)(d:j<n)(s:i%2=0)(t:j%2=0)(A:x<n+4)(o:x%2=0)(B:aZ on (U i)≠j):
  bY.conn on n i j x=(if x=n then U i else if x=n+2 then on j else if x=j then n+2 else if x=aZ on (U i) then n else on x):=by
 have a:=Q.n4;have p:=Q.grow;have q:=p.xF (o0 r);have e:=Q.bK r;have C:=aiT Q e;have f:=Q.iH e;have u:=Q.iI e;have v:=eF i;have D:=Q.gq e;replace q:=(C)▸q;have E:=p.dU (i:=n) (j:=aZ on (U i)) (mv) (o0 f) (kU a) (vi s u v);unfold bY.conn;rw[gE a,q,qS E (qH) (o0 d) (qK a) t o];rw[qS p (mv) (o0 f) (kU a) (vi s u v) (WD (qK a) t o)];have F:cS on n n=n:=by obtain⟨H,rfl⟩:=Ky a;exact BC (k:=0)
 have I:cS on n (n+2)=n+2:=by obtain⟨H,rfl⟩:=Ky a;exact BC (k:=2)
 have w:n≠n+2:=cJ (rF (by decide));have J:∀{z},z<n->z≠n+2:=λh=>cJ (fj h (fF _ _));by_cases b:x=n
 .rw[if_pos b,b,kX w (rG d),vF,nh f,D]
 .rw[if_neg b];by_cases c:x=n+2
  .rw[if_pos c,c,vF,kX (cJ d) (fN B),nh d]
  .rw[if_neg c];by_cases g:x=j
   .rw[if_pos g,g,vG,kX w.symm (J f).symm,I]
   .rw[if_neg g,kX c g];by_cases l:x=aZ on (U i)
    .rw[if_pos l,l,vG,F]
    .rw[if_neg l,kX b l,nh (RS o A a b c)]
theorem jY(d:Un p a b)(e:Un p a c)(f:Un p b c)(h:bM p a b c):bM p c a b:=
 pY f d.symm e.symm (pY d e f h)
theorem LW(f:Un p a b)(e:Un p a c)(g:Un p a d)(h:Un p b c)(j:Un p b d)(i:Un p c d)(k:bM p a b c)(l:bM p a c d):bM p b c d:=by have m:=pY e g i l;have n:=jY f e h k;have q:=jY f g j (pZ f e g k l);have o:=pZ i e.symm h.symm m n;exact jY i h.symm j.symm o
structure Rg(S:Nat->Prop)(on:Nat->Nat)(p:Pt)(e:Nat->Pt):Prop where
 ne:∀i,S i->p≠e i
 un:∀i j,S i->S j->i≠j->Un p (e i) (e j)
 cl:∀i,S i->S (on i)
 nx:∀i j,S i->S j->j≠i->j≠on i->on i≠i/\bM p (e i) (e (on i)) (e j)
theorem Rg.ko(R:Rg S on p e)(b:S i)(d:S j)(h:j≠i):on i≠i:=by
 by_cases a:j=on i
 .rw[<-a];exact h
 .exact(R.nx i j b d h a).1
theorem Rg.ins(R:Rg S on p e)(b:S d)(E:¬S m)(v:e' m=B)(n:∀i,S i->e' i=e i)(k:∀i,S i->Un p (e i) B)(A:on d=d\/bM p (e d) B (e (on d)))
  (o1:on' d=m)(o2:on' m=on d)(o3:∀x,S x->x≠d->on' x=on x):Rg (λx=>S x\/x=m) on' p e':=by
 have q:=R.cl d b;have C:∀i,S i->i≠m:=λi a o=>E (o▸a);refine⟨?_,?_,?_,?_⟩
 .rintro i (a|rfl)
  .rw[n i a];exact R.ne i a
  .rw[v];exact(k d b).hb
 .rintro i l (a|rfl) (f|rfl) h
  .rw[n i a,n l f];exact R.un i l a f h
  .rw[n i a,v];exact k i a
  .rw[n l f,v];exact(k l f).symm
  .exact absurd rfl h
 .rintro i (a|rfl)
  .by_cases g:i=d
   .subst g;rw[o1];exact .inr rfl
   .rw[o3 i a g];exact .inl (R.cl i a)
  .rw[o2];exact .inl q
 .rintro i l (a|rfl) (f|rfl) w r
  .by_cases g:i=d
   .subst g;rw[o1] at r⊢;refine⟨(C i a).symm,?_⟩;rw[n i a,n l f,v];have y:=R.ko a f w;have s:=A.resolve_left y;by_cases t:l=on i
    .subst t;exact s
    .exact pZ (k i a) (R.un _ _ a q y.symm) (R.un _ _ a f w.symm) s (R.nx i l a f w t).2
   .rw[o3 i a g] at r⊢;rw[n i a,n l f,n _ (R.cl i a)];exact R.nx i l a f w r
  .-- j is the new one
   by_cases g:i=d
   .subst g;exact absurd o1.symm r
   .rw[o3 i a g] at r⊢;have y:=R.ko a b (λo=>g o.symm);refine⟨y,?_⟩;rw[n i a,n _ (R.cl i a),v];have u:=R.ko b a g;have s:=A.resolve_left u;have D:bM p (e i) (e d) B:=by
     by_cases t:i=on d
     .subst t;exact jY (k d b) (R.un _ _ b q u.symm) (k _ q).symm s
     .have:=pZ (k d b) (R.un _ _ b q u.symm) (R.un _ _ b a (λo=>g o.symm)) s (R.nx d i b a g t).2;exact jY (k d b) (R.un _ _ b a (λo=>g o.symm)) (k i a).symm this
    by_cases t:d=on i
    .rw[<-t];exact D
    .exact pZ (R.un _ _ a (R.cl i a) y.symm) (R.un _ _ a b g) (k i a) (R.nx i d a b (λo=>g o.symm) t).2 D
  .rw[o2] at r⊢;have u:on d≠d:=by intro o;rw[o] at r;exact absurd o (R.ko b f r)
   refine⟨C _ q,?_⟩;rw[v,n _ q,n l f];have s:=A.resolve_left u;by_cases g:l=d
   .subst g;exact pY (k l f) (R.un _ _ f q u.symm) (k _ q).symm s
   .exact LW (k d b) (R.un _ _ b q u.symm) (R.un _ _ b f (λo=>g o.symm)) (k _ q).symm (k l f).symm (R.un _ _ q f r.symm) s (R.nx d l b f g r).2
  .exact absurd rfl w
set_option tactic.hygienic true in
theorem Rg.del(R:Rg S on p e)(d:S i)(o1:∀x,S x->x≠i->on' x=if on x=i then on i else on x):Rg (λx=>S x/\x≠i) on' p e:=by
 refine⟨λx a=>R.ne x a.1,λx g a b=>R.un x g a.1 b.1,λx a=>?_,λx g a b h j=>?_⟩
 .rw[o1 x a.1 a.2];split
  .rename_i f;exact⟨R.cl i d,R.ko d a.1 a.2⟩
  .rename_i f;exact⟨R.cl x a.1,f⟩
 .rw[o1 x a.1 a.2] at j⊢;split at j
  .rename_i f;rw[if_pos f];have A:on x≠x:=by rw[f];exact a.2.symm
   have l:=R.nx x g a.1 b.1 h (by rw[f];exact b.2);replace l:=(f)▸l;have k:=R.nx i g d b.1 b.2 j;have n:on i≠x:=by intro s;replace k:=(s)▸k;have m:=pY (R.un _ _ a.1 d a.2) (R.un _ _ a.1 b.1 h.symm) (R.un _ _ d b.1 b.2.symm) l.2;exact LV m k.2
   refine⟨n,?_⟩;have t:=R.un _ _ d (R.cl i d) k.1.symm;have u:=R.un _ _ d b.1 b.2.symm;have v:=R.un _ _ d a.1 a.2.symm;have o:=R.un _ _ (R.cl i d) b.1 j.symm;have q:=R.un _ _ (R.cl i d) a.1 n;have r:=R.un _ _ b.1 a.1 h;have m:=pY (R.un _ _ a.1 d a.2) (R.un _ _ a.1 b.1 h.symm) (R.un _ _ d b.1 b.2.symm) l.2;have w:=LW t u v o q r k.2 m;exact jY o q r w
  .rename_i f;rw[if_neg f];exact R.nx x g a.1 b.1 h j
def Sep(x y:Int):Prop:=(0<x/\y<0)\/(x<0/\0<y)
def cL(a b c d:Pt):Prop:=Sep (cr a b c) (cr a b d)/\Sep (cr c d a) (cr c d b)
def dP(a z b:Pt):Prop:=cr a b z=0/\dt z a b<0
def dK(V:Pt->Prop)(a b c:Pt):Prop:=∀d,V d->ic d a b c<=0
def Dl(V:Pt->Prop)(a b:Pt):Prop:=(∀d,V d->¬dP a d b)/\∀d e,V d->V e->0<cr a b e->cr a b d<0->ic d a b e<=0
theorem Sep.symm(h:Sep x y):Sep y x:=by unfold Sep at*;exact(cV 0x2401180281980148d0008cc74002300523300281a401198e8 0x8821000010044008001004600042108401).2 h
theorem cL.symm(h:cL a b c d):cL c d a b:=⟨h.2,h.1⟩
theorem cL.flip(h:cL a b c d):cL b a c d:=by
 have e:∀x,cr b a x=-cr a b x:=λx=>by unfold cr;grind
 obtain⟨f,h2⟩:=h;refine⟨?_,h2.symm⟩;rw[e,e];unfold Sep at*;exact Bk f
theorem cL.rZ(h:cL a b c d):cL a b d c:=h.symm.flip.symm
theorem dP.symm(h:dP a z b):dP b z a:=⟨by have:=h.1;unfold cr at*;grind,by rw[MP];exact h.2⟩
theorem zZ(l r c z:Pt):cr r c z+cr c l z+cr l r z=cr l r c:=by unfold cr;grind
theorem wV(l r c x y:Pt):cr l r c*cr x y l=cr c l x*cr l r y-cr l r x*cr c l y:=by unfold cr;grind
theorem abI(l r c x y:Pt):cr r c x*cr x y l+cr c l x*cr x y r+cr l r x*cr x y c=0:=by unfold cr;grind
theorem abJ(l r c x y:Pt):cr r c y*cr x y l+cr c l y*cr x y r+cr l r y*cr x y c=0:=by unfold cr;grind
theorem mz{x y:Int}(h:x*y=0)(a:x≠0):y=0:=(Int.mul_eq_zero.mp h).resolve_left a
theorem BO{a b c A B C:Int}(h:a*A+b*B+c*C=0)(d:0<a)(e:0<A)(f:B<0)(g:0<C)(i:b<0)(j:0<=c):False:=by have k:=bP d e;have l:=mH i f;have m:=dF j (cn g);exact(dJ 0xb50021424011a10008d000a928108a8 0x2008c010046008c23).2 h k l m
theorem BP{a b c A B C:Int}(h:a*A+b*B+c*C=0)(f:a<0)(g:0<A)(i:B<0)(j:0<C)(k:c<=0):b<0:=by
 have l:=gU f g;have e:=dF (o8 k) (cn j);simp only[wc] at e;rcases eX b 0 with d|d|d
 .exact d
 .subst d;simp at h;lia
 .have:=fy d i;exact(gj 0xa0600a868580010a00148d000ad49108a8 0x24084011042008c26).2 h l e this
theorem MU{l r c x y:Pt}(j:0<cr l r c)(i:x=l\/cr l r x<0\/cr c l x<0)(h:cL x y c r)(hs:0<cr r c x):
  cL x y l r\/cL x y l c\/dP x l y\/(x=l/\0<cr l r y/\0<cr l y c):=by
 obtain⟨u,h2⟩:=h;have G:cr c r x=-cr r c x:=by unfold cr;grind
 have H:cr c r y=-cr r c y:=by unfold cr;grind
 have f:cr r c y<0:=by unfold Sep at h2;exact(gj 0x281a00b2a1205150b004600a866005635002331d0900468 0x1004e008421000200a00118501).2 hs h2 G H
 have M:=zZ l r c x;have m:=zZ l r c y;have s:=abI l r c x y;have t:=abJ l r c x y;have C:=bW c l y;have D:cr l c x=-cr c l x:=by unfold cr;grind
 have E:cr l c y=-cr c l y:=by unfold cr;grind
 by_cases v:x=l
 .subst v;right;right;right;have w:cr x y r=-cr x r y:=bO _ _ _;refine⟨rfl,?_⟩;rw[C];have A:=C;unfold Sep at u;exact(qz 0x4802340023325454200b2a1a84b0422a1a008d000b06858023005433002b1a801198e8 0x200b001584200802c004810802009c0148440000210840108560005410802009421).2 u f j m w A
 .have i:=i.resolve_left v;rcases eX (cr x y l) 0 with e|e|e
  .-- A < 0: turn signs
   rcases u with⟨d,b⟩|⟨d,b⟩
   .-- C > 0, B < 0: A and B alike
    right;left;have n:cr c l x<0:=by
     by_cases a:cr c l x<0
     .exact a
     .exfalso;have:cr r c x*(-cr x y l)+cr l r x*(-cr x y c)+cr c l x*(-cr x y r)=0:=by grind
      exact BO this hs (o3 e) (qI d) (o3 b) (PS i a) (o6 a)
    have o:0<cr c l y:=by
     by_cases a:0<cr c l y
     .exact a
     .exfalso;have:cr r c y*(-cr x y l)+cr l r y*(-cr x y c)+cr c l y*(-cr x y r)=0:=by grind
      have:=BP this f (o3 e) (qI d) (o3 b) (km a);exact PT j f m a this
    refine⟨.inr ⟨e,d⟩,?_⟩;simp only[D,E];left;exact PU n o
   .left;have n:cr l r x<0:=by
     by_cases a:cr l r x<0
     .exact a
     .exfalso;have:cr r c x*(-cr x y l)+cr c l x*(-cr x y r)+cr l r x*(-cr x y c)=0:=by grind
      exact BO this hs (o3 e) (qI b) (o3 d) (PV i a) (o6 a)
    have o:0<cr l r y:=by
     by_cases a:0<cr l r y
     .exact a
     .exfalso;have:cr r c y*(-cr x y l)+cr c l y*(-cr x y r)+cr l r y*(-cr x y c)=0:=by grind
      have:=BP this f (o3 e) (qI b) (o3 d) (km a);exact PW j f m a this
    exact⟨.inr ⟨e,b⟩, .inr ⟨n,o⟩⟩
  .right;right;left;refine⟨e,?_⟩;rw[e] at s t;have F:cr l r x<0/\0<cr l r y:=by
    rcases u with⟨d,b⟩|⟨d,b⟩
    .have B:cr l r x<0:=by
      rcases eX (cr l r x) 0 with a|a|a
      .exact a
      .rw[a] at s;have:=mz (x:=cr x y r) (y:=cr c l x) (by grind) (RV b);exact PX i this
      .have:=bP a d;have p:cr c l x<0:=PY i a;have:=mH p b;exact(gj 0xa06a00468580234002b52405108a8 0x10048008c22).2 s ‹_› this
     refine⟨B,?_⟩;rcases eX (cr l r y) 0 with a|a|a
     .have:=gU a d;have p:0<cr c l y:=PZ j f m a;have:=fy p b;exact(gj 0x8004600a868005634002b52405108a8 0x11842008425).2 t ‹_› this
     .rw[a] at t;have:=mz (x:=cr x y r) (y:=cr c l y) (by grind) (RV b);exact Qb j f m this
     .exact a
    .have B:cr l r x<0:=by
      rcases eX (cr l r x) 0 with a|a|a
      .exact a
      .rw[a] at s;have:=mz (x:=cr x y r) (y:=cr c l x) (by grind) (o2 b);exact PX i this
      .have:=fy a d;have p:cr c l x<0:=PY i a;have:=gU p b;exact(gj 0xa0600a868005634002b52405108a8 0x11842008425).2 s ‹_› this
     refine⟨B,?_⟩;rcases eX (cr l r y) 0 with a|a|a
     .have:=mH a d;have p:0<cr c l y:=PZ j f m a;have:=bP p b;exact(gj 0x80046a00468580234002b52405108a8 0x10048008c22).2 t ‹_› this
     .rw[a] at t;have:=mz (x:=cr x y r) (y:=cr c l y) (by grind) (o2 b);exact Qb j f m this
     .exact a
   have I:l≠x:=λJ=>v J.symm;have g:=oj l x r y;have w:=(bW l x y).symm.trans e;rw[w] at g;have A:=bP F.2 (dO I);have L:0<(-cr l r x)*(-dt l x y):=by rw[Zi,gN];exact PM g A
   have:=dD L (af2 F);exact sQ this
  .rcases u with⟨d,b⟩|⟨d,b⟩
   .left;have n:cr l r x<0:=by
     by_cases a:cr l r x<0
     .exact a
     .exfalso;exact BO s hs (oJ e) (Bm b) (oJ d) (PV i a) (o6 a)
    have o:0<cr l r y:=by
     by_cases a:0<cr l r y
     .exact a
     .exfalso;have:=BP t f (oJ e) (Bm b) (oJ d) (km a);exact PW j f m a this
    exact⟨.inl ⟨e,b⟩, .inr ⟨n,o⟩⟩
   .right;left;have n:cr c l x<0:=by
     by_cases a:cr c l x<0
     .exact a
     .exfalso;have:cr r c x*(cr x y l)+cr l r x*(cr x y c)+cr c l x*(cr x y r)=0:=by grind
      exact BO this hs (oJ e) (Bm d) (oJ b) (PS i a) (o6 a)
    have o:0<cr c l y:=by
     by_cases a:0<cr c l y
     .exact a
     .exfalso;have:cr r c y*(cr x y l)+cr l r y*(cr x y c)+cr c l y*(cr x y r)=0:=by grind
      have:=BP this f (oJ e) (Bm d) (oJ b) (km a);exact PT j f m a this
    refine⟨.inl ⟨e,d⟩,?_⟩;simp only[D,E];left;exact PU n o
theorem ad5(z l r c:Pt):ic z l r c*cr l r c=cr r c z*cr c l z*dt l r r+cr c l z*cr l r z*dt r c c+cr l r z*cr r c z*dt c l l:=by delta ic cr dt;grind
theorem akL{z l r c:Pt}(g:0<cr l r c)(o:0<=cr r c z)(q:0<=cr c l z)(s:0<=cr l r z)(z1:z≠l)(z2:z≠r)(z3:z≠c):0<ic z l r c:=by
 have B:=ad5 z l r c;have C:l≠r:=by rintro rfl;unfold cr at g;simp_all
 have D:r≠c:=by rintro rfl;unfold cr at g;grind
 have E:c≠l:=by rintro rfl;unfold cr at g;simp_all
 have u:=dO C;have v:=dO D;have w:=dO E;have d:=zZ l r c z;have x:=dF (dF o q) (cn u);have y:=dF (dF q s) (cn v);have A:=dF (dF s o) (cn w);have F:(0<cr r c z/\0<cr c l z)\/(0<cr c l z/\0<cr l r z)\/(0<cr l r z/\0<cr r c z):=by
  have G:cr c l z=0->cr l r z=0->z=l:=λf d=>by
   have h:cr l r c*(z.1-l.1)=cr c l z*(r.1-l.1)+cr l r z*(c.1-l.1):=by unfold cr;grind
   have i:cr l r c*(z.2-l.2)=cr c l z*(r.2-l.2)+cr l r z*(c.2-l.2):=by unfold cr;grind
   rw[f,d] at h i;have j:=mz (h.trans (by simp_all)) (o2 g);have k:=mz (i.trans (by simp_all)) (o2 g);exact kL (oH j) (oH k)
  have H:cr l r z=0->cr r c z=0->z=r:=λf d=>by
   have h:cr l r c*(z.1-r.1)=cr l r z*(c.1-r.1)+cr r c z*(l.1-r.1):=by unfold cr;grind
   have i:cr l r c*(z.2-r.2)=cr l r z*(c.2-r.2)+cr r c z*(l.2-r.2):=by unfold cr;grind
   rw[f,d] at h i;have j:=mz (h.trans (by grind)) (o2 g);have k:=mz (i.trans (by grind)) (o2 g);exact kL (oH j) (oH k)
  have I:cr r c z=0->cr c l z=0->z=c:=λf d=>by
   have h:cr l r c*(z.1-c.1)=cr r c z*(l.1-c.1)+cr c l z*(r.1-c.1):=by unfold cr;grind
   have i:cr l r c*(z.2-c.2)=cr r c z*(l.2-c.2)+cr c l z*(r.2-c.2):=by unfold cr;grind
   simp only[f,d] at h i;have j:=mz (h.trans (by grind)) (o2 g);have k:=mz (i.trans (by grind)) (o2 g);exact kL (oH j) (oH k)
  by_cases t:cr r c z=0
  .by_cases m:cr c l z=0
   .exact absurd (I t m) z3
   .by_cases n:cr l r z=0
    .exact absurd (H n t) z2
    .exact(dJ 0x20011a8011994008d2008cc7480234002331c015154800525521400850900428 0x4011000008023004000040118000080010046000001).2 q s m n
  .by_cases m:cr c l z=0
   .by_cases n:cr l r z=0
    .exact absurd (G m n) z1
    .exact(dJ 0x20011a8011994008d2008cc7480234002331c015154800505521400850800428 0x2008c0008022080000040118000080010046000001).2 o s t n
   .exact(dJ 0x20011a8011994008d2008cc7480234002331c014954800505521200850800428 0x80220000008023000200040118000080010046000001).2 o q t m
 have J:0<cr l r c*ic z l r c:=by
  rw[gN,B];rcases F with⟨f,d⟩|⟨f,d⟩|⟨f,d⟩
  .have:=bP (bP f d) u;exact(dJ 0x2928108011a0011a1400850900428 0x2009401004a008022).2 y A this
  .have:=bP (bP f d) v;exact(dJ 0x2928108011a4011a1400850800428 0x20094010046008024).2 x A this
  .have:=bP (bP f d) w;exact(dJ 0x2928108011a8011a1200850800428 0x20090010048008024).2 x y this
 exact dD J g
theorem Dl.nf(h:dK V a b d)(j:0<cr a b d):Dl V a b:=by
 refine⟨λf i l=>?_,λf g i n o p=>?_⟩
 .have:=h f i;have m:=eN f a b d;simp only[l.1] at m;have:=gU l.2 j;exact(dJ 0x2c0150d0a480a3415000a028 0x10842008c23).2 ‹_› m this
 .have q:=h f i;have r:0<=dt g a b*cr a b d-dt d a b*cr a b g:=sO (h g n) (eN g a b d);have s:0<=dt f a b*cr a b d-dt d a b*cr a b f:=sO q (eN f a b d);have u:=dF r (xM p);have v:=dF s (cn o);have t:0<=cr a b d*(dt f a b*cr a b g-dt g a b*cr a b f):=by grind
  have:=uW t j;exact GL (eN f a b g) this
theorem dK.bp(h:dK V a b c):dK V b c a:=λd e=>by rw[lZ];exact h d e
theorem Dl.symm(h:Dl V a b):Dl V b a:=by
 refine⟨λd f i=>h.1 d f i.symm,λd e f j l m=>?_⟩;have g:∀x,cr b a x=-cr a b x:=λx=>by unfold cr;grind
 have n:=h.2 e d j f (by have:=g d;exact afH m this) (by have:=g e;exact Qu l this);exact(uN d a b e)▸(ad9 d a b e)▸n
theorem dK.Vy(h:Dl V l r)(i:V c)(d:0<cr l r c)(j:∀z,V z->0<cr l r z->ic z l r c<=0):dK V l r c:=by
 intro z b;rcases eX (cr l r z) 0 with a|a|a
 .exact h.2 z c b i d a
 .have f:=eN z l r c;have:0<=dt z l r:=by
   by_cases g:0<=dt z l r
   .exact g
   .exact absurd ⟨a,o95 g⟩ (h.1 z b)
  have:=dF this (cn d);rw[a] at f;exact afI f this
 .exact j z b a
theorem afB(hr:V r)(b:V a)(c:0<cr l n a)(d:0<cr l r n)(e:0<ic a l r n):¬Dl V l n:=by
 intro h;have f:ic r l n a=ic a l r n:=by unfold ic;grind
 exact Qv e (h.2 r a hr b c (by exact vg d (bO l r n))) f
theorem afC(hl:V l)(b:V a)(c:0<cr r a n)(d:0<cr l r n)(e:0<ic a l r n):¬Dl V r n:=by
 intro h;have f:cr r n l=cr l r n:=bW _ _ _|>.symm▸(by unfold cr;simp_all)
 have g:ic a r n l=ic a l r n:=by unfold ic;grind
 exact Qv e (h.2 a l b hl (vh d f) (by have:=bO r n a;exact Qu c this)) g
theorem ajY(b:0<cr l r c)(a:0<cr l c n)(d:0<cr l n s)(e:0<cr l c s)(hs:0<ic s l r c)(f:Dl V l n)(h:V c)(vs:V s):0<ic n l r c:=by
 have g:=Fq l c r n s;have i:ic s l c n=ic c l n s:=by unfold ic;grind
 have j:ic s l c r=-ic s l r c:=by have:=lZ s l c r;have:=uN s l r c;have:=lZ s r l c;have:=lZ s l c r;have:=lZ s c r l;exact Qw ‹_› ‹_›
 have k:ic n l c r=-ic n l r c:=by have:=lZ n l c r;have:=uN n l r c;have:=lZ n r l c;have:=lZ n l c r;have:=lZ n c r l;exact Qw ‹_› ‹_›
 simp only[i,j,k,bO l r c] at g;have o:=dF (cn b) (o8 (f.2 c s h vs d (by have:=bO l c n;exact vg a this)));have p:=bP a hs;have m:0<cr l c s*ic n l r c:=by grind
 exact dD m e
theorem BX(b:0<cr l r c)(h:0<cr l a c)(f:0<cr l c d)(n:ic c l a d<=0)(o:ic a l r c<=0)(p:ic d l r c<=0):ic d l r c=0/\0<cr l r d/\ic a l r c=0:=by
 have g:=Fq l c a d r;have q:ic r l c d=ic d l r c:=by unfold ic;grind
 have s:ic r l c a=ic a l r c:=by unfold ic;grind
 have t:ic d l c a=ic c l a d:=by unfold ic;grind
 simp only[q,s,t,bO l a c,bO l r c] at g;have m:=dF (cn h) (o8 p);have i:=dF (cn f) (o8 o);have j:=dF (cn b) (o8 n);simp only[wc,iP] at g m i j;have k:cr l a c*ic d l r c=0:=(dJ 0xa0aa000214240008508000214002a02500188a8 0x118420004610802308401004a1).2 g m i j;have z2:cr l c d*ic a l r c=0:=(dJ 0x505005254280008508000214002a02120188a8 0x120420004a10802208401004c1).2 g i j k;refine⟨(mz k (o2 h)),?_,(mz z2 (o2 f))⟩;have u:ic d l r c+(cr l r c*dt l d d-cr l r d*dt l c c+cr l c d*dt l r r)=0:=by delta ic cr dt;grind
 have v:l≠d:=by rintro rfl;unfold cr at f;grind
 have w:l≠c:=by rintro rfl;unfold cr at b;grind
 have hr:l≠r:=by rintro rfl;unfold cr at b;simp_all
 have x:0<dt l c c*cr l r d:=by rw[gN];exact Qx (mz k (o2 h)) u (bP b (dO v)) (bP f (dO hr))
 exact dD x (dO w)
theorem uJ(S:l->Prop)(f:l->l->Prop)(rf:∀a,S a->f a a)(n:∀a b,S a->S b->f a b\/f b a)(o:∀a b c,S a->S b->S c->f a b->f b c->f a c)(xs:List l):
  (∃x∈xs,S x)->∃x∈xs,S x/\∀y∈xs,S y->f y x:=by
 induction xs with
 |nil=>rintro⟨x,h,_⟩;cases h
 |cons a xs p=>
  intro h;by_cases c:∃x∈xs,S x
  .obtain⟨x,i,g,h2⟩:=p c;by_cases j:S a
   .rcases n a x j g with m|m
    .refine⟨x,fZ _ i,g,λy d e=>?_⟩;rcases cP.mp d with rfl|d
     .exact m
     .exact h2 y d e
    .refine⟨a,gO,j,λy d e=>?_⟩;rcases cP.mp d with rfl|d
     .exact rf _ e
     .exact o _ _ _ e g j (h2 y d e) m
   .refine⟨x,fZ _ i,g,λy d e=>?_⟩;rcases cP.mp d with rfl|d
    .exact absurd e j
    .exact h2 y d e
  .obtain⟨x,i,g⟩:=h;rcases cP.mp i with rfl|i
   .refine⟨x,gO,g,λy d e=>?_⟩;rcases cP.mp d with rfl|d
    .exact rf _ e
    .exact absurd ⟨y,d,e⟩ c
   .exact absurd ⟨x,i,g⟩ c
theorem Np{V:List Pt}{l r:Pt}(h:∃z∈V,0<cr l r z):∃c∈V,0<cr l r c/\∀z∈V,0<cr l r z->ic z l r c<=0:=by
 refine uJ (λz=>0<cr l r z) (λg x=>ic g l r x<=0) (λd f=>?_) (λd e f f=>?_) (λd e c i j k m n=>?_) V h
 .have:=eN d l r d;exact(cV 0x1405291a0a8 0x8421).2 this
 .have:=eN d l r e;have:=eN e l r d;exact(gj 0xa4200a02752c692a16a1a0a8 0x20088011844009022).2 ‹_› this
 .have o:=eN d l r e;have q:=dF (sO m o) (cn k);have s:=dF (sO n (eN e l r c)) (cn i);have p:0<=cr l r e*(dt d l r*cr l r c-dt c l r*cr l r d):=by grind
  have:=uW p j;exact GL (eN d l r c) this
structure Part(n:Nat)(on:Nat->Nat)(P:Nat->Pt)(al:Nat->Prop)(V:List Pt):Prop where
 lt:∀i,al i->i<n
 ev:∀i,al i->i%2=0
 op:∀i,al i->al (U i)
 bk:∀i,al i->al (aZ on i)
 rg:∀p,Rg (λi=>al i/\P i=p) on p (λi=>P (U i))
 vt:∀i,al i->P i∈V
 sg:∀i z,al i->z∈V->¬dP (P i) z (P (U i))
 pl:∀i j,al i->al j->¬cL (P i) (P (U i)) (P j) (P (U j))
inductive Ln(P:Nat->Pt)(al:Nat->Prop)(a b:Pt):Prop
 |mk (c:Nat) (h:al c) (e1:P c=a) (e2:P (U c)=b)
inductive Lc(P:Nat->Pt)(al:Nat->Prop)(a b:Pt):Prop
 |mk (k:Nat) (h:al k) (c:cL (P k) (P (U k)) a b)
inductive Fc(P:Nat->Pt)(al:Nat->Prop)(V:List Pt)(i:Nat):Prop
 |mk (a k:Nat) (c:al a) (d:al k) (pj:P a=P i) (pk:P k=P (U i)) (e:P (U k)=P (U a)) (D:0<cr (P i) (P (U i)) (P (U a))) (f:dK (λb=>b∈V) (P i) (P (U i)) (P (U a)))
inductive Sr(P:Nat->Pt)(al:Nat->Prop)(a l r c:Pt):Prop
 |mk (b:Nat) (h:al b) (e:P b=a) (d:0<cr l r (P (U b))) (f:ic (P (U b)) l r c=0)
structure iW(P:Nat->Pt)(al:Nat->Prop)(V:List Pt):Prop where
 vx:∀p∈V,∃i,al i/\P i=p
 cZ:∀i z,al i->z∈V->0<cr (P i) (P (U i)) z->Fc P al V i
 Fz:∀a b,a∈V->b∈V->a≠b->(∀z∈V,0<=cr a b z)->(∀z∈V,¬dP a z b)->Ln P al (a) b
theorem Part.jI(A:Part n on P al V)(h:al i):al (on i):=((A.rg (P i)).cl i ⟨h,rfl⟩).1
theorem Part.dk(A:Part n on P al V)(h:al i):P (on i)=P i:=((A.rg (P i)).cl i ⟨h,rfl⟩).2
theorem Part.ne(A:Part n on P al V)(h:al i):P i≠P (U i):=(A.rg (P i)).ne i ⟨h,rfl⟩
theorem Part.un(A:Part n on P al V)(h:al i)(h':al j)(e:P j=P i)(a:i≠j):Un (P i) (P (U i)) (P (U j)):=(A.rg (P i)).un i j ⟨h,rfl⟩ ⟨h',e⟩ a
theorem Part.nx(A:Part n on P al V)(h:al i)(h':al j)(e:P j=P i)(a:j≠i)(b:j≠on i):on i≠i/\bM (P i) (P (U i)) (P (U (on i))) (P (U j)):=(A.rg (P i)).nx i j ⟨h,rfl⟩ ⟨h',e⟩ a b
theorem Part.vo(A:Part n on P al V)(h:al i):P (U i)∈V:=A.vt _ (A.op i h)
theorem Part.ko(A:Part n on P al V)(h:al i)(h':al j)(e:P j=P i)(a:j≠i):on i≠i:=(A.rg (P i)).ko ⟨h,rfl⟩ ⟨h',e⟩ a
theorem ak1(R:Rg S on p e)(w:∀i,S i->i<n)(h:∃i,S i)(f:∀i,S i->Un p (e i) c):∃x,S x/\(on x=x\/bM p (e x) c (e (on x))):=by
 obtain⟨x,_,o,hx⟩:=uJ S (λA x=>A=x\/bM p c (e A) (e x)) (λj E=> .inl rfl) (λj m r s=>by
   by_cases l:j=m
   .exact .inl (.inl l)
   .rcases wW (f j r).symm (f m s).symm (R.un j m r s l) with g|g
    .exact .inl (.inr g)
    .exact .inr (.inr g))
  (λj m C r s D t u=>by
   rcases t with rfl|t
   .exact u
   .rcases u with rfl|u
    .exact .inr t
    .exact .inr (pZ (f j r).symm (f m s).symm (f C D).symm t u)) (fD n) (let⟨i,B⟩:=h;⟨i,jV.mpr (w i B),B⟩)
 refine⟨x,o,?_⟩;by_cases l:on x=x
 .exact .inl l
 .right;have v:=R.cl x o;rcases hx (on x) (jV.mpr (w _ v)) v with g|g
  .exact absurd g l
  .exact jY (f _ v).symm (f x o).symm (R.un _ _ v o l) g
theorem jt(h:bM p a b c)(d:0<cr p a c):0<cr p a b/\0<cr p b c:=by grind [bM,cls]
theorem DS(h:bM p a b c)(d:cr p a b<0):cr p a c<0/\0<cr p b c:=by unfold bM cls at h;lia
theorem sX(j:p≠a)(l:p≠b)(h:oP p a b):a=b\/dP p a b\/dP p b a:=by
 have f:=EB p a b;rw[h.1] at f;have m:dt a p b=dt p a a-dt p a b:=by unfold dt;grind
 have n:dt b p a=dt p b b-dt p a b:=by unfold dt;grind
 have o:cr p b a=0:=by have:=bO p a b;have:=h.1;exact PD ‹_› this
 have r:=dO l;have d:=h.2;rcases eX (dt p a a) (dt p a b) with c|c|c
 .exact .inr (.inl ⟨o,PE m c⟩)
 .left;have g:dt p a a*(b.1-a.1)=(dt p a b-dt p a a)*(a.1-p.1)-cr p a b*(a.2-p.2):=by delta dt cr;grind
  have i:dt p a a*(b.2-a.2)=(dt p a b-dt p a a)*(a.2-p.2)+cr p a b*(a.1-p.1):=by delta dt cr;grind
  simp only[h.1,<-c] at g i;exact kL (Bh (mz (g.trans (by grind)) (PF d c))) (Bh (mz (i.trans (by grind)) (PF d c)))
 .refine .inr (.inr ⟨h.1,?_⟩);have:dt p b b<dt p a b:=by
   rcases CQ (dt p b b) (dt p a b) with e|e
   .exact e
   .exfalso;have:=CS c d;have:=JK e (cn (dO j));exact(dJ 0x1695050a40d0940020208a8 0x10044008424).2 f ‹_› this
  exact PE n this
theorem OJ(A:Part n on P al V)(C:iW P al V)(v:al x)(kx:on x=x)(I:c∈V)(u:Un (P x) (P (U x)) c)(J:cr (P x) (P (U x)) c=0):False:=by
 have hl:=A.vt x v;obtain⟨g,px⟩:∃g,P x=g:=⟨_,rfl⟩;rw[px] at u J hl;have L:=u.hb;have only:∀p,al p->P p=g->p=x:=λp hi D=>by
  by_cases m:p=x
  .exact m
  .exact absurd kx (A.ko v hi (D.trans px.symm) m)
 have M:∀f∈V,cr g (P (U x)) f=0:=by
  intro f o;rcases eX (cr g (P (U x)) f) 0 with m|m|m
  .obtain⟨B,s,N,O,Q,E,R,hd,em⟩:=C.cZ (U x) f (A.op _ v) o (by simp only[cg,px];have:=bW (P (U x)) g f;have:=bO g (P (U x)) f;have:=bW g f (P (U x));exact PG m ‹_› ‹_›);simp only[cg,px] at E hd;have:=only s O E;subst this;simp only[<-R] at hd;exfalso;have:cr (P (U s)) g (P (U s))=0:=by unfold cr;grind
   exact o5 hd this
  .exact m
  .obtain⟨B,s,N,O,Q,E,R,hd,em⟩:=C.cZ x f v o (px▸m);have:=only B N (Q.trans px);subst this;have:=dI (P B) (P (U B));exact(cV 0x1414014950900468 0x100460).2 hd this
 have F:∀r f,r∈V->f∈V->cr g r f=0:=by intro r f hy o;have D:=oj g (P (U x)) r f;simp only[M f o,bO g (P (U x)) r,M r hy] at D;exact mz (x:=dt g (P (U x)) (P (U x))) (by rw[gN];lia) (o2 (dO u.ha))
 obtain⟨h,v0,s0,m0⟩:=uJ (λf=>0<dt g c f) (λr x=>dt g c x<=dt g c r) (λt t=>kE _) (λa b t t=>by exact PH) (λa b d t t t h1 h2=>JI h2 h1) V ⟨c,I,dO L⟩;have S:g≠h:=by rintro rfl;unfold dt at s0;simp_all
 obtain⟨p,ai,e1,e2⟩:=C.Fz g h hl v0 S (λf o=>nO (F h f v0 o).symm) (λf o s=>by
  have Y:=EB g f h;have Z:dt f g h=dt g f f-dt g f h:=by unfold dt;grind
  have G:dt g c f*dt g h h=dt g c h*dt g f h+cr g c h*cr g f h:=by delta dt cr;grind
  have k2:=s.2;rw[(F f h o v0)] at Y;simp only[(F c h I v0)] at G;have H:=dO S;have p1:0<=dt g f f:=by unfold dt;have:=ir (f.1-g.1);have:=ir (f.2-g.2);exact uZ ‹_› this
  have p2:=PJ Z k2 p1;have p4:0<dt g h h*dt g c f:=by simp only[gN];exact GI G (bP s0 p2)
  have p6:dt g f h<dt g h h:=by
   rcases CQ (dt g f h) (dt g h h) with m|m
   .exact m
   .exfalso;exact(dJ 0x1685050a48d0940020208a8 0x11042008821).2 Y (CS (afQ Z k2) H) (JK m (cn p2))
  exact(gj 0xb42c285a46850089120a8 0x11042008821).2 G (Int.mul_lt_mul_of_pos_left p6 s0) (Int.mul_le_mul_of_nonneg_right (m0 f o (dD p4 H)) (cn H)))
 have:=only p ai e1;subst this;have hn:=oN L u.ha (by have:=bO g (P (U p)) c;exact RU J this) (λf=>u.hr (Hv f));rw[e2] at hn;exact xP s0 hn
theorem star(A:Part n on P al V)(I:iW P al V)(hl:l∈V)(m:c∈V)(s:0<cr l r c)(h:dK (λz=>z∈V) l r c):
  Sr P al (l) l r c:=by
 have M:l≠c:=by rintro rfl;unfold cr at s;simp_all
 by_cases Y:Ln P al (l) c
 .obtain⟨b,t,h2,Z⟩:=Y;exact⟨b,t,h2,by rw[Z];exact s,by rw[Z];have:=eN c l r c;exact afR this⟩
 .have N:∀b,al b/\P b=l->Un l (P (U b)) c:=by
   rintro b ⟨t,rfl⟩;refine⟨A.ne t,M,λd=>?_⟩;rcases sX (A.ne t) M d with a|a|a
   .exact Y ⟨b,t,rfl,a⟩
   .-- the neighbour between l and c lies within the circle
    have e:=eN (P (U b)) (P b) r c;have:Dl (λz=>z∈V) c (P b):=by have h':=h.bp.bp;exact Dl.nf h' (by have:=bW (P b) r c;have:=bW r c (P b);exact PK s ‹_› this)
    exact this.1 _ (A.vo t) a.symm
   .exact A.sg b c t m a
  obtain⟨x,⟨ax,px⟩,hx⟩:=ak1 (A.rg l) (λb hi=>A.lt b hi.1) (I.vx l hl) N;have u:=N x ⟨ax,px⟩;by_cases C:0<cr l (P (U x)) c
  .-- the triangle to the left of x
   obtain⟨v,d,w,B,D,E,_,hd,em⟩:=I.cZ x c ax m (px▸C);rw[px] at D hd em;have a0:0<cr l c (P (U v)):=by
    have O:v≠x:=by rintro rfl;have:=dI l (P (U v));exact o5 hd this
    have f:=A.ko ax w (D.trans px.symm) O;have b2:bM l (P (U x)) c (P (U v)):=by
     by_cases a:v=on x
     .rw[a];exact(hx.resolve_left f)
     .have G:=(A.nx ax w (D.trans px.symm) O a).2;have g:=A.un ax (A.jI ax) (A.dk ax) f.symm;have H:=A.un ax w (D.trans px.symm) O.symm;rw[px] at G g H;exact pZ u g H (hx.resolve_left f) G
    exact(jt b2 hd).2
   exact⟨v,w,D,(BX s C a0 (em c m) (h _ (A.vo ax)) (h _ (A.vo w))).2.1,(BX s C a0 (em c m) (h _ (A.vo ax)) (h _ (A.vo w))).1⟩
  .have o:=A.jI ax;have F:=(A.dk ax).trans px;have uo:=N (on x) ⟨o,F⟩;by_cases p:cr l (P (U (on x))) c<0
   .-- the triangle to the right of the next one
    obtain⟨v,d,w,B,D,E,a3,hd,em⟩:=I.cZ (U (on x)) c (A.op _ o) m (by simp only[cg,F];have:=bW (P (U (on x))) l c;have:=bO l (P (U (on x))) c;have:=bW l c (P (U (on x)));exact PG p ‹_› ‹_›);simp only[cg,F] at E hd em;simp only[<-a3] at hd em;have J:cr l (P (U (on x))) (P (U d))<0:=by have:=bW (P (U (on x))) l (P (U d));have:=bO l (P (U (on x))) (P (U d));have:=bW l (P (U d)) (P (U (on x)));exact(dJ 0x140d00515095150900468 0x2108401284e008421).2 hd ‹_› ‹_›
    have Q:d≠on x:=by rintro rfl;have:=dI l (P (U (on x)));exact wb J this
    have f:on x≠x:=by
     intro a;have:d≠x:=by rw[<-a];exact Q
     exact A.ko ax B (E.trans px.symm) this a
    have g:=A.un ax o (A.dk ax) f.symm;rw[px] at g;have r1:=jY u g uo.symm (hx.resolve_left f);have AL:0<cr l (P (U d)) c:=by
     by_cases a:d=x
     .rw[a] at J⊢;exact(DS r1 J).2
     .have G:=(A.nx ax B (E.trans px.symm) a Q).2;have H:=A.un ax B (E.trans px.symm) (λz=>a z.symm);have R:=A.un o B (E.trans F.symm) Q.symm;rw[px] at G H;rw[F] at R;exact(DS (pZ R g.symm uo (pY g H R G) r1) J).2
    exact⟨on x,o,F,(BX s AL (by have:=bO l (P (U (on x))) c;exact xU p this) (by rw[lZ];exact em c m) (h _ (A.vo B)) (h _ (A.vo o))).2.1,(BX s AL (by have:=bO l (P (U (on x))) c;exact xU p this) (by rw[lZ];exact em c m) (h _ (A.vo B)) (h _ (A.vo o))).1⟩
   .exfalso;by_cases f:on x=x
    .rw[f] at p;rw[<-px] at C p u;exact OJ A I ax f m u ((ip 0x505005035210008d48 0x4410800100441).2 C p)
    .have S:=hx.resolve_left f;have g:=A.un ax o (A.dk ax) (λz=>f z.symm);rw[px] at g;rcases eX (cr l (P (U x)) c) 0 with a|a|a
     .have:=(DS S a).2;have:=bO l (P (U (on x))) c;exact(cV 0xb40125424011a00140d48 0x10048008024).2 p ‹_› this
     .rcases eX (cr l (P (U x)) (P (U (on x)))) 0 with L|L|L
      .have:=Hi u.ha M a u.hr L;exact p this
      .have e:=oj l (P (U x)) c (P (U (on x)));simp only[L,bO l (P (U x)) c,a] at e;have:=mz (x:=dt l (P (U x)) (P (U x))) (y:=cr l c (P (U (on x)))) (by rw[gN];lia) (o2 (dO u.ha));unfold bM cls at S;simp_all
      .unfold bM cls at S;lia
     .exact C a
theorem Rg.congr(R:Rg S on p e)(hs:∀i,k i↔S i)(f:∀i,S i->on' i=on i)(d:∀i,S i->e' i=e i):Rg k on' p e':=by
 refine⟨λi a=>?_,λi c a b h=>?_,λi a=>?_,λi c a b l g=>?_⟩
 .have a:=(hs i).mp a;simp only[d i a];exact R.ne i a
 .have a:=(hs i).mp a;have b:=(hs c).mp b;simp only[d i a,d c b];exact R.un i c a b h
 .have a:=(hs i).mp a;simp only[f i a];exact(hs _).mpr (R.cl i a)
 .have a:=(hs i).mp a;have b:=(hs c).mp b;rw[f i a] at g⊢;simp only[d i a,d c b,d _ (R.cl i a)];exact R.nx i c a b l g
theorem Part.del(A:Part n on P al V)(Q:QE n on)(d:al i):Part n (bY.del on i) P (λx=>al x/\x≠i/\x≠U i) V:=by
 have g:=A.ne d;have o:=A.op i d;have F:on i≠U i:=λa=>g (by have:=A.dk d;rw[a] at this;exact this.symm);have G:on (U i)≠i:=λa=>g (by have:=A.dk o;rw[a] at this;exact this);have q:∀x,al x->x≠i->x≠U i->bY.del on i x=if on x=i then on i else if on x=U i then on (U i) else on x:=by intro x b u l;rw[Am Q (A.lt i d) (A.ev i d) (A.lt x b) (A.ev x b) F G,if_neg l,if_neg u]
 refine⟨λx b=>A.lt x b.1,λx b=>A.ev x b.1,λx b=>⟨A.op x b.1,λa=>b.2.2 (by simp only[<-a,cg]),λa=>b.2.1 (aiQ a)⟩,λx b=>?_,λv=>?_,λx b=>A.vt x b.1,λx a b=>A.sg x a b.1,λx H b I=>A.pl x H b.1 I.1⟩
 .have B:=A.bk x b.1;have t:=A.lt x b.1;have m:=Q.gq t;have C:=Q.del (A.lt i d) (A.ev i d);by_cases j:aZ on x=i
  .rw[j] at m;have D:=A.bk i d;have c:=Q.gq (A.lt i d);have r:aZ on i≠i:=λa=>b.2.1 (by rw[a] at c;simp only[<-m,c]);have s:aZ on i≠U i:=λa=>G (by rw[a] at c;exact c);exact((C.gF t (A.lt _ D)).mpr (by rw[q _ D r s,if_pos c,m]))▸⟨D,r,s⟩
  .by_cases k:aZ on x=U i
   .rw[k] at m;have c:=Q.gq (A.lt _ o);have r:aZ on (U i)≠i:=λa=>F (by rw[a] at c;exact c);have s:aZ on (U i)≠U i:=λa=>b.2.2 (by rw[a] at c;simp only[<-m,c]);exact((C.gF t (A.lt _ (A.bk _ o))).mpr (by rw[q _ (A.bk _ o) r s,if_neg (by rw[c];exact Hj i),if_pos c,m]))▸⟨(A.bk _ o),r,s⟩
   .exact((C.gF t (A.lt _ B)).mpr (by rw[q _ B j k,m,if_neg b.2.1,if_neg b.2.2]))▸⟨B,j,k⟩
 by_cases j:v=P i
 .subst j;refine((A.rg (P i)).del (on':=bY.del on i) ⟨d,rfl⟩ ?_).congr (λx=>⟨λh=>⟨⟨h.1.1,h.2⟩,h.1.2.1⟩,λh=>⟨⟨h.1.1,h.2,λa=>g (a▸h.1.2.symm)⟩,h.1.2⟩⟩) (λf f=>rfl) (λf f=>rfl);intro x b E;have l:x≠U i:=λa=>g (a▸b.2.symm);rw[q x b.1 E l];split
  .rfl
  .rw[if_neg];intro a;have:=A.dk b.1;simp only[a,b.2] at this;exact g this.symm
 .by_cases k:v=P (U i)
  .subst k;refine((A.rg (P (U i))).del (on':=bY.del on i) ⟨o,rfl⟩ ?_).congr (λx=>⟨λh=>⟨⟨h.1.1,h.2⟩,h.1.2.2⟩,λh=>⟨⟨h.1.1,λa=>g (by simp only[<-h.1.2,a]),h.2⟩,h.1.2⟩⟩) (λf f=>rfl) (λf f=>rfl);intro x b E;have l:x≠i:=λa=>g (by simp only[<-b.2,a]);rw[q x b.1 l E];rw[if_neg];intro a;have:=A.dk b.1;simp only[a,b.2] at this;exact g this
  .refine(A.rg v).congr (λx=>⟨λh=>⟨h.1.1,h.2⟩,λh=>⟨⟨h.1,λa=>j (by rw[<-a];exact h.2.symm),λa=>k (a▸h.2.symm)⟩,h.2⟩⟩) (λx b=>?_) (λf f=>rfl);have u:x≠i:=λa=>j (by rw[<-a];exact b.2.symm);have l:x≠U i:=λa=>k (a▸b.2.symm);rw[q x b.1 u l,if_neg,if_neg]
   .intro a;have:=A.dk b.1;rw[a,b.2] at this;exact k this.symm
   .intro a;have:=A.dk b.1;rw[a,b.2] at this;exact j this.symm
theorem zY{V:List Pt}{u v w x:Pt}(h:dK (λz=>z∈V) u v w)(d:0<cr u v w)(e:x∈V)(f:x≠u)(x2:x≠v)(g:x≠w)(a:0<=cr u v x)(b:0<=cr v w x)(c:0<=cr w u x):False:=by have:=akL d b c a f x2 g;have:=h x e;exact PL ‹_› this
theorem acF{n:Nat}{on:Nat->Nat}{P:Nat->Pt}{al:Nat->Prop}{V:List Pt}{a d k:Nat}(A:Part n on P al V)(p:al a)(y:al d)(s:on a=d)(u:0<cr (P a) (P (U a)) (P (U d)))(h:dK (λz=>z∈V) (P a) (P (U a)) (P (U d)))
 (g:al k):¬cL (P k) (P (U k)) (P (U d)) (P (U a)):=by
  have v:∀k,al k->0<cr (P (U a)) (P (U d)) (P k)->¬cL (P k) (P (U k)) (P (U d)) (P (U a)):=by
   intro k g i o;have B:P d=P a:=by rw[<-s];exact A.dk p
   have C:P k≠P (U a):=by intro z;rw[z] at i;unfold cr at i;simp_all
   have D:P k≠P (U d):=by intro z;simp only[z] at i;unfold cr at i;grind
   rcases MU (l:=P a) (r:=P (U a)) (c:=P (U d)) u (by
     by_cases f:P k=P a
     .exact .inl f
     .right;by_cases j:cr (P a) (P (U a)) (P k)<0
      .exact .inl j
      .by_cases m:cr (P (U d)) (P a) (P k)<0
       .exact .inr m
       .exact(zY h u (A.vt k g) f C D (o6 j) (xN i) (o6 m)).elim) o i with f|f|f|f
   .exact A.pl k a g p f
   .have:=A.pl k d g y;rw[B] at this;exact this f
   .exact A.sg k (P a) g (A.vt a p) f
   .obtain⟨E,j,m⟩:=f;by_cases w:k=a
    .rw[w] at j;have:=dI (P a) (P (U a));exact o5 j this
    .by_cases z2:k=d
     .rw[z2] at m;have:=dI (P a) (P (U d));exact o5 m this
     .have x:=(A.nx p g E w (s▸z2)).2;rw[s] at x;have:=(jt x j).2;have:=bO (P a) (P (U d)) (P (U k));exact(cV 0x5a4082a12008d0800468 0x10048008024).2 m ‹_› this
  intro o;rcases o.2 with f|f
  .have t:cr (P (U d)) (P (U a)) (P (U k))=-cr (P (U a)) (P (U d)) (P (U k)):=by unfold cr;grind
   refine v (U k) (A.op k g) ((dJ 0x20011a00a2a00150d2008cc8 0x12042008023).2 f t) ?_;rw[cg];exact o.flip
  .have t:cr (P (U d)) (P (U a)) (P k)=-cr (P (U a)) (P (U d)) (P k):=by unfold cr;grind
   exact v k g ((dJ 0x20011a0092a14008c0148cc8 0x12842008023).2 f t) o
theorem ang(a:0<cr u v w)(b:0<cr u v m)(c:0<cr u m w)(d:¬(0<=cr v w m)):cL u m v w:=by
 have e:cr v w u=cr u v w:=by unfold cr;grind
 refine⟨.inr ⟨vg b (bO u v m),c⟩,?_⟩;left;exact by refine⟨?_,?_⟩<;>first|exact lt_of_lt_of_eq a e.symm|exact JJ d
theorem LB{n:Nat}{on:Nat->Nat}{P:Nat->Pt}{al:Nat->Prop}{V:List Pt}{u v w:Pt}{k j:Nat}(A:Part n on P al V)(d:0<cr u v w)(h:dK (λz=>z∈V) u v w)(e:al k)(g:al j)(pk:P k=u)(i:P j=v)(l:P (U j)=w)(a:0<cr u v (P (U k)))(b:0<cr u (P (U k)) w):False:=by
 have m:cr w u (P (U k))=cr u (P (U k)) w:=by unfold cr;grind
 have f:=ang d a b (λo=>by
  refine zY h d (A.vo e) (λz=>?_) (λz=>?_) (λz=>?_) (cn a) o (afS b m)
  .rw[z] at a;unfold cr at a;simp_all
  .rw[z] at a;have:=dI u v;exact o5 a this
  .rw[z] at b;have:=dI u w;exact o5 b this)
 simp only[<-pk,<-i,<-l] at f;exact A.pl k j e g f
theorem Part.lnk(A:Part n on P al V)(Q:QE n on)(N:QE (n+4) on')(a1:al i)(o2:al j)(hv:P (U i)=v)(T:P j=w)(E:v≠w)(Y:∀z∈V,¬dP v z w)
  (a5:∀k,al k->P k=v->P (U k)≠w)(Z:∀k,al k->¬cL (P k) (P (U k)) v w)
  (wv:aZ on (U i)=U i\/bM v (P (U (aZ on (U i)))) w (P i))(ww:on j=j\/bM w (P (U j)) v (P (U (on j))))
  (aQ:∀x,al x->x≠n/\x≠n+2)(l:∀x,al x->I x=P x)(o:I n=v)(r:I (n+2)=w)(ad:al (aZ on (U i))/\P (aZ on (U i))=v)
  (a6:on' n=U i)(a7:on' (n+2)=on j)(a8:on' j=n+2)(a9:on' (aZ on (U i))=n)(a0:∀x,al x->x≠j->x≠aZ on (U i)->on' x=on x):
  Part (n+4) on' I (λx=>al x\/x=n\/x=n+2) V:=by
 have h4:=Q.n4;have F:=gE h4;have G:=jy h4;have o1:=A.op i a1;have b0:=hv▸A.vo a1;have b1:=T▸A.vt j o2;have s:∀x,al x->I (U x)=P (U x):=λx c=>l _ (A.op x c);have p2:=Q.gq (A.lt _ o1);have b2:∀k,al k/\P k=v->Un v (P (U k)) w:=by
  rintro k ⟨t,pk⟩;have hk:=A.ne t;rw[pk] at hk;refine⟨hk,E,λz=>?_⟩;rcases sX hk E z with f|f|f
  .exact a5 k t pk f
  .exact Y _ (A.vo t) f
  .rw[<-pk] at f;exact A.sg k w t b1 f
 have b3:∀k,al k/\P k=w->Un w (P (U k)) v:=by
  rintro k ⟨t,pk⟩;have hk:=A.ne t;rw[pk] at hk;refine⟨hk,E.symm,λz=>?_⟩;rcases sX hk E.symm z with f|f|f
  .exact a5 (U k) (A.op k t) f (by rw[cg];exact pk)
  .exact Y _ (A.vo t) f.symm
  .rw[<-pk] at f;exact A.sg k v t b0 f
 refine⟨?_,?_,?_,?_,λO=>?_,?_,?_,?_⟩
 .rintro x (c|rfl|rfl)
  .have:=A.lt x c;exact o0 this
  .exact mv
  .exact qH
 .rintro x (c|rfl|rfl)
  .exact A.ev x c
  .exact kU h4
  .exact qK h4
 .rintro x (c|rfl|rfl)
  .exact .inl (A.op x c)
  .rw[F];exact .inr (.inr rfl)
  .rw[G];exact .inr (.inl rfl)
 .rintro x (c|rfl|rfl)
  .have a3:=A.lt x c;have R:=Q.gq a3;by_cases J:x=U i
   .subst J;rw[(N.gF (o0 a3) (mv)).mpr a6];exact .inr (.inl rfl)
   .by_cases L:x=on (j)
    .rw[(N.gF (o0 a3) (qH)).mpr (by rw[a7,L])];exact .inr (.inr rfl)
    .rw[(N.gF (o0 a3) (show aZ on x<n+4 by have:=A.lt _ (A.bk x c);exact o0 this)).mpr (by simp only[a0 _ (A.bk x c) (λz=>L (by simp only[<-z,R])) (λz=>J (by rw[<-R,z,p2])),R])];exact .inl (A.bk x c)
  .exact((N.gF (mv) (o0 (Q.iH (A.lt _ o1)))).mpr a9)▸ .inl ad.1
  .rw[(N.gF (qH) (show j<n+4 by have:=A.lt _ o2;exact o0 this)).mpr a8];exact .inl o2
 .by_cases J:O=v
  .subst J;refine((A.rg O).ins (d:=aZ on (U i)) (m:=n) (B:=w) (on':=on') (e':=λi=>I (U i)) ad (λz=>(aQ n z.1).1 rfl) (F▸r) (λx c=>s x c.1) b2 ?_ a9 (by simp only[a6,p2]) ?_).congr ?_ (λH H=>rfl) (λH H=>rfl)
   .rw[p2,cg];exact wv.imp (λh=>h.symm) λh=>h
   .intro x c f;exact a0 x c.1 (λz=>E (by simp only[<-c.2,z,T])) f
   .intro x;constructor
    .rintro⟨c|rfl|rfl,g⟩
     .rw[l x c] at g;exact .inl ⟨c,g⟩
     .exact .inr rfl
     .rw[r] at g;exact absurd g.symm E
    .rintro(⟨c,g⟩|rfl)
     .exact⟨.inl c,by rw[l x c];exact g⟩
     .exact⟨.inr (.inl rfl),o⟩
  .by_cases L:O=w
   .subst L;refine((A.rg O).ins (d:=j) (m:=n+2) (B:=v) (on':=on') (e':=λi=>I (U i)) ⟨o2,T⟩ (λz=>(aQ (n+2) z.1).2 rfl) (by rw[G];exact o) (λx c=>s x c.1) b3 ?_ a8 a7 ?_).congr ?_ (λH H=>rfl) (λH H=>rfl)
    .exact ww
    .intro x c f;exact a0 x c.1 f (λz=>E (by simp only[<-ad.2,<-z,c.2]))
    .intro x;constructor
     .rintro⟨c|rfl|rfl,g⟩
      .rw[l x c] at g;exact .inl ⟨c,g⟩
      .rw[o] at g;exact absurd g E
      .exact .inr rfl
     .rintro(⟨c,g⟩|rfl)
      .exact⟨.inl c,by rw[l x c];exact g⟩
      .exact⟨.inr (.inr rfl),r⟩
   .refine(A.rg O).congr (λx=>⟨?_,λc=>⟨.inl c.1,by rw[l x c.1];exact c.2⟩⟩) (λx c=>a0 x c.1 (λz=>L (by simp only[<-c.2,z,T])) (λz=>J (by simp only[<-c.2,z,ad.2]))) (λx c=>s x c.1);rintro⟨c|rfl|rfl,g⟩
    .rw[l x c] at g;exact⟨c,g⟩
    .rw[o] at g;exact absurd g.symm J
    .rw[r] at g;exact absurd g.symm L
 .rintro x (c|rfl|rfl)
  .simp only[l x c];exact A.vt x c
  .simp only[o];exact b0
  .simp only[r];exact b1
 .rintro x z (c|rfl|rfl) hz
  .simp only[l x c,s x c];exact A.sg x z c hz
  .simp only[F,o,r];exact Y z hz
  .simp only[G,o,r];exactλf=>Y z hz f.symm
 .have a4:∀M S:Pt,¬cL M S M S:=λM S f=>by
   have R:=dI M S;have e':cr M S M=0:=by unfold cr;simp_all
   have:=f.1;simp only[R,e'] at this;unfold Sep at this;lia
  rintro x C (c|rfl|rfl) (D|rfl|rfl)
  .simp only[l x c,s x c,l C D,s C D];exact A.pl x C c D
  .simp only[l x c,s x c,F,o,r];exact Z x c
  .simp only[l x c,s x c,G,o,r];exactλf=>Z x c f.rZ
  .simp only[l C D,s C D,F,o,r];exactλf=>Z C D f.symm
  .simp only[F,o,r];exact a4 v w
  .simp only[F,G,o,r];exactλf=>a4 v w f.rZ
  .simp only[l C D,s C D,G,o,r];exactλf=>Z C D f.flip.symm
  .simp only[F,G,o,r];exactλf=>a4 v w f.flip
  .simp only[G,o,r];exact a4 w v
theorem Part.link(A:Part n on P al V)(Q:QE n on)(c:al i)(o2:al j)(f:P (U i)≠P j)(o:∀z∈V,¬dP (P (U i)) z (P j))
  (p:∀k,al k->P k=P (U i)->P (U k)≠P j)(q:∀k,al k->¬cL (P k) (P (U k)) (P (U i)) (P j))
  (r:aZ on (U i)=U i\/bM (P (U i)) (P (U (aZ on (U i)))) (P j) (P i))(s:on j=j\/bM (P j) (P (U j)) (P (U i)) (P (U (on j)))):
  Part (n+4) (bY.conn on n i j) (bu P n (P (U i)) (P j)) (λx=>al x\/x=n\/x=n+2) V:=by
 have g:=Q.n4;have o1:=A.op i c;have aQ:∀x,al x->x≠n/\x≠n+2:=λx a=>(dz 0x1052241149411464a048 0x4411000110441).2 (A.lt x a);have t:=Q.gq (A.lt _ o1);have d:al (aZ on (U i))/\P (aZ on (U i))=P (U i):=by have l:=A.bk _ o1;have:=A.dk l;rw[t] at this;exact⟨l,this.symm⟩
 have m:aZ on (U i)≠j:=by intro z;have:=d.2;rw[z] at this;exact f this.symm
 have e:∀x,x<n+4/\x%2=0->bY.conn on n i j x=(if x=n then U i else if x=n+2 then on j else if x=j then n+2 else if x=aZ on (U i) then n else on x):=
  λx a=>Al Q (A.lt _ c) (A.lt _ o2) (A.ev _ c) (A.ev _ o2) a.1 a.2 m
 have a:∀x,al x->bY.conn on n i j x=(if x=j then n+2 else if x=aZ on (U i) then n else on x):=λx a=>by rw[e x (afT (A.lt x a) (A.ev x a)),if_neg (aQ x a).1,if_neg (aQ x a).2]
 exact A.lnk Q (Q.conn (A.lt _ c) (A.lt _ o2) (A.ev _ c) (A.ev _ o2)) c o2 rfl rfl f o p q r s aQ (λx a=>by unfold bu;rw[if_neg (aQ x a).1,if_neg (aQ x a).2])
  (by unfold bu;rw[if_pos rfl]) (by unfold bu;rw[if_neg (oG),if_pos rfl]) d (by rw[e n (afU g),if_pos rfl]) (by rw[e _ (afV g),if_neg (oG),if_pos rfl])
  (by rw[a j o2,if_pos rfl]) (by rw[a _ d.1,if_neg m,if_pos rfl]) (λx h u v=>by rw[a x h,if_neg u,if_neg v])
theorem Part.conn(A:Part n on P al V)(Q:QE n on)(l:al a)(t:al d)(y:on a=d)(p:0<cr (P a) (P (U a)) (P (U d)))(h:dK (λz=>z∈V) (P a) (P (U a)) (P (U d)))
  (u:∀k,al k->P k=P (U a)->P (U k)≠P (U d)):
  Part (n+4) (bY.conn on n a (U d)) (bu P n (P (U a)) (P (U d))) (λx=>al x\/x=n\/x=n+2) V:=by
 have r:P d=P a:=by rw[<-y];exact A.dk l
 have o1:=A.op a l;have o2:=A.op d t;have B:=A.bk _ o1;have e:al (aZ on (U a))/\P (aZ on (U a))=P (U a):=by have:=A.dk B;rw[(Q.gq (A.lt _ o1))] at this;exact⟨B,this.symm⟩
 have m:0<cr (P (U a)) (P (U d)) (P a):=by have:=bW (P a) (P (U a)) (P (U d));exact vh p this
 have v:0<cr (P (U d)) (P a) (P (U a)):=by have:=bW (P (U a)) (P (U d)) (P a);exact vh m this
 have w:=Dl.nf h.bp m;have o:P (U a)≠P (U d):=by intro z;rw[z] at p;have:=dI (P a) (P (U d));exact o5 p this
 have s:∀k,al k->P k=P (U a)->Un (P (U a)) (P (U k)) (P (U d)):=by
  intro k f pk;have hk:=A.ne f;rw[pk] at hk;refine⟨hk,o,λz=>?_⟩;rcases sX hk o z with c|c|c
  .exact u k f pk c
  .exact w.1 _ (A.vo f) c
  .rw[<-pk] at c;exact A.sg k _ f (A.vo t) c
 have C:∀k,al k->P k=P (U d)->Un (P (U d)) (P (U k)) (P (U a)):=by
  intro k f pk;have hk:=A.ne f;rw[pk] at hk;refine⟨hk,o.symm,λz=>?_⟩;rcases sX hk o.symm z with c|c|c
  .exact u (U k) (A.op k f) c (by rw[cg];exact pk)
  .exact w.1 _ (A.vo f) c.symm
  .rw[<-pk] at c;exact A.sg k _ f (A.vo l) c
 refine A.link Q l o2 o w.1 u (λk f c=>acF A l t y p h f c.rZ) ?_ ?_
 .by_cases c:aZ on (U a)=U a
  .exact .inl c
  .right;have i:=A.un e.1 o1 e.2.symm c;rw[e.2,cg] at i;have j:=s (U a) o1 rfl;rw[cg] at j;rcases wW (s _ e.1 e.2) i j.symm with g|g
   .exact g
   .exfalso;exact LB A m h.bp e.1 o2 e.2 rfl (by rw[cg,r]) (jt (jY i (s _ e.1 e.2) j g) m).1 (jt (jY i (s _ e.1 e.2) j g) m).2
 .by_cases c:on (U d)=U d
  .exact .inl c
  .right;have i:=A.un o2 (A.jI o2) (A.dk o2) (λz=>c z.symm);rw[cg,r] at i;have j:=C (U d) o2 rfl;rw[cg,r] at j;rw[cg,r];rcases wW j i (C _ (A.jI o2) (A.dk o2)).symm with g|g
   .exact g
   .exfalso;exact LB A v h.bp.bp (A.jI o2) l (A.dk o2) rfl rfl (jt g v).1 (jt g v).2
theorem MV(A:Part n on P al V)(f:iW P al V)(h:al i):Dl (λz=>z∈V) (P i) (P (U i)):=by
 by_cases e:∃z∈V,0<cr (P i) (P (U i)) z
 .obtain⟨z,a,g⟩:=e;obtain⟨o,k,_,_,_,_,_,b,em⟩:=f.cZ i z h a g;exact Dl.nf em b
 .exact⟨λz a=>A.sg i z h a,λz l a b m p=>absurd ⟨l,b,m⟩ e⟩
structure Md where
 n0:Nat
 dS:Nat->Nat
 P0:Nat->Pt
 aL:Nat->Prop
 aR:Nat->Prop
 VL:List Pt
 VR:List Pt
 A:Int
 B:Int
 C:Int
namespace Md
noncomputable def f(D:Md)(z:Pt):Int:=D.A*z.1+D.B*z.2+D.C
noncomputable def g(D:Md)(z:Pt):Int:=D.A*z.2-D.B*z.1
noncomputable abbrev V(D:Md):List Pt:=D.VL++D.VR
def aQ(D:Md)(a b l r:Pt):Prop:=(D.g a*D.f b-D.g b*D.f a)*(D.f r-D.f l)<(D.g l*D.f r-D.g r*D.f l)*(D.f b-D.f a)
structure Ok(D:Md):Prop where
 qe:QE D.n0 D.dS
 pL:Part D.n0 D.dS D.P0 D.aL D.VL
 tL:iW D.P0 D.aL D.VL
 pR:Part D.n0 D.dS D.P0 D.aR D.VR
 tR:iW D.P0 D.aR D.VR
 sL:∀z∈D.VL,D.f z<0
 sR:∀z∈D.VR,0<D.f z
 nz:0<D.A*D.A+D.B*D.B
 fi:∀z w,z∈D.V->w∈D.V->D.f z=D.f w->z=w
theorem hl(D:Md)(l r a:Pt):(D.g l*D.f a-D.g a*D.f l)*(D.f r-D.f l)-(D.g l*D.f r-D.g r*D.f l)*(D.f a-D.f l)=(-D.f l)*((D.A*D.A+D.B*D.B)*cr l r a):=by unfold f g cr;grind
theorem hr(D:Md)(l a r:Pt):(D.g a*D.f r-D.g r*D.f a)*(D.f r-D.f l)-(D.g l*D.f r-D.g r*D.f l)*(D.f r-D.f a)=D.f r*((D.A*D.A+D.B*D.B)*cr l r a):=by unfold f g cr;grind
theorem Ok.Of{D:Md}{l r a:Pt}(b:D.Ok)(hl:l∈D.VL):D.aQ l a l r↔cr l r a<0:=by
 have c:=Md.hl D l r a;have d:=b.sL l hl;unfold aQ;constructor
 .intro h;have g:0<(-D.f l)*((D.A*D.A+D.B*D.B)*(-cr l r a)):=by rw[iP,iP];exact QP c h
  have:=dD (dD g (o3 d)) b.nz;exact sQ this
 .intro h;have:=bP (o3 d) (bP b.nz (o3 h));rw[iP,iP] at this;exact QQ c this
theorem Ok.Og{D:Md}{l a r:Pt}(b:D.Ok)(hr:r∈D.VR):D.aQ a r l r↔cr l r a<0:=by
 have c:=Md.hr D l a r;have d:=b.sR r hr;unfold aQ;constructor
 .intro h;have g:0<D.f r*((D.A*D.A+D.B*D.B)*(-cr l r a)):=by rw[iP,iP];exact QP c h
  have:=dD (dD g (oJ d)) b.nz;exact sQ this
 .intro h;have:=bP d (bP b.nz (o3 h));rw[iP,iP] at this;exact QQ c this
theorem Ok.AN{D:Md}{a b c d e h:Pt}(i:D.Ok)(j:a∈D.VL)(k:b∈D.VR)(l:c∈D.VL)(m:d∈D.VR)(n:e∈D.VL)(o:h∈D.VR)(p:D.aQ a b c d)(q:D.aQ c d e h):D.aQ a b e h:=by
 have r:=i.sL _ j;have s:=i.sL _ l;have t:=i.sL _ n;have u:=i.sR _ k;have v:=i.sR _ m;have w:=i.sR _ o;unfold aQ at*;generalize D.g a*D.f b-D.g b*D.f a=x at*;generalize D.g c*D.f d-D.g d*D.f c=G at*;generalize D.g e*D.f h-D.g h*D.f e=y at*;have z:0<D.f b-D.f a:=Hd r u;have A:0<D.f d-D.f c:=Hd s v;have B:0<D.f h-D.f e:=Hd t w;generalize D.f b-D.f a=C at*;generalize D.f d-D.f c=E at*;generalize D.f h-D.f e=F at*;have H:=CS p B;have I:=CS q z;have:0<E*(y*C-x*F):=by grind
 have:=dD this A;exact GH this
theorem Ok.Fy{D:Md}{l r:Pt}(a:D.Ok):¬D.aQ l r l r:=by unfold aQ;exact ahs
theorem Ok.fQ{D:Md}{z:Pt}(a:D.Ok)(h:z∈D.VL)(h':z∈D.VR):False:=by have:=a.sL z h;have:=a.sR z h';exact xQ ‹_› this
theorem fh{D:Md}{z:Pt}(h:z∈D.VL):z∈D.V:=iT _ h
theorem inR{D:Md}{z:Pt}(h:z∈D.VR):z∈D.V:=lC _ h
end Md
structure Mg(D:Md)(n:Nat)(on:Nat->Nat)(P:Nat->Pt)(al:Nat->Prop)(b:Nat):Prop where
 part:Part n on P al D.V
 qe:QE n on
 n0:D.n0<=n
 p0:∀i<D.n0,P i=D.P0 i
 old:∀i,al i->i<D.n0->D.aL i\/D.aR i
 kp:∀i,(D.aL i\/D.aR i)->Dl (λz=>z∈D.V) (P i) (P (U i))->al i
 new:∀i,al i->D.n0<=i->∃l r,l∈D.VL/\r∈D.VR/\((P i=l/\P (U i)=r)\/(P i=r/\P (U i)=l))/\(i=b\/i=U b\/D.aQ l r (P (U b)) (P b))
 fb:al D.n0
 lM:al b
 bn:D.n0<=b
 bR:P b∈D.VR
 bL:P (U b)∈D.VL
 bD:Dl (λz=>z∈D.V) (P (U b)) (P b)
 cd:∀i,al i->D.n0<=i->Dl (λz=>z∈D.V) (P i) (P (U i))
 m2:∀p q,p∈D.VL->q∈D.VR->Dl (λz=>z∈D.V) p q->¬D.aQ (P (U b)) (P b) p q->(Ln P al (p) q)\/∃i,al i/\Dl (λz=>z∈D.V) (P i) (P (U i))/\cL (P i) (P (U i)) p q
 fr:∀x<D.n0,x%2=0->¬D.aL x->¬D.aR x->on x=D.dS x
theorem Mg.qL(M:Mg D n on P al b)(a:D.Ok)(h:i<D.n0):U i<D.n0:=a.qe.bK h
theorem Mg.sF{D:Md}{n:Nat}{on:Nat->Nat}{P:Nat->Pt}{al:Nat->Prop}{b i:Nat}(M:Mg D n on P al b)(d:D.Ok)(j:al i)(e:P i=P (U b))(h:0<cr (P (U b)) (P b) (P (U i))):i<D.n0/\D.aL i/\P (U i)∈D.VL:=by
 by_cases f:i<D.n0
 .rcases M.old i j f with a|a
  .exact⟨f,a,by simp only[M.p0 _ (M.qL d f)];exact d.pL.vo a⟩
  .exfalso;have:=d.pR.vt i a;simp only[<-M.p0 i f,e] at this;exact d.fQ M.bL this
 .exfalso;obtain⟨m,r,hl,hr,h1,h2⟩:=M.new i j (qJ f);rcases h1 with⟨g,k⟩|⟨g,k⟩
  .rcases h2 with a|a|a
   .rw[a] at e;exact d.fQ M.bL (e▸M.bR)
   .simp only[a,cg] at h;have:=dI (P (U b)) (P b);exact o5 h this
   .simp only[<-g,<-k,e] at a;have:=(d.Of M.bL).mp a;exact xP h this
  .exact d.fQ M.bL (by simp only[<-e,g];exact hr)
theorem Mg.uV{D:Md}{n:Nat}{on:Nat->Nat}{P:Nat->Pt}{al:Nat->Prop}{b i:Nat}(M:Mg D n on P al b)(d:D.Ok)(j:al i)(e:P i=P b)(h:0<cr (P (U b)) (P b) (P (U i))):i<D.n0/\D.aR i/\P (U i)∈D.VR:=by
 by_cases f:i<D.n0
 .rcases M.old i j f with a|a
  .exfalso;have:=d.pL.vt i a;simp only[<-M.p0 i f,e] at this;exact d.fQ this M.bR
  .exact⟨f,a,by simp only[M.p0 _ (M.qL d f)];exact d.pR.vo a⟩
 .exfalso;obtain⟨m,r,hl,hr,h1,h2⟩:=M.new i j (qJ f);rcases h1 with⟨g,k⟩|⟨g,k⟩
  .exact d.fQ (by simp only[<-e,g];exact hl) M.bR
  .rcases h2 with a|a|a
   .rw[a] at h;have:cr (P (U b)) (P b) (P (U b))=0:=by unfold cr;grind
    exact o5 h this
   .rw[a] at e;exact d.fQ M.bL (e▸M.bR)
   .simp only[<-g,<-k,e] at a;have:=(d.Og M.bR).mp a;exact xP h this
theorem Mg.del(M:Mg D n on P al b)(C:D.Ok)(a:al i)(r:i<D.n0)(h:¬Dl (λz=>z∈D.V) (P i) (P (U i))):Mg D n (bY.del on i) P (λx=>al x/\x≠i/\x≠U i) b:=by
 have t:=M.qL C r;have e:¬Dl (λz=>z∈D.V) (P (U i)) (P (U (U i))):=by rw[cg];exactλf=>h f.symm
 refine{M with part:=M.part.del M.qe a,qe:=M.qe.del (M.part.lt i a) (M.part.ev i a),old:=λx c=>M.old x c.1,kp:=λx c k=>⟨M.kp x c k,λz=>?_,λz=>?_⟩,new:=λx c=>M.new x c.1,cd:=λx c=>M.cd x c.1,m2:=λE f F G k H=>?_,fb:=⟨M.fb,λz=>by exact QR r z,λz=>by exact QR t z⟩,lM:=⟨M.lM,λz=>?_,λz=>?_⟩,fr:=λx c u v w=>?_}
 .subst z;exact h k
 .subst z;exact e k
 .have:=M.bn;exact QS r z this
 .have:=M.bn;exact QS t z this
 .have y:∀d,Dl (λz=>z∈D.V) (P d) (P (U d))->d≠i/\d≠U i:=λd A=>⟨λz=>h (z▸A),λz=>e (z▸A)⟩;rcases M.m2 E f F G k H with⟨d,l,g,m⟩|⟨d,l,g,m⟩
  .have:=y d (by simp only[g,m];exact k);exact .inl ⟨d,⟨l,this⟩,g,m⟩
  .exact .inr ⟨d,⟨l,y d g⟩,g,m⟩
 .have B:=M.part.ne a;have e:=M.part.op i a;have l:on i≠U i:=λz=>B (by have:=M.part.dk a;rw[z] at this;exact this.symm);have g:on (U i)≠i:=λz=>B (by have:=M.part.dk e;rw[z] at this;exact this);have o:¬al x:=λI=>by rcases M.old x I c with f|f;exact v f;exact w f
  have s:=fj c M.n0;have J:x≠U i:=λz=>o (z▸e);have L:x≠i:=λz=>o (z▸a);have N:on x≠i:=λz=>o (((M.qe.gF (M.part.lt i a) s).mpr z)▸(M.part.bk i a));have Q:on x≠U i:=λz=>o (((M.qe.gF (M.part.lt _ e) s).mpr z)▸(M.part.bk _ e));rw[Am M.qe (M.part.lt i a) (M.part.ev i a) s u l g,if_neg J,if_neg L,if_neg N,if_neg Q,M.fr x c u v w]
open Classical in
noncomputable def cnt:Nat->(Nat->Prop)->Nat
 |0,_=>0
 |a+1,b=>cnt a b+if b a then 1 else 0
theorem MB(h:∀i,p i->q i):∀n,cnt n p<=cnt n q
 |0=>bT _
 |n+1=>by
  unfold cnt;have:=MB h n;by_cases a:p n
  .rw[if_pos a,if_pos (h n a)];exact RD this
  .rw[if_neg a];exact zJ this
theorem wZ(h:∀i,p i->q i)(d:q i)(e:¬p i):∀n,i<n->cnt n p<cnt n q
 |0,b=>absurd b (fT _)
 |n+1,b=>by
  dsimp only[cnt];by_cases a:i=n
  .subst a;rw[if_pos d,if_neg e];have:=MB h i;exact Gs this
  .have:=wZ h d e n (o9 b a);by_cases a:p n
   .rw[if_pos a,if_pos (h n a)];exact Bw this
   .rw[if_neg a];exact Gu this
theorem gC(a b x:Pt):cr b a x=-cr a b x:=by unfold cr;grind
theorem Ga:oD P b on x=af↔0<ic (P (U (on x))) (P (U b)) (P b) (P (U x))/\0<cr (P (U b)) (P b) (P (U (on x))):=by
 unfold oD;rw[vV,decide_eq_true_iff,decide_eq_true_iff,FF,ka,gC];constructor
 .rintro⟨a,h2⟩;exact⟨a,RE h2⟩
 .rintro⟨a,h2⟩;exact⟨a,qI h2⟩
theorem Hy:oQ P b on x=af↔0<ic (P (U (aZ on x))) (P (U b)) (P b) (P (U x))/\0<cr (P (U b)) (P b) (P (U (aZ on x))):=by
 unfold oQ;rw[vV,decide_eq_true_iff,decide_eq_true_iff,FF,ka,gC];constructor
 .rintro⟨a,h2⟩;exact⟨a,RE h2⟩
 .rintro⟨a,h2⟩;exact⟨a,qI h2⟩
theorem ad7(l r n:Pt):ic l l r n=0:=by unfold ic;grind
theorem ad8(l r n:Pt):ic r l r n=0:=by unfold ic;grind
theorem FE(l r n:Pt):ic n l r n=0:=by unfold ic;grind
theorem better(a:0<cr l r c)(b:0<cr l r m)(h:0<cr l r n)(d:ic m l r c=0)(e:ic n l r c<0):0<ic m l r n:=by
 have f:=eN m l r n;have i:=bP (ah1 e (eN n l r c)) b;have j:(dt c l r*cr l r m-dt m l r*cr l r c)*cr l r n=0:=by simp only[<-(eN m l r c),d];simp
 have g:0<cr l r c*(dt n l r*cr l r m-dt m l r*cr l r n):=by lia
 have:=dD g a;exact f▸this
theorem dK.to(h:dK V l r c)(b:0<cr l r c)(d:0<cr l r m)(e:ic m l r c=0):dK V l r m:=by
 intro a f;have i:=dF (sO (h a f) (eN a l r c)) (cn d);have j:(dt c l r*cr l r m-dt m l r*cr l r c)*cr l r a=0:=by simp only[<-(eN m l r c),e];simp
 have g:0<=cr l r c*(dt a l r*cr l r m-dt m l r*cr l r a):=by lia
 have:=uW g b;exact GL (eN a l r m) this
theorem ad4(a b l r:Pt):ic a l r b=-ic b l r a:=by unfold ic;grind
theorem dK.mono(h:dK V a b c)(d:∀z,e z->V z):dK e a b c:=λz f=>h z (d z f)
noncomputable def mi(z:Pt):Pt:=(-z.1,z.2)
theorem iq(z:Pt):mi (mi z)=z:=by unfold mi;simp
theorem xJ(h:mi a=mi b):a=b:=by rw[<-iq a,h,iq]
theorem ja(p a b:Pt):cr (mi p) (mi a) (mi b)=-cr p a b:=by unfold cr mi;grind
theorem MQ(p a b:Pt):dt (mi p) (mi a) (mi b)=dt p a b:=by unfold dt mi;grind
theorem FC(z a b c:Pt):ic (mi z) (mi a) (mi b) (mi c)=-ic z a b c:=by delta ic mi;grind
theorem abN(h:bM p a c b):bM (mi p) (mi a) (mi b) (mi c):=by
 unfold bM at*;rw[ja,ja,ja,Eh,Eh];rw[bO p b c] at h;have d:=My (cr p a b);rcases h with h|⟨h,e⟩
 .exact .inl (aaA (fj h d) h)
 .exact .inr ⟨by rw[h],e⟩
theorem Un.mi(h:Un p a b):Un (mi p) (mi a) (mi b):=
 ⟨λc=>h.ha (xJ c),λc=>h.hb (xJ c),λc=>h.hr ⟨by have:=c.1;rw[ja] at this;exact kD (CT.mp this.symm),by have:=c.2;rw[MQ] at this;exact this⟩⟩
theorem dP.mi:dP (mi a) (mi z) (mi b)↔dP a z b:=by unfold dP;rw[ja,MQ];exact(cV 0x523005053002918028014c9 0x421080010048000441084200042108001184200040118421).2
theorem cL.mi(h:cL (mi a) (mi b) (mi c) (mi d)):cL a b c d:=by unfold cL Sep at*;rw[ja,ja,ja,ja] at h;exact(gj 0x2c011802a1980158d4008cc74802300503300291a001198e6580011802a00cc00ac0350001198e9000230050019801480680002331cc8 0x1084200002008c01000230840000401280210002008800088210800008c2100001004a008420004210800008023004000802400024084200800100440004410840000401200012042100421).2 h
theorem qC{V:List Pt}{z:Pt}:z∈V.map mi↔mi z∈V:=by
 rw[dc];constructor
 .rintro⟨a,h,rfl⟩;rw[iq];exact h
 .intro h;exact⟨mi z,h,iq z⟩
theorem Rg.mi(R:Rg S on p e)(m:∀i,S i->S (aZ on i)/\on (aZ on i)=i):Rg S (aZ on) (mi p) (λi=>mi (e i)):=by
 refine⟨λi a f=>R.ne i a (xJ f),λi g a c h=>(R.un i g a c h).mi,λi a=>(m i a).1,λi g a c l n=>?_⟩;have d:=m i a;have o:aZ on i≠i:=λf=>by have:=d.2;rw[f] at this;exact R.ko a c l this
 refine⟨o,abN ?_⟩;have q:=(R.nx _ g d.1 c n (by rw[d.2];exact l)).2;rw[d.2] at q;exact pY (R.un _ _ d.1 a o) (R.un _ _ d.1 c n.symm) (R.un _ _ a c l.symm) q
theorem Part.mi{n:Nat}{on:Nat->Nat}{P:Nat->Pt}{al:Nat->Prop}{V:List Pt}(A:Part n on P al V)(Q:QE n on):Part n (aZ on) (λi=>mi (P i)) al (V.map mi):=by
 refine⟨A.lt,A.ev,A.op,λi a=>?_,λg=>?_,λi a=>?_,λi k a l=>?_,λi m a o h=>A.pl i m a o h.mi⟩
 .have q:aZ (aZ on) i=U (on (U i)):=by show bp (bp (on (bp (bp i))))=_;rw[yd,yd]
  exact q▸A.op _ (A.jI (A.op i a))
 .have d:=(A.rg (bY.mi g)).mi λi a=>by have f:=A.bk i a.1;have:=A.dk f;rw[(Q.gq (A.lt i a.1))] at this;exact⟨⟨f,this.symm.trans a.2⟩,(Q.gq (A.lt i a.1))⟩
  simp only[iq] at d;exact d.congr (λi=>⟨λh=>⟨h.1,by simp only[<-h.2,iq]⟩,λh=>⟨h.1,by simp only[h.2,iq]⟩⟩) (λc c=>rfl) (λc c=>rfl)
 .exact mI (A.vt i a)
 .have:=A.sg i (bY.mi k) a (qC.mp l);rw[<-dP.mi,iq] at this;exact this
theorem iW.mi{P:Nat->Pt}{al:Nat->Prop}{V:List Pt}(g:iW P al V)(s:∀i,al i->al (U i)):iW (λi=>mi (P i)) al (V.map mi):=by
 refine⟨λO w=>?_,λi c A d t=>?_,λh l B C D f m=>?_⟩
 .obtain⟨i,f,m⟩:=g.vx _ (qC.mp w);exact⟨i,f,by rw[m,iq]⟩
 .rw[<-iq c,ja] at t;obtain⟨n,k,E,F,G,u,o,hd,em⟩:=g.cZ (U i) (bY.mi c) (s i A) (qC.mp d) (by rw[cg];exact(gC (P i) (P (U i)) (bY.mi c))▸t);rw[cg] at u hd em;refine⟨k,n,F,E,by rw[u],by rw[G],by rw[o],?_,λr H=>?_⟩
  .rw[ja,o];have:=gC (P i) (P (U i)) (P (U n));exact this▸hd
  .have f:=em (bY.mi r) (qC.mp H);rw[<-iq r,FC,o];have:=uN (bY.mi r) (P i) (P (U i)) (P (U n));exact this▸f
 .have I:=λx=>gC (bY.mi h) (bY.mi l) x;obtain⟨i,J,L,M⟩:=g.Fz (bY.mi l) (bY.mi h) (qC.mp C) (qC.mp B) (λc=>D (xJ c.symm)) (λc d=>by
    have:=f (bY.mi c) (mI d);have v:=ja (bY.mi h) (bY.mi l) c;rw[iq,iq] at v;have:=I c;exact this▸v▸‹_›) (λc d N=>by
    have:=m (bY.mi c) (mI d);refine this ?_;rw[<-dP.mi,iq];exact N.symm)
  exact⟨U i,s i J,by rw[M,iq],by rw[cg,L,iq]⟩
theorem akk{n:Nat}{on:Nat->Nat}{P:Nat->Pt}{al:Nat->Prop}{V:List Pt}{l r c:Pt}(A:Part n on P al V)(d:iW P al V)(Q:QE n on)(hr:r∈V)(e:c∈V)(f:0<cr l r c)(h:dK (λz=>z∈V) l r c):
  Sr P al (r) l r c:=by
 obtain⟨g,h1,h2,a,b⟩:=star (A.mi Q) (d.mi A.op) (l:=mi r) (r:=mi l) (c:=mi c) (mI hr) (mI e) (by rw[ja,gC];exact(ip 0x20000046800468 0x8022).2 f) (λz j=>by rw[<-iq z,FC,uN];exact(ip 0x28000200a028 0x8421).2 (h (mi z) (qC.mp j)));rw[ja,gC] at a;rw[FC,uN] at b;exact⟨g,h1,xJ h2,(ip 0x20011a00000468 0x8022).2 a,(ip 0x2828028000a8 0x4210800100461).2 b⟩
theorem ajZ(d:0<cr l r c)(a:0<cr r n c)(e:0<cr r s n)(f:0<cr r s c)(hs:0<ic s l r c)(h:Dl V r n)(i:V c)(vs:V s):0<ic n l r c:=by
 have g:=Fq r c l n s;have j:ic s r c n=-ic s r n c:=by unfold ic;grind
 have k:ic s r c l=ic s l r c:=by unfold ic;grind
 have m:ic n r c l=ic n l r c:=by unfold ic;grind
 have o:=bW l r c;simp only[j,k,m,o,bO r n c,bO r s c] at g;have b:=dF (cn d) (o8 (h.2 s c vs i a (by have:=bO r s n;exact vg e this)));simp only[wc,iP] at g b;have p:0<cr r s c*ic n l r c:=(dJ 0x20011a800085000a009028031150900468 0x2308401004c008023).2 (bP a hs) g b;exact dD p f
theorem Mg.Ww(M:Mg D n on P al b)(d:D.Ok)(k:c∈D.VL)(g:0<cr (P (U b)) (P b) c)(h:dK (λz=>z∈D.V) (P (U b)) (P b) c):
  Sr P al (P (U b)) (P (U b)) (P b) c:=by
 obtain⟨a,a1,e1,e,f⟩:=star d.pL d.tL M.bL k g (h.mono λz l=>Md.fh l);have j:=d.pL.lt a a1;rw[<-M.p0 a j] at e1;rw[<-M.p0 _ (M.qL d j)] at e f;refine⟨a,M.kp a (.inl a1) ?_,e1,e,f⟩;exact e1▸(Dl.nf ((h.to g e f).bp.bp) (by have:=bW (P (U b)) (P b) (P (U a));have:=bW (P (U a)) (P (U b)) (P b);have:=bW (P b) (P (U a)) (P (U b));exact ah2 e ‹_›)).symm
theorem Mg.Wx(M:Mg D n on P al b)(a:D.Ok)(k:c∈D.VR)(g:0<cr (P (U b)) (P b) c)(h:dK (λz=>z∈D.V) (P (U b)) (P b) c):
  Sr P al (P b) (P (U b)) (P b) c:=by
 obtain⟨d,a1,e1,e,f⟩:=akk a.pR a.tR a.qe M.bR k g (h.mono λz l=>Md.inR l);have j:=a.pR.lt d a1;rw[<-M.p0 d j] at e1;rw[<-M.p0 _ (M.qL a j)] at e f;refine⟨d,M.kp d (.inr a1) ?_,e1,e,f⟩;exact e1▸Dl.nf ((h.to g e f).bp) (by have:=bW (P (U b)) (P b) (P (U d));exact vh e this)
inductive Zo(D:Md)(n:Nat)(P:Nat->Pt)(b:Nat)(on:Nat->Nat)(x:Nat):Prop
 |mk (f:Nat) (d:Nat->Nat) (g:Nat->Prop) (a:Nat) (e:kj P b f on x=W (d,a)) (M:Mg D n d P g b) (ax:g a) (hx:d (U b)=a) (i:0<cr (P (U b)) (P b) (P (U a)))
  (k:∀c∈D.VL,0<cr (P (U b)) (P b) c->dK (λh=>h∈D.V) (P (U b)) (P b) c->ic (P (U a)) (P (U b)) (P b) c=0)
inductive aaY(D:Md)(n:Nat)(P:Nat->Pt)(b:Nat)(on:Nat->Nat)(al:Nat->Prop)(x:Nat):Prop
 |mk (f:Nat) (g:Nat->Nat) (h:Nat->Prop) (a:Nat) (e:ku P b f on x=W (g,a)) (M:Mg D n g P h b) (ax:h a) (hx:g a=b) (l:0<cr (P (U b)) (P b) (P (U a)))
  (k:∀c∈D.VR,0<cr (P (U b)) (P b) c->dK (λj=>j∈D.V) (P (U b)) (P b) c->ic (P (U a)) (P (U b)) (P b) c=0) (kp:∀d,al d->P d∈D.VL->h d/\g d=on d)
theorem afl(j:D.Ok):∀k on al x,cnt n al<=k->Mg D n on P al b->al x->on (U b)=x->0<cr (P (U b)) (P b) (P (U x))->
  Zo D n P b on x:=by
 intro k;induction k with
 |zero=>intro on al x hk a d;have:=wZ (p:=λL=>False) (q:=al) (λL h=>h.elim) d (λh=>h) n (a.part.lt x d);exact(Gv hk this).elim
 |succ k ih=>
  intro on al x hk a d o l;have t:=a.part.op b a.lM;have m:P x=P (U b):=by rw[<-o];exact a.part.dk t
  have a3:x≠U b:=by rintro rfl;rw[cg] at l;have:=dI (P (U b)) (P b);exact o5 l this
  have r:=a.part.jI d;have s:=(a.part.dk d).trans m;have N:P (U (U b))=P b:=by rw[cg]
  by_cases st:oD P b on x=af
  .have u:=Ga.mp st;have n1:on x≠U b:=by intro g;rw[g,cg,ad8] at u;omega
   have Q:on x≠x:=by intro g;rw[g,FE] at u;omega
   have v:=(a.part.nx t r s n1 (by simp only[o];exact Q)).2;rw[o,N] at v;have R:=afB (V:=λg=>g∈D.V) (Md.inR a.bR) (a.part.vo r) ((jt v u.2).2) l u.1;rw[<-m] at R;have E:=a.part.ne d;have S:al (on x)/\on x≠x/\on x≠U x:=⟨r,Q,λg=>E (by simp only[<-g,s,m])⟩;have q1:=S.2.2;have q2:on (U x)≠x:=λg=>E (by have:=a.part.dk (a.part.op x d);rw[g] at this;exact this);have a4:bY.del on x (U b)=on x:=by rw[Am a.qe (a.part.lt x d) (a.part.ev x d) (a.part.lt _ t) (a.part.ev _ t) q1 q2,if_neg (λg=>E (by simp only[<-g,m])),if_neg (λg=>a3 g.symm),if_pos o]
   obtain⟨f,a5,a6,x',h1,h2,h3,h4,h5,h6⟩:=ih (bY.del on x) _ (on x) (Gw hk (wZ (p:=λF=>al F/\F≠x/\F≠U x) (q:=al) (λL h=>h.1) d (λh=>h.2.1 rfl) n (a.part.lt x d))) (a.del j d (a.sF j d m l).1 R) S a4 u.2;refine⟨f+1,a5,a6,x',?_,h2,h3,h4,h5,h6⟩;show(if oD P b on x then kj P b f (bY.del on x) (on x) else W (on,x))=_;rw[if_pos st];exact h1
  .refine⟨1,on,al,x,?_,a,d,o,l,λc hc T Y=>?_⟩
   .show(if oD P b on x then kj P b 0 (bY.del on x) (on x) else W (on,x))=_;rw[if_neg st]
   .have le:=Y _ (a.part.vo d);by_cases g:ic (P (U x)) (P (U b)) (P b) c=0
    .exact g
    .exfalso;obtain⟨A,G,H,di,ii⟩:=a.Ww j hc T Y;have I:=better T di l ii (RF le g);have Z:A≠x:=by rintro rfl;exact RG ii g
     have i2:A≠U b:=by rintro rfl;rw[cg] at di;have:=dI (P (U b)) (P b);exact o5 di this
     have v:=(a.part.nx t G H i2 (o▸Z)).2;rw[o,N] at v;have J:=(jt v di).2;by_cases i3:A=on x
     .rw[i3] at I di;exact st (Ga.mpr ⟨I,di⟩)
     .have a0:=(a.part.nx d G (H.trans m.symm) Z i3).2;rw[m] at a0;have B:=jt a0 J;have C:0<cr (P (U b)) (P b) (P (U (on x))):=by
       have p3:0<cr (P (U b)) (P (U x)) (P (U A))*cr (P (U b)) (P b) (P (U (on x))):=by rw[gN];exact Gr (xu (P (U b)) (P b) (P (U x)) (P (U (on x))) (P (U A))) (bP l B.2) (bP di B.1)
       exact dD p3 J
      have e:=MV j.pL j.tL (a.sF j r s C).2.1;simp only[<-a.p0 _ (a.sF j r s C).1,<-a.p0 _ (a.qL j (a.sF j r s C).1),s] at e;have:=ajY l B.1 B.2 J I e (a.sF j d m l).2.2 (a.sF j G H di).2.2;exact st (Ga.mpr ⟨this,C⟩)
theorem ajT(m:D.Ok):∀k on al x,cnt n al<=k->Mg D n on P al b->al x->on x=b->0<cr (P (U b)) (P b) (P (U x))->
  aaY D n P b on al x:=by
 intro k;induction k with
 |zero=>intro on al x hk a g;have:=wZ (p:=λZ=>False) (q:=al) (λZ h=>h.elim) g (λh=>h) n (a.part.lt x g);exact(Gv hk this).elim
 |succ k ih=>
  intro on al x hk a g F G;have o:P x=P b:=by rw[<-F];exact(a.part.dk g).symm
  have a4:x≠b:=by
   rintro rfl;have:cr (P (U x)) (P x) (P (U x))=0:=by unfold cr;grind
   exact o5 G this
  have r:=a.part.bk x g;have t:=a.qe.gq (a.part.lt x g);generalize L:aZ on x=j at r t;have s:P j=P b:=by have:=a.part.dk r;rw[t] at this;exact this.symm.trans o
  have N:=a.uV m g o G;have Q:∀d,cr (P b) d (P (U b))=cr (P (U b)) (P b) d:=λd=>bW (P (U b)) (P b) d;by_cases st:oQ P b on x=af
  .have H:=Hy.mp st;rw[L] at H;have n1:j≠b:=by intro d;rw[d,ad7] at H;omega
   have R:j≠x:=by intro d;rw[d,FE] at H;omega
   have J:=(a.part.nx r a.lM s.symm n1.symm (t▸a4.symm)).2;rw[t,s] at J;have a5:=afC (V:=λd=>d∈D.V) (Md.fh a.bL) (a.part.vo r) ((jt J (by rw[Q];exact H.2)).1) G H.1;rw[<-o] at a5;have a0:=a.part.ne g;have a':al j/\j≠x/\j≠U x:=⟨r,R,λd=>a0 (by simp only[<-d,s,o])⟩;have q1:on x≠U x:=λd=>a0 (by simp only[<-d,F,o]);have q2:on (U x)≠x:=λd=>a0 (by have:=a.part.dk (a.part.op x g);rw[d] at this;exact this);have hd:=λv hv=>Am a.qe (a.part.lt x g) (a.part.ev x g) (a.part.lt v hv) (a.part.ev v hv) q1 q2;have b1:bY.del on x j=b:=by rw[hd j r,if_neg a'.2.2,if_neg R,if_pos t,F]
   obtain⟨f,b2,b3,x',h1,h2,h3,h4,h5,h6,h7⟩:=ih (bY.del on x) _ j (Gw hk (wZ (p:=λj=>al j/\j≠x/\j≠U x) (q:=al) (λZ h=>h.1) g (λh=>h.2.1 rfl) n (a.part.lt x g))) (a.del m g N.1 a5) a' b1 H.2;refine⟨f+1,b2,b3,x',?_,h2,h3,h4,h5,h6,λl A B=>?_⟩
   .show(if oQ P b on x then ku P b f (bY.del on x) (aZ on x) else W (on,x))=_;rw[if_pos st,L];exact h1
   .have u:l≠x:=λd=>m.fQ B (by simp only[d,o];exact a.bR);have I:l≠U x:=λd=>m.fQ B (d▸N.2.2);refine⟨(h7 l ⟨A,u,I⟩ B).1,(h7 l ⟨A,u,I⟩ B).2.trans ?_⟩;rw[hd l A,if_neg I,if_neg u,if_neg,if_neg]
    .intro d;have:=a.part.dk A;rw[d] at this;exact m.fQ (by rw[this];exact B) N.2.2
    .intro d;have:=a.part.dk A;rw[d] at this;exact m.fQ (by rw[<-this] at B;exact B) (by simp only[o];exact a.bR)
  .refine⟨1,on,al,x,?_,a,g,F,G,λc hc a6 em=>?_,λl A Z=>⟨A,rfl⟩⟩
   .show(if oQ P b on x then ku P b 0 (bY.del on x) (aZ on x) else W (on,x))=_;rw[if_neg st]
   .have le:=em _ (a.part.vo g);by_cases d:ic (P (U x)) (P (U b)) (P b) c=0
    .exact d
    .exfalso;obtain⟨l,C,E,di,ii⟩:=a.Wx m hc a6 em;have bt:=better a6 di G ii (RF le d);have u:l≠x:=by rintro rfl;exact RG ii d
     have I:l≠b:=by
      rintro rfl;have:cr (P (U l)) (P l) (P (U l))=0:=by unfold cr;grind
      exact o5 di this
     have J:=(a.part.nx g C (E.trans o.symm) u (F▸I)).2;have a7:=a.part.un g a.lM o.symm a4;have a3:=a.part.un g C (E.trans o.symm) u.symm;rw[F,o] at J;rw[o] at a7 a3;have S:=jt (jY a7 a3 (a.part.un a.lM C E I.symm) J) (by rw[Q];exact di);by_cases i3:l=j
     .rw[i3] at bt di;exact st (Hy.mpr (by rw[L];exact⟨bt,di⟩))
     .have R:j≠x:=by intro d;rw[d] at t;exact a.part.ko g C (E.trans o.symm) u t
      have a8:=(a.part.nx r C (E.trans s.symm) i3 (t▸u)).2;have a9:=a.part.un r g (o.trans s.symm) R;have b0:=a.part.un r C (E.trans s.symm) (λd=>i3 d.symm);rw[t,s] at a8;rw[s] at a9 b0;have T:=jt (jY a9 b0 a3 a8) S.1;have Y:0<cr (P (U b)) (P b) (P (U j)):=by have p3:0<cr (P b) (P (U l)) (P (U x))*cr (P b) (P (U j)) (P (U b)):=Gr (xu (P b) (P (U l)) (P (U j)) (P (U x)) (P (U b))) (bP T.1 S.2) (bP (show 0<cr (P b) (P (U l)) (P (U b)) by rw[Q];exact di) T.2);have:=dD p3 S.1;rw[Q] at this;exact this
      have e:=MV m.pR m.tR (a.uV m r s Y).2.1;simp only[<-a.p0 _ (a.uV m r s Y).1,<-a.p0 _ (a.qL m (a.uV m r s Y).1),s] at e;have:=ajZ G T.2 T.1 S.1 bt e N.2.2 (a.uV m C E di).2.2;exact st (Hy.mpr (by rw[L];exact⟨this,Y⟩))
theorem uu(h:cr p q v=0)(hs:Sep (cr v w p) (cr v w q)):dP p v q:=by
 refine⟨h,?_⟩;have i:v≠p:=by
  rintro rfl;unfold Sep at hs;have:cr v w v=0:=by unfold cr;simp_all
  exact(cV 0x1600a0a84802300503300291a001198e8 0x4611000100481).2 hs this
 have c:=oj v p w q;have j:=(bW v p q).symm.trans h;simp only[j] at c;rcases hs with⟨d,f⟩|⟨d,f⟩
 .have:=gU f (dO i);have g:0<cr v w p*(-dt v p q):=by rw[iP,gN];exact(dJ 0x100004600a46850088124a8 0x11042008c21).2 c this
  have:=dD g d;exact sQ this
 .have:=bP f (dO i);have g:0<(-cr v w p)*(-dt v p q):=by rw[Zi,gN];exact PM c this
  have:=dD g (o3 d);exact sQ this
theorem mj{x y:Int}(h:x*y<0)(a:0<x):y<0:=by
 have:0<x*(-y):=by rw[iP];exact o3 h
 have:=dD this a;exact sQ this
theorem WH{l r c p q:Pt}{la g:Int}(v:0<cr l r c)(hl:0<la)(M:0<g)(F:0<la*cr r c p+g*cr r c q)(G:0<la*cr c l p+g*cr c l q)(H:0<la*cr l r p+g*cr l r q)
  (a5:cr r c p<0\/cr c l p<0\/cr l r p<0)(O:¬dP p l q)(P:¬dP p r q)(Q:¬dP p c q):cL p q r c\/cL p q c l\/cL p q l r:=by
 have I:=zZ l r c p;have e1:=wV l r c p q;have V:=wV r c l p q;have Y:=wV c l r p q;have Z:=bW l r c;have d3:cr c l r=cr l r c:=by rw[bW r c l,bW l r c]
 rw[Z] at V;rw[d3] at Y;have y:=bP M v;have R:(la*cr r c p+g*cr r c q)*cr c l p-(la*cr c l p+g*cr c l q)*cr r c p=-(g*cr l r c*cr p q c):=by grind
 have S:(la*cr c l p+g*cr c l q)*cr l r p-(la*cr l r p+g*cr l r q)*cr c l p=-(g*cr l r c*cr p q l):=by grind
 have T:(la*cr l r p+g*cr l r q)*cr r c p-(la*cr r c p+g*cr r c q)*cr l r p=-(g*cr l r c*cr p q r):=by grind
 have qa:cr r c p<0->0<cr r c q:=λh=>by have:=fy hl h;exact dD (GN F this) M
 have qb:cr c l p<0->0<cr c l q:=λh=>by have:=fy hl h;exact dD (GN G this) M
 have qc:cr l r p<0->0<cr l r q:=λh=>by have:=fy hl h;exact dD (GN H this) M
 generalize la*cr r c p+g*cr r c q=a0 at*;generalize la*cr c l p+g*cr c l q=a3 at*;generalize la*cr l r p+g*cr l r q=a4 at*;generalize g*cr l r c=m at*;have i1:cr r c p<0->0<cr p q c->cr c l p<0:=λf d=>by have:=bP y d;have:=fy G f;exact mj (x:=a0) (by exact GO R ‹_› this) F
 have i2:cr r c p<0->cr p q r<0->cr l r p<0:=λf d=>by have:=fy y d;have:=fy H f;exact mj (x:=a0) (by exact GP T ‹_› this) F
 have i3:cr c l p<0->0<cr p q l->cr l r p<0:=λf d=>by have:=bP y d;have:=fy H f;exact mj (x:=a3) (by exact GO S ‹_› this) G
 have N:cr c l p<0->cr p q c<0->cr r c p<0:=λf d=>by have:=fy y d;have:=fy F f;exact mj (x:=a3) (by exact GP R ‹_› this) G
 have i5:cr l r p<0->0<cr p q r->cr r c p<0:=λf d=>by have:=bP y d;have:=fy F f;exact mj (x:=a4) (by exact GO T ‹_› this) H
 have i6:cr l r p<0->cr p q l<0->cr c l p<0:=λf d=>by have:=fy y d;have:=fy G f;exact mj (x:=a4) (by exact GP S ‹_› this) H
 have D:∀j k:Pt,∀x:Pt,cr k j x=-cr j k x:=λj k x=>gC j k x;have A:cr r c p<0->cr p q c<=0->0<=cr p q r->cL p q r c:=λf d J=>by have n:Sep (cr r c p) (cr r c q):= .inr ⟨f,qa f⟩;have L:cr p q c≠0:=λo=>Q (uu (w:=r) o (by simp only[D r c p,D r c q];unfold Sep at*;exact Bk n));have z2:cr p q r≠0:=λo=>P (uu (w:=c) o n);exact⟨.inl ⟨by exact GQ J z2,by exact GR d L⟩,n⟩
 have B:cr c l p<0->cr p q l<=0->0<=cr p q c->cL p q c l:=λf d J=>by have n:Sep (cr c l p) (cr c l q):= .inr ⟨f,qb f⟩;have L:cr p q l≠0:=λo=>O (uu (w:=c) o (by simp only[D c l p,D c l q];unfold Sep at*;exact Bk n));have z2:cr p q c≠0:=λo=>Q (uu (w:=l) o n);exact⟨.inl ⟨by exact GQ J z2,by exact GR d L⟩,n⟩
 have C:cr l r p<0->cr p q r<=0->0<=cr p q l->cL p q l r:=λf d J=>by have n:Sep (cr l r p) (cr l r q):= .inr ⟨f,qc f⟩;have L:cr p q r≠0:=λo=>P (uu (w:=l) o (by simp only[D l r p,D l r q];unfold Sep at*;exact Bk n));have z2:cr p q l≠0:=λo=>O (uu (w:=r) o n);exact⟨.inl ⟨GQ J z2,GR d L⟩,n⟩
 by_cases j:cr r c p<0/\cr p q c<=0/\0<=cr p q r
 .exact .inl (A j.1 j.2.1 j.2.2)
 .by_cases k:cr c l p<0/\cr p q l<=0/\0<=cr p q c
  .exact .inr (.inl (B k.1 k.2.1 k.2.2))
  .refine .inr (.inr ?_);suffices h:cr l r p<0/\cr p q r<=0/\0<=cr p q l from C h.1 h.2.1 h.2.2;clear A B C D R S T e1 V Y qa qb qc F G H y O P Q Z d3;rcases a5 with h|h|h
   .by_cases i:0<cr p q c
    .have d:=i1 h i;exact absurd ⟨d,by
      by_cases e:0<cr p q l
      .have:=i3 d e;exact(qy 0x501005834002b1a00150d0962d421150900468 0x48108024084012042009427).2 v I h d this
      .exact km e,xN i⟩ k
    .have E:cr p q r<0:=by
      by_cases e:cr p q r<0
      .exact e
      .exact absurd ⟨h,km i,o6 e⟩ j
     have d:=i2 h E;refine⟨d,GF E,?_⟩;by_cases e:cr p q l<0
     .have:=i6 d e;exact(qy 0x40021005634002c1a00150d0962d421150900468 0x4a108023084012042009427).2 v I h d this
     .exact o6 e
   .by_cases i:0<cr p q l
    .have d:=i3 h i;refine⟨d,?_,xN i⟩;by_cases e:0<cr p q r
     .have:=i5 d e;exact(qy 0x501005434002c1a00158d0962d421150900468 0x4a108025084011042009427).2 v I h d this
     .exact km e
    .have E:cr p q c<0:=by
      by_cases e:cr p q c<0
      .exact e
      .exact absurd ⟨h,km i,o6 e⟩ k
     exact absurd ⟨(N h E),GF E,by
      by_cases e:cr p q r<0
      .have:=i2 (N h E) e;exact(qy 0x40021005834002a1a00158d0962d421150900468 0x48108025084011842009427).2 v I h (N h E) this
      .exact o6 e⟩ j
   .refine⟨h,?_,?_⟩
    .by_cases i:0<cr p q r
     .have d:=i5 h i;exact absurd ⟨d,by
       by_cases e:0<cr p q c
       .have:=i1 d e;exact(qy 0x501005634002a1a00160d0962d421150900468 0x4c108023084011842009427).2 v I h d this
       .exact km e,xN i⟩ j
     .exact km i
    .by_cases i:cr p q l<0
     .have d:=i6 h i;exact absurd ⟨d,GF i,by
       by_cases e:cr p q c<0
       .have:=N d e;exact(qy 0x40021005434002b1a00160d0962d421150900468 0x4c108024084011042009427).2 v I h d this
       .exact o6 e⟩ k
     .exact o6 i
theorem cut{V:List Pt}{a b d p q:Pt}{la c:Int}(k:0<cr a b d)(S:dK (λz=>z∈V) a b d)(T:a∈V)(Y:b∈V)(Z:d∈V)(vp:p∈V)(vq:q∈V)(a0:p≠q)(dl:∀z∈V,¬dP p z q)
  (hl:0<la)(e:0<c)(s:0<=la*cr b d p+c*cr b d q)(f:0<la*cr d a p+c*cr d a q)(g:0<la*cr a b p+c*cr a b q):
  (cr b d p=0/\cr b d q=0)\/cL p q b d\/cL p q d a\/cL p q a b:=by
 by_cases z:la*cr b d p+c*cr b d q=0
 .by_cases l:cr b d p=0
  .left;rw[l] at z;exact⟨l,mz (x:=c) ((cV 0xa0a00a120288a8 0x4210800100461).2 z) (o2 e)⟩
  .right;left;have e2:=wV b d a p q;have e3:=wV d a b p q;have d2:=bW a b d;have d3:cr d a b=cr a b d:=by rw[bW b d a,bW a b d]
   rw[d2] at e2;rw[d3] at e3;have C:(la*cr b d p+c*cr b d q)*cr d a p-(la*cr d a p+c*cr d a q)*cr b d p=-(c*cr a b d*cr p q d):=by clear z l s f g hl e k;grind
   have D:(la*cr a b p+c*cr a b q)*cr b d p-(la*cr b d p+c*cr b d q)*cr a b p=-(c*cr a b d*cr p q b):=by clear z l s f g hl e k;grind
   have E:(la*cr d a p+c*cr d a q)*cr b d p=c*cr a b d*cr p q d:=by rw[z,JS] at C;exact(cV 0x25054810008ca8 0x4410800100441).2 C
   have F:(la*cr a b p+c*cr a b q)*cr b d p=-(c*cr a b d*cr p q b):=by rw[z,JS] at D;exact afW D
   have n:=bP e k;generalize la*cr d a p+c*cr d a q=a3 at*;generalize la*cr a b p+c*cr a b q=a4 at*;generalize c*cr a b d=o at*;rcases CO l with h|h
   .have t:=fy f h;have w:=fy g h;have A:=mj (x:=o) (y:=cr p q d) (E▸t) n;have B:=dD (x:=o) (y:=cr p q b) ((cV 0x10008c0148d08024a8 0x11042008024).2 F w) n;refine⟨.inl ⟨B,A⟩, .inr ⟨h,?_⟩⟩;have:=fy hl h;exact dD ((cV 0x400230052340028488a8 0x11042008024).2 z this) e
   .have t:=bP f h;have w:=bP g h;have A:=dD (x:=o) (y:=cr p q d) (E▸t) n;have B:=mj (x:=o) (y:=cr p q b) (afX F w) n;refine⟨.inr ⟨B,A⟩, .inl ⟨h,?_⟩⟩;have:=bP hl h;exact mj (afY z this) e
 .have r:0<la*cr b d p+c*cr b d q:=DD s λa=>z a.symm;have G:=dl a T;have H:=dl b Y;have I:=dl d Z;by_cases J:cr b d p<0\/cr d a p<0\/cr a b p<0
  .rcases WH k hl e r f g J G H I with h|h|h
   .exact .inr (.inl h)
   .exact .inr (.inr (.inl h))
   .exact .inr (.inr (.inr h))
  .by_cases L:cr b d q<0\/cr d a q<0\/cr a b q<0
   .rcases WH k e hl (GS r) (GS f) (GS g) L (λh=>G h.symm) (λh=>H h.symm) (λh=>I h.symm) with h|h|h
    .exact .inr (.inl h.flip)
    .exact .inr (.inr (.inl h.flip))
    .exact .inr (.inr (.inr h.flip))
   .-- both are corners
    have M:∀x∈V,¬(cr b d x<0\/cr d a x<0\/cr a b x<0)->x=a\/x=b\/x=d:=by
     intro x hx h;by_cases N:x=a
     .exact .inl N
     .by_cases O:x=b
      .exact .inr (.inl O)
      .by_cases P:x=d
       .exact .inr (.inr P)
       .exact(zY S k hx N O P ((dJ 0x4002100503005433802919d48 0x8022).2 h) ((dJ 0x4002100543005233802819d48 0x8024).2 h) ((dJ 0x4002100543005033802919d48 0x8023).2 h)).elim
    have Q:∀i j:Pt,cr i j i=0:=λi j=>by unfold cr;simp_all
    have R:∀i j:Pt,cr i j j=0:=λi j=>dI i j;exfalso;rcases M p vp J with rfl|rfl|rfl<;>rcases M q vq L with rfl|rfl|rfl
    all_goals first
     |exact a0 rfl
     |(rw[Q,R,JL,JG,Int.zero_add] at r f g;omega)
     |(simp[Q,R] at r f g)
theorem Md.hx(D:Md)(l r p q:Pt):(D.g p*D.f q-D.g q*D.f p)*(D.f r-D.f l)-(D.g l*D.f r-D.g r*D.f l)*(D.f q-D.f p)=(D.A*D.A+D.B*D.B)*(D.f q*cr l r p+(-D.f p)*cr l r q):=by delta Md.f Md.g cr;grind
theorem Md.Ok.uL{D:Md}{l r p q:Pt}(a:D.Ok):D.aQ l r p q↔0<D.f q*cr l r p+(-D.f p)*cr l r q:=by
 have b:=D.hx l r p q;unfold Md.aQ;constructor
 .intro h;exact dD (x:=D.A*D.A+D.B*D.B) (afZ b h) a.nz
 .intro h;have:=bP a.nz h;exact af0 b this
theorem Md.AD(D:Md)(l r c z:Pt):cr l r c*D.f z=cr r c z*D.f l+cr c l z*D.f r+cr l r z*D.f c:=by delta Md.f cr;grind
theorem Md.Ac{p q z:Pt}(D:Md)(h:cr p q z=0)(a:D.f p<D.f z)(b:D.f z<D.f q):dP p z q:=by
 refine⟨h,?_⟩;have d:dt z p q*((D.f q-D.f p)*(D.f q-D.f p))+(D.f z-D.f p)*(D.f q-D.f z)*dt p q q=0:=by
  have g:(z.1-p.1)*(D.f q-D.f p)=(q.1-p.1)*(D.f z-D.f p)-D.B*cr p q z:=by delta Md.f cr;grind
  have i:(z.2-p.2)*(D.f q-D.f p)=(q.2-p.2)*(D.f z-D.f p)+D.A*cr p q z:=by delta Md.f cr;grind
  simp only[h] at g i;unfold dt;grind
 have j:p≠q:=by rintro rfl;exact(cV 0xb424684a068 0x8421).2 a b
 have c:0<D.f q-D.f p:=(dJ 0x128180234286852468 0x11842008022).2 a b;have k:(D.f q-D.f p)*(D.f q-D.f p)*dt z p q<0:=by rw[gN];exact af1 d (bP (bP (o7 a) (o7 b)) (dO j))
 exact mj k (bP c c)
theorem Md.MW(D:Md)(h:cr p q z=0)(a:D.f p≠D.f q)(b:D.f z=D.f p):z=p:=by
 have c:(z.1-p.1)*(D.f q-D.f p)=(q.1-p.1)*(D.f z-D.f p)-D.B*cr p q z:=by unfold Md.f cr;grind
 have d:(z.2-p.2)*(D.f q-D.f p)=(q.2-p.2)*(D.f z-D.f p)+D.A*cr p q z:=by unfold Md.f cr;grind
 rw[h,b] at c d;have e:=mz (x:=D.f q-D.f p) (y:=z.1-p.1) (by grind) (PN a);have g:=mz (x:=D.f q-D.f p) (y:=z.2-p.2) (by grind) (PN a);exact kL (oH e) (oH g)
theorem Md.Ok.same{D:Md}{l r p q:Pt}(e:D.Ok)(hl:l∈D.VL)(hr:r∈D.VR)(m:p∈D.VL)(n:q∈D.VR)(o:∀z∈D.V,¬dP l z r)(s:∀z∈D.V,¬dP p z q)(i:cr l r p=0)(j:cr l r q=0):p=l/\q=r:=by
 have c:=e.sL l hl;have d:=e.sR r hr;have t:=e.sL p m;have v:=e.sR q n;have A:l≠r:=by rintro rfl;exact xQ c d
 have w:∀z,cr l r z=0->cr p q z=0:=by
  intro z B;have g:dt l r r*cr p q z=0:=by
   have:∀x a b:Pt,dt l r r*cr x a b=(cr l r x)*(dt l r a-dt l r b)+cr l r a*(dt l r b-dt l r x)+cr l r b*(dt l r x-dt l r a)\/dt l r r*cr x a b=-((cr l r x)*(dt l r a-dt l r b)+cr l r a*(dt l r b-dt l r x)+cr l r b*(dt l r x-dt l r a)):=by intro x a b;right;delta cr dt;grind
   rcases this p q z with g|g<;>simp only[g,i,j,B]<;>simp
  exact mz g (by have:=dO A;exact o2 this)
 have C:=w l (by unfold cr;grind);have E:=w r (dI l r);constructor
 .rcases eX (D.f p) (D.f l) with h|h|h
  .exact absurd (D.Ac C h (PO c v)) (s l (Md.fh hl))
  .exact D.MW i ((cV 0x1282a92008d000a068 0x10048008c22).2 c d) h
  .exact absurd (D.Ac i h (sS d t)) (o p (Md.fh m))
 .rcases eX (D.f q) (D.f r) with h|h|h
  .exact absurd (D.Ac j (PO c v) h) (o q (Md.inR n))
  .exact D.MW (p:=r) (q:=l) (by rw[gC];exact kD (Int.eq_neg_comm.mp j)) ((cV 0x1282a90008d000a468 0x12042008023).2 c d) h
  .exact absurd (D.Ac E (sS d t) h) (s r (Md.inR hr))
inductive JV(D:Md)(P:Nat->Pt)(b:Nat)(on:Nat->Nat)(al:Nat->Prop)(g:Option Nat):Prop
 |inl (e:g=X) (k:∀c∈D.VL,0<cr (P (U b)) (P b) c->¬dK (λf=>f∈D.V) (P (U b)) (P b) c)
 |inr (x:Nat) (e:g=W x) (a:al x) (h:on (U b)=x) (d:0<cr (P (U b)) (P b) (P (U x))) (k:∀c∈D.VL,0<cr (P (U b)) (P b) c->dK (λf=>f∈D.V) (P (U b)) (P b) c->ic (P (U x)) (P (U b)) (P b) c=0)
inductive aaX(D:Md)(P:Nat->Pt)(b:Nat)(on:Nat->Nat)(al:Nat->Prop)(g:Option Nat):Prop
 |inl (e:g=X) (k:∀c∈D.VR,0<cr (P (U b)) (P b) c->¬dK (λf=>f∈D.V) (P (U b)) (P b) c)
 |inr (x:Nat) (e:g=W x) (a:al x) (h:on x=b) (d:0<cr (P (U b)) (P b) (P (U x))) (k:∀c∈D.VR,0<cr (P (U b)) (P b) c->dK (λf=>f∈D.V) (P (U b)) (P b) c->ic (P (U x)) (P (U b)) (P b) c=0)
inductive Zq(D:Md)(n:Nat)(P:Nat->Pt)(b:Nat)(on:Nat->Nat):Prop
 |mk (f:Nat) (a:Nat->Nat) (c:Nat->Prop) (d:Option Nat) (e:kS P b f on=W (a,d)) (M:Mg D n a P c b) (g:JV D P b a c d)
inductive aaZ(D:Md)(n:Nat)(P:Nat->Pt)(b:Nat)(on:Nat->Nat)(al:Nat->Prop):Prop
 |mk (f:Nat) (c:Nat->Nat) (d:Nat->Prop) (g:Option Nat) (e:kW P b f on=W (c,g)) (M:Mg D n c P d b) (R:aaX D P b c d g) (kp:∀a,al a->P a∈D.VL->d a/\c a=on a)
theorem ae0(a:D.Ok)(M:Mg D n on P al b):Zq D n P b on:=by
 have d:=M.part.op b M.lM;have k:P (U (U b))=P b:=by rw[cg]
 by_cases h:0<cr (P (U b)) (P b) (P (U (on (U b))))
 .obtain⟨f,l,m,e,h1,h2,o,p,q,r⟩:=afl a _ on al _ (bT _) M (M.part.jI d) rfl h;refine⟨f,l,m,W e,?_,h2, .inr e rfl o p q r⟩;unfold kS;rw[if_pos (by rw[ka,gC];exact qI h),h1];rfl
 .refine⟨0,on,al,X,?_,M, .inl rfl λz s t u=>?_⟩
  .unfold kS;rw[if_neg (by rw[ka,gC];exact Ru h)]
  .obtain⟨g,v,w,di,ii⟩:=M.Ww a s t u;have x:g≠on (U b):=by rintro rfl;exact h di
   have y:g≠U b:=by rintro rfl;rw[cg] at di;have:=dI (P (U b)) (P b);exact o5 di this
   have j:=(M.part.nx d v w y x).2;rw[k] at j;exact h (by have:=jt j di;exact this.1)
theorem ajH(p:D.Ok)(M:Mg D n on P al b):aaZ D n P b on al:=by
 have g:=M.lM;have j:=M.part.bk b g;have a:=M.qe.gq (M.part.lt b g);have k:P (aZ on b)=P b:=by have:=M.part.dk j;rw[a] at this;exact this.symm
 have q:∀d,cr (P b) d (P (U b))=cr (P (U b)) (P b) d:=λd=>bW (P (U b)) (P b) d;by_cases h:0<cr (P (U b)) (P b) (P (U (aZ on b)))
 .obtain⟨f,w,x,r,h1,h2,A,B,C,E,F⟩:=ajT p _ on al _ (bT _) M j a h;refine⟨f,w,x,W r,?_,h2, .inr r rfl A B C E,F⟩;unfold kW;rw[if_pos (by rw[ka,gC];exact qI h),h1];rfl
 .refine⟨0,on,al,X,?_,M, .inl rfl λN G H I=>?_,λe J Q=>⟨J,rfl⟩⟩
  .unfold kW;rw[if_neg (by rw[ka,gC];exact Ru h)]
  .obtain⟨e,l,m,di,ii⟩:=M.Wx p G H I;have s:e≠aZ on b:=by rintro rfl;exact h di
   have o:e≠b:=by
    rintro rfl;have:cr (P (U e)) (P e) (P (U e))=0:=by unfold cr;simp_all
    exact o5 di this
   have L:aZ on b≠b:=by intro d;rw[d] at a;exact M.part.ko g l m o a
   have t:=(M.part.nx j l (m.trans k.symm) s (by simp only[a];exact o)).2;have u:=M.part.un j g k.symm L;have v:=M.part.un j l (m.trans k.symm) s.symm;rw[a,k] at t;rw[k] at u v;have:=(jt (jY u v (M.part.un g l m o.symm) t) (by rw[q];exact di)).2;rw[q] at this;exact h this
theorem Mg.conn(m:D.Ok)(M:Mg D n on P al b)(v:al a)(N:al d)(a5:on a=d)(hD:0<cr (P a) (P (U a)) (P (U d)))(em:dK (λz=>z∈D.V) (P a) (P (U a)) (P (U d)))
  (y:P (U a)∈D.VR)(H:P (U d)∈D.VL)(S:D.aQ (P (U b)) (P b) (P (U d)) (P (U a)))
  (T:∀p q,p∈D.VL->q∈D.VR->D.aQ (P (U b)) (P b) p q->¬D.aQ (P (U d)) (P (U a)) p q->
   0<D.f q*cr (P (U d)) (P a) p+(-D.f p)*cr (P (U d)) (P a) q/\0<D.f q*cr (P a) (P (U a)) p+(-D.f p)*cr (P a) (P (U a)) q):
  Mg D (n+4) (bY.conn on n a (U d)) (bu P n (P (U a)) (P (U d))) (λx=>al x\/x=n\/x=n+2) n:=by
 have J:=gE (M.qe.n4);have o1:=M.part.op a v;have o2:=M.part.op d N;have e2:P d=P a:=by rw[<-a5];exact M.part.dk v
 have w:∀x<n,bu P n (P (U a)) (P (U d)) x=P x:=λx T=>by dsimp only[bu];rw[if_neg (sN T),if_neg (qG T)]
 have C:∀x<n,bu P n (P (U a)) (P (U d)) (U x)=P (U x):=λx T=>w _ (M.qe.bK T);have A:bu P n (P (U a)) (P (U d)) n=P (U a):=by unfold bu;rw[if_pos rfl]
 have B:bu P n (P (U a)) (P (U d)) (n+2)=P (U d):=by unfold bu;rw[if_neg (oG),if_pos rfl]
 have aQ:=M.part.lt;have E:=M.n0;have a0:=Dl.nf em.bp (by have:=bW (P a) (P (U a)) (P (U d));exact vh hD this);have a7:=Dl.nf em hD;have a8:Dl (λz=>z∈D.V) (P d) (P (U d)):=by exact e2▸(Dl.nf em.bp.bp (by have:=bW (P a) (P (U a)) (P (U d));have:=bW (P (U a)) (P (U d)) (P a);exact PK hD ‹_› this)).symm
 have a9:∀I,al I->P I=P (U a)->P (U I)≠P (U d):=by
  intro I ak F L;by_cases c:I<D.n0
  .rcases M.old I ak c with q|q
   .exact m.fQ (by simp only[<-F,M.p0 I c];exact m.pL.vt I q) y
   .exact m.fQ H (by simp only[<-L,M.p0 _ (M.qL m c)];exact m.pR.vo q)
  .obtain⟨l,r,hl,hr,o,Q⟩:=M.new I ak (qJ c);rcases o with⟨t,G⟩|⟨t,G⟩
   .exact m.fQ hl (by simp only[<-t,F];exact y)
   .rcases Q with q|q|q
    .rw[q] at F L;simp only[F,L] at S;exact m.Fy S
    .rw[q] at F;exact m.fQ M.bL (F▸y)
    .simp only[<-t,<-G,F,L] at q;exact m.Fy (m.AN H y M.bL M.bR H y q S)
 refine⟨M.part.conn M.qe v N a5 hD em a9,M.qe.conn (aQ _ v) (aQ _ o2) (M.part.ev _ v) (M.part.ev _ o2),zJ E,λg e=>?_,λg e R=>?_,λg e Y=>?_,λg e R=>?_, .inl M.fb, .inr (.inl rfl),E,?_,?_,?_,λg e R=>?_,λp q Z hq Y a4=>?_,λx a3 ex n1 n2=>?_⟩
 .simp only[w g (vk E e)];exact M.p0 g e
 .rcases e with e|rfl|rfl
  .exact M.old g e R
  .exact((dz 0xb424084a048 0x8421).2 R E).elim
  .exact((dz 0x5a041488484a008 0x8421).2 E R).elim
 .have a6:g<n:=by
   rcases e with e|e
   .have:=m.pL.lt g e;exact vk E this
   .have:=m.pR.lt g e;exact vk E this
  rw[w g a6,C g a6] at Y;exact .inl (M.kp g e Y)
 .simp only[J,A,B];rcases e with e|rfl|rfl
  .obtain⟨l,r,hl,hr,o,Q⟩:=M.new g e R;refine⟨l,r,hl,hr,?_, .inr (.inr ?_)⟩
   .rw[w g (aQ g e),C g (aQ g e)];exact o
   .rcases Q with q|q|q
    .rcases o with⟨t,G⟩|⟨t,G⟩
     .rw[q] at t;exact absurd M.bR (λz=>m.fQ hl (t▸z))
     .rw[q] at t G;simp only[<-t,<-G];exact S
    .rcases o with⟨t,G⟩|⟨t,G⟩
     .rw[q,cg] at G;rw[q] at t;simp only[<-t,<-G];exact S
     .rw[q] at t;exact absurd M.bL (λz=>m.fQ z (t▸hr))
    .exact m.AN hl hr M.bL M.bR H y q S
  .exact⟨_,_,H,y, .inr ⟨A,by rw[J];exact B⟩, .inl rfl⟩
  .exact⟨_,_,H,y, .inl ⟨B,by rw[(jy (M.qe.n4))];exact A⟩, .inr (.inl rfl)⟩
 .simp only[A];exact y
 .simp only[J,B];exact H
 .simp only[J,A,B];exact a0.symm
 .rcases e with e|rfl|rfl
  .rw[w g (aQ g e),C g (aQ g e)];exact M.cd g e R
  .simp only[J,A,B];exact a0
  .simp only[(jy (M.qe.n4)),A,B];exact a0.symm
 .simp only[J,A,B] at a4;by_cases hb:D.aQ (P (U b)) (P b) p q
  .have F:=T p q Z hq hb a4;have L:=mt m.uL.mpr a4;have e1:=gC (P (U a)) (P (U d));simp only[e1,e1] at L;have V1:=M.part.vt;rcases cut hD em (V1 _ v) (V1 _ o1) (V1 _ o2) (Md.fh Z) (Md.inR hq) (λz=>m.fQ Z (z▸hq)) Y.1 (m.sR q hq) (o3 (m.sL p Z)) (by simp only[iP,iP] at L;exact Gp L) F.1 F.2 with h|h|h|h
   .have s:=m.same H y Z hq a0.symm.1 Y.1 (by rw[e1];exact(cV 0x280140149401414c8 0x4012800118421).2 h) (by rw[e1];exact(cV 0x280140141401494c8 0x4011800108421).2 h);exact .inl ⟨n+2, .inr (.inr rfl),by rw[B];exact s.1.symm,by simp only[(jy (M.qe.n4)),A];exact s.2.symm⟩
   .exact .inr ⟨n, .inr (.inl rfl),by simp only[J,A,B];exact a0,by simp only[J,A,B];exact h.symm⟩
   .refine .inr ⟨d, .inl N,by simp only[w _ (aQ _ N),C _ (aQ _ N)];exact a8,?_⟩;simp only[w _ (aQ _ N),C _ (aQ _ N),e2];exact h.symm.flip
   .refine .inr ⟨a, .inl v,by simp only[w _ (aQ _ v),C _ (aQ _ v)];exact a7,?_⟩;simp only[w _ (aQ _ v),C _ (aQ _ v)];exact h.symm
  .rcases M.m2 p q Z hq Y hb with⟨u,o,Q,h3⟩|⟨u,o,Q,h3⟩
   .exact .inl ⟨u, .inl o,by simp only[w u (aQ u o)];exact Q,by rw[C u (aQ u o)];exact h3⟩
   .exact .inr ⟨u, .inl o,by simp only[w u (aQ u o),C u (aQ u o)];exact Q,by simp only[w u (aQ u o),C u (aQ u o)];exact h3⟩
 .have nx:¬al x:=λax=>by rcases M.old x ax a3 with q|q;exact n1 q;exact n2 q
  have pv:P (aZ on (U a))=P (U a):=by have:=M.part.dk (M.part.bk _ o1);rw[(M.qe.gq (aQ _ o1))] at this;exact this.symm
  rw[Al M.qe (aQ _ v) (aQ _ o2) (M.part.ev _ v) (M.part.ev _ o2) (fj a3 (zJ E)) ex (λz=>m.fQ H (by simp only[<-z,pv];exact y)),if_neg (ahR E a3),if_neg (ahS E a3),if_neg,if_neg,M.fr x a3 ex n1 n2]
  .intro z;exact nx (by rw[z];exact(M.part.bk _ o1))
  .intro z;exact nx (by rw[z];exact o2)
theorem ad6(z l r c:Pt):ic z c l r=ic z l r c:=by unfold ic;grind
theorem acD{D:Md}{l r x p q:Pt}(a:D.Ok)(hl:l∈D.VL)(hr:r∈D.VR)(g:x∈D.VL)(h:D.aQ l r p q)(i:¬D.aQ x r p q):0<D.f q*cr x l p+(-D.f p)*cr x l q/\0<D.f q*cr l r p+(-D.f p)*cr l r q:=by
 have c:=a.uL.mp h;have b:=mt a.uL.mpr i;refine⟨?_,c⟩;have n:=D.AD l r x p;have o:=D.AD l r x q;have j:(D.f q*cr r x p+(-D.f p)*cr r x q)*D.f l+(D.f q*cr x l p+(-D.f p)*cr x l q)*D.f r+(D.f q*cr l r p+(-D.f p)*cr l r q)*D.f x=0:=by grind
 simp only[(gC r x)] at b;have k:0<=D.f q*cr r x p+(-D.f p)*cr r x q:=by simp only[iP] at b;exact Gp b
 have d:=dF k (xM (a.sL _ hl));have e:=bP c (o3 (a.sL _ g));simp only[iP] at d e;have m:0<D.f r*(D.f q*cr x l p+(-D.f p)*cr x l q):=by rw[gN];exact(dJ 0x80046a0002342400085000a909108a8 0x23084011842008025).2 j d e
 exact dD m (a.sR _ hr)
theorem acE{D:Md}{l r x p q:Pt}(a:D.Ok)(hl:l∈D.VL)(hr:r∈D.VR)(d:x∈D.VR)(e:D.aQ l r p q)(g:¬D.aQ l x p q):0<D.f q*cr l r p+(-D.f p)*cr l r q/\0<D.f q*cr r x p+(-D.f p)*cr r x q:=by
 have c:=a.uL.mp e;have b:=mt a.uL.mpr g;refine⟨c,?_⟩;have k:=D.AD l r x p;have m:=D.AD l r x q;have h:(D.f q*cr r x p+(-D.f p)*cr r x q)*D.f l+(D.f q*cr x l p+(-D.f p)*cr x l q)*D.f r+(D.f q*cr l r p+(-D.f p)*cr l r q)*D.f x=0:=by grind
 simp only[(gC x l)] at b;have i:0<=D.f q*cr x l p+(-D.f p)*cr x l q:=by simp only[iP] at b;exact Gp b
 have j:0<(-D.f l)*(D.f q*cr r x p+(-D.f p)*cr r x q):=by rw[wc,gN];exact(dJ 0x400011a8011a120085000a928108a8 0x20090010048008c21).2 h (dF i (cn (a.sR _ hr))) (bP c (a.sR _ d))
 exact dD j (o3 (a.sL _ hl))
def Up(D:Md)(l r:Pt)(q:Qd)(b:Nat):Prop:=∃al,Mg D q.n q.on q.P al b/\D.aQ l r (q.P (U b)) (q.P b)
theorem WU(M:Mg D (n+4) (bY.conn on n i j) (bu P n (P (U i)) (P j)) al n)(a:n%4=0)(h:D.aQ l r (P j) (P (U i))):Up D l r (Qd.conn ⟨n,on,P⟩ i j) n:=by
 refine⟨al,M,?_⟩;have b:bu P n (P (U i)) (P j) (U n)=P j:=by rw[gE a];unfold bu;rw[if_neg (oG),if_pos rfl]
 have c:bu P n (P (U i)) (P j) n=P (U i):=by unfold bu;rw[if_pos rfl]
 show D.aQ l r (bu P n (P (U i)) (P j) (U n)) (bu P n (P (U i)) (P j) n);rw[b,c];exact h
theorem Mg.NV{D:Md}{n b:Nat}{on:Nat->Nat}{P:Nat->Pt}{al:Nat->Prop}{x:Nat}(c:D.Ok)(M:Mg D n on P al b)(e:al x)(f:on (U b)=x)(d:0<cr (P (U b)) (P b) (P (U x)))(j:dK (λz=>z∈D.V) (P (U b)) (P b) (P (U x))):
  Up D (P (U b)) (P b) (Qd.conn ⟨n,on,P⟩ (U b) (U x)) n:=by
 have g:=M.part.op b M.lM;have k:P x=P (U b):=by have:=M.part.dk g;rw[f] at this;exact this
 have h:=(M.sF c e k d).2.2;have a:P (U (U b))=P b:=by rw[cg]
 have i:=(c.Og M.bR).mpr (by have:=bO (P (U x)) (P b) (P (U b));have:=bW (P (U b)) (P b) (P (U x));have:=bW (P (U x)) (P (U b)) (P b);exact(dJ 0x140d492a1005150900468 0x2108401104e008c21).2 d ‹_› this);refine WU (M.conn c g e f (a▸d) (a▸j) (a.symm▸M.bR) h (a.symm▸i) ?_) M.qe.n4 (a.symm▸i);rw[a];exactλm o l l=>acD c M.bL M.bR h
theorem Mg.NW{D:Md}{n b:Nat}{on:Nat->Nat}{P:Nat->Pt}{al:Nat->Prop}{x:Nat}(a:D.Ok)(M:Mg D n on P al b)(d:al x)(f:on x=b)(e:0<cr (P (U b)) (P b) (P (U x)))(i:dK (λz=>z∈D.V) (P (U b)) (P b) (P (U x))):
  Up D (P (U b)) (P b) (Qd.conn ⟨n,on,P⟩ x (U b)) n:=by
 have c:P x=P b:=by have:=M.part.dk d;rw[f] at this;exact this.symm
 have g:=(M.uV a d c e).2.2;have j:0<cr (P b) (P (U x)) (P (U b)):=by rw[bW (P (U b)) (P b) (P (U x))];exact e
 have h:=(a.Of M.bL).mpr (by have:=bO (P (U b)) (P b) (P (U x));exact vg e this);refine WU (M.conn a d M.lM f (c▸j) (c▸i.bp) g M.bL h ?_) M.qe.n4 h;rw[c];exactλl m k k=>acE a M.bL M.bR g
inductive DE(D:Md)(q:Qd)(b:Nat):Prop
 |stop (a:Qd) (al:Nat->Prop) (h:ru q b a X) (e:a.P=q.P) (M:Mg D a.n a.on a.P al b) (d:∀c∈D.V,cr (q.P (U b)) (q.P b) c<=0)
 |go (a:Qd) (f:Nat) (h:ru q b a (W f)) (g:Up D (q.P (U b)) (q.P b) a f)
theorem BY(c:kS q.P b f1 q.on=W (a,l))(d:kW q.P b f2 a=W (on,r))(e:pick q.P b l r=W (i,j))(f:Up D (q.P (U b)) (q.P b) (Qd.conn ⟨q.n,on,q.P⟩ i j) q.n):DE D q b:=
 .go (Qd.conn ⟨q.n,on,q.P⟩ i j) q.n ⟨f1,f2,a,on,l,r,c,d,by rw[e];exact⟨rfl,rfl⟩⟩ f
theorem akn(c:kS q.P b f1 q.on=W (a,l))(d:kW q.P b f2 a=W (on,r))(e:pick q.P b l r=X)(M:Mg D q.n on q.P al b)(h:∀z∈D.V,cr (q.P (U b)) (q.P b) z<=0):DE D q b:=
 .stop ⟨q.n,on,q.P⟩ al ⟨f1,f2,a,on,l,r,c,d,by rw[e];exact⟨rfl,rfl⟩⟩ rfl M h
theorem Wy(m:D.Ok)(M:Mg D q.n q.on q.P al b):DE D q b:=by
 obtain⟨n,on,P⟩:=q;dsimp only at*;obtain⟨f1,a0,a3,l,e1,o,G⟩:=ae0 m M;obtain⟨f2,R,S,r,e2,M2,T,keep⟩:=ajH m o;have Y:JV D P b R S l:=by
  rcases G with⟨h,Z⟩|⟨x,g,a,d,h4,h5⟩
  .exact .inl h Z
  .have H:=o.part.op b o.lM;have k1:=keep x a (by have:=o.part.dk H;rw[d] at this;simp only[this];exact o.bL);have k2:=keep _ H o.bL;exact .inr x g k1.1 (k2.2.trans d) h4 h5
 clear G keep;have A:(∃j∈D.V,0<cr (P (U b)) (P b) j)->∃f∈D.V,0<cr (P (U b)) (P b) f/\dK (λj=>j∈D.V) (P (U b)) (P b) f:=by intro h;obtain⟨f,g,a,d⟩:=Np h;exact⟨f,g,a,dK.Vy M2.bD g a d⟩
 have s:=λ{f:Pt} (h:f∈D.V)=>fM.mp h;rcases Y with⟨u,hl⟩|⟨x,u,v,I,i,E⟩<;>rcases T with⟨w,hr⟩|⟨p,w,B,J,k,F⟩
 .refine akn e1 e2 (by rw[u,w];rfl) M2 λj hz=>?_;by_cases f:0<cr (P (U b)) (P b) j
  .obtain⟨f,g,a,d⟩:=A ⟨j,hz,f⟩;exact((s g).elim (λh=>hl f h a d) λh=>hr f h a d).elim
  .exact km f
 .obtain⟨f,g,a,d⟩:=A ⟨_,M2.part.vo B,k⟩;exact BY e1 e2 (by rw[u,w];rfl) (M2.NW m B J k (d.to a k (F f ((s g).resolve_left λh=>hl f h a d) a d)))
 .obtain⟨f,g,a,d⟩:=A ⟨_,M2.part.vo v,i⟩;exact BY e1 e2 (by rw[u,w];rfl) (M2.NV m v I i (d.to a i (E f ((s g).resolve_right λh=>hr f h a d) a d)))
 .-- both stand: the test
  obtain⟨f,g,a,d⟩:=A ⟨_,M2.part.vo v,i⟩;have L:je P (U p) (U x) (U b) b=ic (P (U p)) (P (U b)) (P b) (P (U x)):=by simp only[FF];exact ad6 _ _ _ _
  have N:pick P b l r=if 0<je P (U p) (U x) (U b) b then W (p,U b) else W (U b,U x):=by rw[u,w];rfl
  by_cases C:0<je P (U p) (U x) (U b) b
  .refine BY e1 e2 (N.trans (if_pos C)) (M2.NW m B J k ?_);rcases s g with h|h
   .exact(PL C (L▸d.to a i (E f h a d) _ (M2.part.vo B))).elim
   .exact d.to a k (F f h a d)
  .refine BY e1 e2 (N.trans (if_neg C)) (M2.NV m v I i ?_);rcases s g with h|h
   .exact d.to a i (E f h a d)
   .have Q:=d.to a k (F f h a d);exact Q.to k i (aih (L▸C) (Q _ (M2.part.vo v)) (ad4 (P (U x)) (P (U p)) (P (U b)) (P b)))
noncomputable def above(D:Md)(l r:Pt):Nat:=
 open Classical in((D.VL.flatMap λa=>D.VR.map λb=>(a,b)).countP λx=>decide (D.aQ l r x.1 x.2))
theorem Ek{p q:i->Bool}(h:∀x,p x=af->q x=af)(f:q a=af)(g:p a=aw):∀xs:List i,a∈xs->xs.countP p<xs.countP q
 |[],b=>by cases b
 |x::xs,b=>by
  simp only[CY,CY];rcases cP.mp b with j|b
  .rw[<-j,if_pos f,if_neg (by rw[g];simp)];exact Gs (Zy (l:=xs) (p:=p) (q:=q) (λx k=>h x))
  .have:=Ek h f g xs b;by_cases d:p x=af
   .rw[if_pos d,if_pos (h x d)];exact Bw this
   .rw[if_neg d];exact Gu this
theorem Lx(m:D.Ok)(hl:l∈D.VL)(hr:r∈D.VR)(n:d∈D.VL)(o:f∈D.VR)(h:D.aQ l r d f):above D d f<above D l r:=by
 unfold above;have v:∀a:List (Pt×Pt),(∀x∈a,x.1∈D.VL/\x.2∈D.VR)->(d,f)∈a->(open Classical in a.countP λx=>decide (D.aQ d f x.1 x.2))<(open Classical in a.countP λx=>decide (D.aQ l r x.1 x.2)):=by
  intro a;induction a with
  |nil=>intro _ h;cases h
  |cons x a w=>
   intro b s;have z:∀k:List (Pt×Pt),(∀x∈k,x.1∈D.VL/\x.2∈D.VR)->(open Classical in k.countP λx=>decide (D.aQ d f x.1 x.2))<=(open Classical in k.countP λx=>decide (D.aQ l r x.1 x.2)):=by intro k g;refine Zy λj A=>?_;have:=g j A;simp only[decide_eq_true_iff];intro B;exact m.AN hl hr n o this.1 this.2 h B
   simp only[CY,CY];rcases cP.mp s with C|s
   .rw[<-C,if_neg (by simp only[decide_eq_true_iff];exact m.Fy),if_pos (by simp only[decide_eq_true_iff];exact h)];exact Gs (z a λj g=>b j (fZ _ g))
   .have u:=w (λj g=>b j (fZ _ g)) s;by_cases t:D.aQ d f x.1 x.2
    .have E:=m.AN hl hr n o (b x gO).1 (b x gO).2 h t;rw[if_pos (by simp only[decide_eq_true_iff];exact t),if_pos (by simp only[decide_eq_true_iff];exact E)];exact Bw u
    .rw[if_neg (by simp only[decide_eq_true_iff];exact t)];exact Gu u
 refine v _ (λx b=>?_) ?_
 .obtain⟨H,F,b⟩:=zE.mp b;obtain⟨I,G,rfl⟩:=dc.mp b;exact⟨F,G⟩
 .exact zE.mpr ⟨d,n,dc.mpr ⟨f,o,rfl⟩⟩
theorem ajW(i:D.Ok):∀k (q:Qd) (b:Nat) (al:Nat->Prop),above D (q.P (U b)) (q.P b)<=k->Mg D q.n q.on q.P al b->
  ∃j q' f c,iN j q b q'/\Mg D q'.n q'.on q'.P c f/\∀z∈D.V,cr (q'.P (U f)) (q'.P f) z<=0:=by
 intro k;induction k with
 |zero=>
  intro q b al hk d;rcases Wy i d with⟨q',c,g,l,a,h⟩|⟨q',f,g,c,a,h⟩
  .exact⟨1,q',b,c, .stop g,a,by rw[l];exact h⟩
  .
   have:=Lx i d.bL d.bR a.bL a.bR h;exact(Gv hk this).elim
 |succ k m=>
  intro q b al hk d;rcases Wy i d with⟨q',c,g,l,a,h⟩|⟨q',f,g,c,a,h⟩
  .exact⟨1,q',b,c, .stop g,a,by rw[l];exact h⟩
  .
   have:=Lx i d.bL d.bR a.bL a.bR h;obtain⟨j,o,b2,p,r,s,t⟩:=m q' f c (Gw hk this) a;exact⟨j+1,o,b2,p, .step g r,s,t⟩
noncomputable def ln(A B:Int)(z:Pt):Int:=A*z.1+B*z.2
theorem qx(A B:Int)(z:Pt):ln A (-B) (mi z)=-ln A B z:=by unfold ln mi;grind
theorem half(A B:Int)(p u w q:Pt):(ln A B w-ln A B p)*cr p u q=(ln A B u-ln A B p)*cr p w q+(ln A B q-ln A B p)*cr p u w:=by unfold ln cr;grind
theorem xw(c:ln A B p<ln A B u)(d:ln A B p<ln A B w)(f:ln A B p<ln A B q)(g:0<=cr p u w)(h:0<=cr p w q):0<=cr p u q:=by have i:=half A B p u w q;have j:=dF (Bi c) h;have k:=dF (Bi f) g;exact uW (x:=ln A B w-ln A B p) (ahT i j k) (o7 d)
theorem half_lt(c:ln A B p<ln A B u)(d:ln A B p<ln A B w)(f:ln A B p<ln A B q)(i:0<=cr p u w)(j:0<=cr p w q)(h:0<cr p u w\/0<cr p w q):0<cr p u q:=by
 have g:=half A B p u w q;have k:=dF (Bi c) j;have l:=dF (Bi f) i;rcases h with h|h
 .have:=bP (o7 f) h;exact dD (x:=ln A B w-ln A B p) (ahU g k this) (o7 d)
 .have:=bP (o7 c) h;exact dD (x:=ln A B w-ln A B p) (ahV g l this) (o7 d)
theorem VV(h:cr p a b=0)(c:ln A B p<ln A B a)(d:ln A B p<ln A B b):oP p a b:=by
 refine⟨h,?_⟩;have f:(ln A B a-ln A B p)*(b.1-p.1)=(ln A B b-ln A B p)*(a.1-p.1)-B*cr p a b:=by delta ln cr;grind
 have g:(ln A B a-ln A B p)*(b.2-p.2)=(ln A B b-ln A B p)*(a.2-p.2)+A*cr p a b:=by delta ln cr;grind
 have i:(ln A B a-ln A B p)*dt p a b=(ln A B b-ln A B p)*dt p a a:=by simp only[h] at f g;unfold dt;grind
 have j:p≠a:=by rintro rfl;exact Rv c
 have:=bP (o7 d) (dO j);exact dD (x:=ln A B a-ln A B p) (QH i this) (o7 c)
theorem Oh(c:Part n on P al V)(L:iW P al V)(E:al x)(f:al x2)(e:on x2=U x)(S:∀z∈V,cr (P x) (P (U x)) z<=0)(l:ln A B (P (U x))<ln A B (P x)):
  (∀z∈V,cr (P x2) (P (U x2)) z<=0)/\((∃z∈V,ln A B z<ln A B (P x2))->ln A B (P x2)<=ln A B (P (U x2))->ln A B (P x2)=ln A B (P (U x2))):=by
 have m:P x2=P (U x):=by have:=c.dk f;rw[e] at this;exact this.symm
 have s:P (U (U x))=P x:=by rw[cg]
 have o:∀z∈V,0<=cr (P x2) (P x) z:=by intro z g;have:=S z g;exact m▸QC this (bW (P x) (P (U x)) z) (bO (P (U x)) (P x) z)
 have F:∀z∈V,cr (P x2) (P (U x2)) z<=0:=by
  intro M Y;rcases CQ 0 (cr (P x2) (P (U x2)) M) with h|h
  .exfalso;obtain⟨D,k,Z,ak,ej,ek,a3,hd,em⟩:=L.cZ x2 M f Y h;have j1:D≠x2:=by rintro rfl;have:=dI (P D) (P (U D));exact o5 hd this
   have N:=o _ (c.vo f);by_cases O:D=on x2
   .simp only[O,e,s] at hd;exact QU hd N (bO (P x2) (P x) (P (U x2)))
   .have G:=(c.nx f Z ej j1 O).2;rw[e,s] at G;have:=(jt G hd).1;exact(cV 0x5a4011a1004950800428 0x10044008424).2 N (bO (P x2) (P x) (P (U x2))) this
  .exact h
 refine⟨F,λ⟨z,g,H⟩ hm=>?_⟩;by_cases v:ln A B (P x2)=ln A B (P (U x2))
 .exact v
 .exfalso;have I:ln A B (P x2)<ln A B (P (U x2)):=DD hm v;replace l:=(m)▸l;let i:Pt:=(2*(P x2).1-z.1,2*(P x2).2-z.2);have r:∀d,cr (P x2) d i=-cr (P x2) d z:=λd=>by show cr (P x2) d (2*(P x2).1-z.1,2*(P x2).2-z.2)=_;dsimp only[cr];grind
  have z2:ln A B i=2*ln A B (P x2)-ln A B z:=by show ln A B (2*(P x2).1-z.1,2*(P x2).2-z.2)=_;dsimp only[ln];grind
  have z3:∀d,cr (P x2) i d=cr (P x2) d z:=λd=>by have:=r d;have:=bO (P x2) d i;exact(dJ 0x94154041509028a8 0x1004c008421000240840100461).2 ‹_› this
  have J:ln A B (P x2)<ln A B i:=(dJ 0x2503520441a4a842868 0x1004a008023).2 H z2;have c1:cr (P x2) (P x) (P (U x2))=0:=by
   rcases CQ 0 (cr (P x2) (P x) (P (U x2))) with h|h
   .exfalso;have y:=half_lt l I J (o _ (c.vo f)) (by rw[r];exact o8 (F z g)) (.inl h);rw[r] at y;exact(ip 0x5a00008d0800428 0x8022).2 (o z g) y
   .exact afJ (o _ (c.vo f)) h
  have Q:cr (P x2) (P x) z=0:=by have y:=xw l I J (o _ (c.vo f)) (by rw[r];exact o8 (F z g));rw[r] at y;exact(ip 0x282a0000850800428 0x4210800100461).2 (o z g) y
  have a0:x2=U x:=by
   by_cases v:x2=U x
   .exact v
   .exfalso;have R:=c.un f (c.op x E) m.symm v;simp only[s] at R;exact R.hr (Hv (VV c1 l I))
  simp only[a0] at e;refine OJ c L (c.op x E) e g ⟨c.ne (c.op x E),λC=>?_,λC=>?_⟩ (by simp only[s,<-m];exact Q)
  .rw[<-m] at C;simp only[C] at H;exact Rv H
  .rw[s,<-m] at C;have h1:=C.2;have w2:=VV (A:=A) (B:=B) (p:=P x2) (a:=P x) (b:=i) (by simp only[r,Q];rfl) l J;have h2:dt (P x2) (P x) i=-dt (P x2) (P x) z:=by show dt (P x2) (P x) (2*(P x2).1-z.1,2*(P x2).2-z.2)=_;dsimp only[dt];grind
   have:=w2.2;exact(cV 0x5a4011a1004950800468 0x10044008424).2 h1 h2 this
theorem ad3(a:Part n on P al V)(e:iW P al V)(Q:QE n on)(c:al y)(f:∀z∈V,0<=cr (P y) (P (U y)) z)(g:ln A B (P y)<ln A B (P (U y))):
  (∀z∈V,0<=cr (P (on (U y))) (P (U (on (U y)))) z)/\((∃z∈V,ln A B (P (on (U y)))<ln A B z)->ln A B (P (U (on (U y))))<=ln A B (P (on (U y)))->ln A B (P (on (U y)))=ln A B (P (U (on (U y))))):=by
 have d:=a.op y c;obtain⟨h,h2⟩:=Oh (A:=A) (B:=-B) (a.mi Q) (e.mi a.op) (x:=y) (x2:=on (U y)) c (a.jI d) (Q.xW (a.lt _ d)) (λz b=>by have:=f (mi z) (qC.mp b);rw[<-iq z,ja];exact afG this) (by simp only[qx,qx];exact sT g);refine⟨λz b=>?_,λ⟨z,b,i⟩ j=>?_⟩
 .have:=h (mi z) (mI b);rw[ja] at this;exact(ip 0x1000840140028 0x8022).2 this
 .have:=h2 ⟨mi z,mI b,by simp only[qx,qx];exact sT i⟩ (by simp only[qx,qx];exact Int.neg_le_neg j);simp only[qx,qx] at this;exact CT.mp this
theorem Part.union{on:Nat->Nat}{P:Nat->Pt}{aL aR:Nat->Prop}{f:Pt->Int}(o:Part n on P aL Q)(Y:Part n on P aR Z)(hf:∃A B C:Int,∀z,f z=A*z.1+B*z.2+C)(v:∀z∈Q,f z<0)(w:∀z∈Z,0<f z):
  Part n on P (λi=>aL i\/aR i) (Q++Z):=by
 have dj:∀z∈Q,z∈Z->False:=λz R F=>by have:=v z R;have:=w z F;exact xQ ‹_› this
 obtain⟨A,B,C,hf⟩:=hf;have bt:∀g z k,dP g z k->(f g<0->f k<0->f z<0)/\(0<f g->0<f k->0<f z):=by
  intro g z k h;have a0:g≠k:=by rintro rfl;have:=h.2;have S:dt z g g=(g.1-z.1)*(g.1-z.1)+(g.2-z.2)*(g.2-z.2):=rfl;have:=ir (g.1-z.1);have:=ir (g.2-z.2);exact(dJ 0x16a004284802142922415000a068 0x2008c010046009024).2 ‹_› S ‹_› this
  have S:(dt g k z)*f k+(dt k g z)*f g=dt g k k*f z:=by
   have h0:=h.1;rw[hf,hf,hf];have G:dt g k k*(z.1-g.1)=dt g k z*(k.1-g.1)-cr g k z*(k.2-g.2):=by unfold dt cr;grind
   have H:dt g k k*(z.2-g.2)=dt g k z*(k.2-g.2)+cr g k z*(k.1-g.1):=by unfold dt cr;grind
   have e3:dt k g z=dt g k k-dt g k z:=by unfold dt;grind
   rw[h0] at G H;rw[e3];grind
  have F:=h.2;have R:=h.1;have q1:0<dt g k z:=by
   have e5:dt z g k=dt g z z-dt g k z:=by unfold dt;grind
   have:0<=dt g z z:=by unfold dt;have:=ir (z.1-g.1);have:=ir (z.2-g.2);exact uZ ‹_› this
   exact GG F e5 this
  have q2:0<dt k g z:=by
   have e5:dt z g k=dt k z z-dt k g z:=by unfold dt;grind
   have:0<=dt k z z:=by unfold dt;have:=ir (z.1-k.1);have:=ir (z.2-k.2);exact uZ ‹_› this
   exact GG F e5 this
  have q3:=dO a0;constructor
  .intro I r;have m1:=fy q1 r;have m2:=fy q2 I;exact mj (ahv S m1 m2) q3
  .intro I r;have m1:=bP q1 r;have m2:=bP q2 I;exact dD (ahw S m1 m2) q3
 have cx:∀g k l m,f g<0->f k<0->0<f l->0<f m->¬cL g k l m:=by
  intro g k l m I r hc hd ⟨R,F⟩;have G:(cr l m g-cr l m k)*((cr g k m)*f l-(cr g k l)*f m)=(cr g k m-cr g k l)*(cr l m g*f k-cr l m k*f g):=by rw[hf,hf,hf,hf];unfold cr;grind
  have H:cr g k m-cr g k l=cr l m g-cr l m k:=by unfold cr;grind
  rcases R with⟨J,L⟩|⟨J,L⟩<;>rcases F with⟨x,D⟩|⟨x,D⟩
  .exact(gj 0xb00563428011a00140d09004685a86940ca8 0x4610802009001004a008826).2 H J L x D
  .have a1:=gU L hc;have a2:=bP J hd;have a3:=mH x r;have a4:=fy D I;have M:cr l m g-cr l m k<0:=Hf x D;rw[H] at G;have:=mH M (Hf a1 a2);have:=gU M (Hg a3 a4);exact QW G ‹_› this
  .have a1:=bP L hc;have a2:=gU J hd;have a3:=fy x r;have a4:=mH D I;have M:0<cr l m g-cr l m k:=Hg x D;rw[H] at G;have:=bP M (Hg a1 a2);have:=fy M (Hf a3 a4);exact QW G ‹_› this
  .exact(gj 0xb580234002a1a10008d000a4685a86940ca8 0x40120023084012042009023).2 H J L x D
 have N:=o.vt;have O:=Y.vt;refine⟨λi h=>h.elim (o.lt i) (Y.lt i),λi h=>h.elim (o.ev i) (Y.ev i),λi h=>h.imp (o.op i) (Y.op i),λi h=>h.imp (o.bk i) (Y.bk i),λT=>?_,λi h=>?_,λi z h s r=>?_,λi V t u h=>?_⟩
 .by_cases l:T∈Q
  .refine(o.rg T).congr (λi=>⟨λh=>⟨h.1.resolve_right λq=>dj T l (by rw[<-h.2];exact O i q),h.2⟩,λh=>⟨.inl h.1,h.2⟩⟩) (λE E=>rfl) (λE E=>rfl)
  .refine(Y.rg T).congr (λi=>⟨λh=>⟨h.1.resolve_left λq=>l (by rw[<-h.2];exact N i q),h.2⟩,λh=>⟨.inr h.1,h.2⟩⟩) (λE E=>rfl) (λE E=>rfl)
 .rcases h with h|h
  .exact iT _ (N i h)
  .exact lC _ (O i h)
 .rcases h with h|h
  .rcases fM.mp s with s|s
   .exact o.sg i z h s r
   .have:=(bt _ _ _ r).1 (v _ (N i h)) (v _ (o.vo h));have:=w z s;exact xQ ‹_› this
  .rcases fM.mp s with s|s
   .have:=(bt _ _ _ r).2 (w _ (O i h)) (w _ (Y.vo h));have:=v z s;exact xP ‹_› this
   .exact Y.sg i z h s r
 .rcases t with t|t<;>rcases u with u|u
  .exact o.pl i V t u h
  .exact cx _ _ _ _ (v _ (N i t)) (v _ (o.vo t)) (w _ (O V u)) (w _ (Y.vo u)) h
  .exact cx _ _ _ _ (v _ (N V u)) (v _ (o.vo u)) (w _ (O i t)) (w _ (Y.vo t)) h.symm
  .exact Y.pl i V t u h
theorem Md.Nq(D:Md)(z:Pt):D.f z=ln D.A D.B z+D.C:=by unfold Md.f ln;exact rfl
theorem Md.fU(D:Md)(z w:Pt):D.f z<D.f w↔ln D.A D.B z<ln D.A D.B w:=by rw[D.Nq,D.Nq];exact ahm
theorem mW(A B:Int)(z:Pt):ln (-A) (-B) z=-ln A B z:=by unfold ln;grind
theorem Fv(a:ln A B u<ln A B p)(b:ln A B w<ln A B p)(c:ln A B q<ln A B p)(d:0<=cr p u w)(e:0<=cr p w q)(h:0<cr p u w\/0<cr p w q):0<cr p u q:=
 half_lt (A:=-A) (B:=-B) (by rw[mW,mW];exact sT a) (by rw[mW,mW];exact sT b) (by rw[mW,mW];exact sT c) d e h
structure Tg(D:Md)(x y:Nat):Prop where
 ax:D.aL x
 ay:D.aR y
 ox:∀z∈D.VL,cr (D.P0 x) (D.P0 (U x)) z<=0
 oy:∀z∈D.VR,0<=cr (D.P0 y) (D.P0 (U y)) z
 iL:∀z∈D.VL,D.f (D.P0 x)<D.f z->0<cr (D.P0 x) (D.P0 y) z
 iR:∀z∈D.VR,D.f z<D.f (D.P0 y)->0<cr (D.P0 x) (D.P0 y) z
 dL:(∃z∈D.VL,D.f z<D.f (D.P0 x))->D.f (D.P0 (U x))<D.f (D.P0 x)
 dR:(∃z∈D.VR,D.f (D.P0 y)<D.f z)->D.f (D.P0 y)<D.f (D.P0 (U y))
theorem Tg.left(a:D.Ok)(b:Tg D x y)(h:0<cr (D.P0 x) (D.P0 (U x)) (D.P0 y)):Tg D (gh D.dS x) y/\D.f (D.P0 (gh D.dS x))<D.f (D.P0 x):=by
 rw[a.qe.xF (a.pL.lt x b.ax)];have g:=a.pL.bk _ (a.pL.op x b.ax);have p:=a.qe.gq (a.pL.lt _ (a.pL.op x b.ax));have l:D.P0 (aZ D.dS (U x))=D.P0 (U x):=by have:=a.pL.dk g;rw[p] at this;exact this.symm
 have i:D.f (D.P0 (U x))<D.f (D.P0 x):=by
  rcases eX (D.f (D.P0 (U x))) (D.f (D.P0 x)) with c|c|c
  .exact c
  .exact absurd (a.fi _ _ (Md.fh (a.pL.vo b.ax)) (Md.fh (a.pL.vt x b.ax)) c).symm (a.pL.ne b.ax)
  .have:=b.iL _ (a.pL.vo b.ax) c;have:=bO (D.P0 x) (D.P0 (U x)) (D.P0 y);exact(gj 0x1281a80b2a16008d0a00468 0x1004a008425).2 h ‹_› this
 have m:=a.sR _ (a.pR.vt y b.ay);have n:=a.sL _ (a.pL.vt x b.ax);obtain⟨s,h2⟩:=Oh a.pL a.tL b.ax g p b.ox ((D.fU _ _).mp i);have r:0<cr (D.P0 (U x)) (D.P0 y) (D.P0 x):=by rw[bW];exact h
 refine⟨⟨g,b.ay,s,b.oy,?_,?_,?_,b.dR⟩,by rw[l];exact i⟩
 .rw[l];intro d j hf;have t:=bW (D.P0 x) (D.P0 (U x)) d;have u:=bO (D.P0 (U x)) (D.P0 x) d;exact half_lt (A:=D.A) (B:=D.B) ((D.fU _ _).mp (by exact QB i m n)) ((D.fU _ _).mp i) ((D.fU _ _).mp hf) (cn r) (by exact QC (b.ox d j) t u) (.inl r)
 .rw[l];intro d j hf;have o:=b.iR d j hf;rw[<-bW (D.P0 x)] at o;rw[<-bW (D.P0 (U x))];have v:0<cr (D.P0 y) (D.P0 x) (D.P0 (U x)):=by rw[bW (D.P0 (U x)),bW (D.P0 x)];exact h
  exact Fv (A:=D.A) (B:=D.B) ((D.fU _ _).mp hf) ((D.fU _ _).mp (by exact sS m n)) ((D.fU _ _).mp (by exact QB i m n)) (cn o) (cn v) (.inl o)
 .intro⟨d,j,hf⟩;rcases eX (D.f (D.P0 (U (aZ D.dS (U x))))) (D.f (D.P0 (aZ D.dS (U x)))) with c|c|c
  .exact c
  .exact absurd (a.fi _ _ (Md.fh (a.pL.vo g)) (Md.fh (a.pL.vt _ g)) c).symm (a.pL.ne g)
  .have:=h2 ⟨d,j,(D.fU _ _).mp hf⟩ (cn ((D.fU _ _).mp c));have:=(D.fU _ _).mp c;exact(gj 0x25035a8685a8a8 0x8424).2 ‹_› this
theorem Tg.right(a:D.Ok)(b:Tg D x y)(h:cr (D.P0 y) (D.P0 (U y)) (D.P0 x)<0):Tg D x (jz D.dS y)/\D.f (D.P0 y)<D.f (D.P0 (jz D.dS y)):=by
 have t:=a.pR.lt y b.ay;have m:=a.pR.op y b.ay;unfold jz;have i:=a.pR.jI m;have j:=a.pR.dk m;have n:cr (D.P0 x) (D.P0 y) (D.P0 (U y))=cr (D.P0 y) (D.P0 (U y)) (D.P0 x):=(bW _ _ _).symm;have d:D.f (D.P0 y)<D.f (D.P0 (U y)):=by
  rcases eX (D.f (D.P0 (U y))) (D.f (D.P0 y)) with c|c|c
  .have:=b.iR _ (a.pR.vo b.ay) c;exact(gj 0x940d6008d0a595000a868 0x10046009023).2 h n this
  .exact absurd (a.fi _ _ (Md.inR (a.pR.vo b.ay)) (Md.inR (a.pR.vt y b.ay)) c).symm (a.pR.ne b.ay)
  .exact c
 have l:=a.sR _ (a.pR.vt y b.ay);obtain⟨s,h2⟩:=ad3 a.pR a.tR a.qe b.ay b.oy ((D.fU _ _).mp d);have o:0<cr (D.P0 (U y)) (D.P0 y) (D.P0 x):=by have:=bW (D.P0 y) (D.P0 (U y)) (D.P0 x);have:=bO (D.P0 (U y)) (D.P0 x) (D.P0 y);exact QD h ‹_› this
 refine⟨⟨b.ax,i,b.ox,s,?_,?_,b.dL,?_⟩,by rw[j];exact d⟩
 .rw[j];intro e g hf;have p:0<cr (D.P0 x) (D.P0 (U y)) (D.P0 y):=QD h n (bO (D.P0 x) (D.P0 y) (D.P0 (U y)));exact half_lt (A:=D.A) (B:=D.B) ((D.fU _ _).mp (QF d l (a.sL _ (a.pL.vt x b.ax)))) ((D.fU _ _).mp (sS l (a.sL _ (a.pL.vt x b.ax)))) ((D.fU _ _).mp hf) (cn p) (cn (b.iL e g hf)) (.inl p)
 .rw[j];intro e g hf;have r:=b.oy e g;rw[<-bW (D.P0 x)];rw[<-bW (D.P0 y)] at r;exact Fv (A:=D.A) (B:=D.B) ((D.fU _ _).mp hf) ((D.fU _ _).mp d) ((D.fU _ _).mp (QF d l (a.sL _ (a.pL.vt x b.ax)))) r (cn o) (.inr o)
 .intro⟨e,g,hf⟩;rcases eX (D.f (D.P0 (U (D.dS (U y))))) (D.f (D.P0 (D.dS (U y)))) with c|c|c
  .have:=h2 ⟨e,g,(D.fU _ _).mp hf⟩ (cn ((D.fU _ _).mp c));have:=(D.fU _ _).mp c;exact(gj 0x250352c685a8a8 0x8822).2 ‹_› this
  .exact absurd (a.fi _ _ (Md.inR (a.pR.vo i)) (Md.inR (a.pR.vt _ i)) c).symm (a.pR.ne i)
  .exact c
theorem MA{a:Pt}{V:List Pt}{s t:Int}(D:Md)(h:s<t)(b:a∈V)(e:D.f a=s):V.countP (λz=>decide (D.f z<s))<V.countP (λz=>decide (D.f z<t)):=
 Ek (a:=a) (λz c=>by simp only[decide_eq_true_iff] at*;exact zt c h) (by simp only[decide_eq_true_iff];exact e▸h) (by simp only[decide_eq_false_iff_not];exact(cV 0x4a06a4a0a8 0x8023).2 e) V b
theorem Mz{a:Pt}{V:List Pt}{s t:Int}(D:Md)(h:t<s)(b:a∈V)(e:D.f a=s):V.countP (λz=>decide (s<D.f z))<V.countP (λz=>decide (t<D.f z)):=
 Ek (a:=a) (λz c=>by simp only[decide_eq_true_iff] at*;exact zt h c) (by simp only[decide_eq_true_iff];exact e▸h) (by simp only[decide_eq_false_iff_not];exact(cV 0x4a06a424a8 0x8022).2 e) V b
theorem akq{D:Md}(e:D.Ok):∀k x y,D.VL.countP (λz=>decide (D.f z<D.f (D.P0 x)))+D.VR.countP (λz=>decide (D.f (D.P0 y)<D.f z))<=k->Tg D x y->
  ∃j a b,iu D.P0 D.dS j x y a b/\Tg D a b/\cr (D.P0 a) (D.P0 (U a)) (D.P0 b)<=0/\0<=cr (D.P0 b) (D.P0 (U b)) (D.P0 a):=by
 intro k;induction k with
 |zero=>
  intro x y hk i;by_cases c:0<cr (D.P0 x) (D.P0 (U x)) (D.P0 y)
  .obtain⟨d,h⟩:=i.left e c;have:=MA D h (e.pL.vt _ d.ax) rfl;exact((fq 0x5a1424002940808 0x200b801005c008421).2 hk this).elim
  .by_cases g:cr (D.P0 y) (D.P0 (U y)) (D.P0 x)<0
   .obtain⟨d,h⟩:=i.right e g;have:=Mz D h (e.pR.vt _ d.ay) rfl;exact((fq 0x5a5424002940808 0x200b801004400842e).2 hk this).elim
   .exact⟨1,x,y, .stop (by simp only[ka];exact c) (by simp only[ka];exact g),i,km c,o6 g⟩
 |succ k l=>
  intro x y hk i;by_cases c:0<cr (D.P0 x) (D.P0 (U x)) (D.P0 y)
  .obtain⟨d,h⟩:=i.left e c;have:=MA D h (e.pL.vt _ d.ax) rfl;obtain⟨j,a,b,r,rest⟩:=l _ _ ((gm 0x1494080b409010a84958808 0x11842008421).2 hk this) d;exact⟨j+1,a,b, .left (by simp only[ka];exact c) r,rest⟩
  .by_cases g:cr (D.P0 y) (D.P0 (U y)) (D.P0 x)<0
   .obtain⟨d,h⟩:=i.right e g;have:=Mz D h (e.pR.vt _ d.ay) rfl;obtain⟨j,a,b,r,rest⟩:=l _ _ ((gm 0x1494080b489010a84b40808 0x11042008821).2 hk this) d;exact⟨j+1,a,b, .right (by simp only[ka];exact c) (by simp only[ka];exact g) r,rest⟩
   .exact⟨1,x,y, .stop (by simp only[ka];exact c) (by rw[ka];exact g),i,km c,o6 g⟩
noncomputable def my(p z:Pt):Pt:=(2*p.1-z.1,2*p.2-z.2)
theorem En(p a z:Pt):cr p a (my p z)=-cr p a z:=by unfold my cr;grind
theorem rT(p a z:Pt):cr p (my p z) a=-cr p z a:=by unfold my cr;grind
theorem xE(A B:Int)(p z:Pt):ln A B (my p z)=2*ln A B p-ln A B z:=by unfold my ln;grind
theorem WC(j:D.Ok)(h:Tg D x y)(C:cr (D.P0 x) (D.P0 (U x)) (D.P0 y)<=0)(E:0<=cr (D.P0 y) (D.P0 (U y)) (D.P0 x)):
  (∀z∈D.V,0<=cr (D.P0 x) (D.P0 y) z)/\(∀z∈D.V,¬dP (D.P0 x) z (D.P0 y)):=by
 have n:=j.sR _ (j.pR.vt y h.ay);have l:=j.sL _ (j.pL.vt x h.ax);have i:=D.fU;have F:∀z∈D.V,0<=cr (D.P0 x) (D.P0 y) z:=by
  intro z a;rcases fM.mp a with a|a
  .rcases eX (D.f z) (D.f (D.P0 x)) with c|c|c
   .have r:=h.dL ⟨z,a,c⟩;have:=xw (A:=D.A) (B:=D.B) (p:=D.P0 x) (u:=my (D.P0 x) z) (w:=my (D.P0 x) (D.P0 (U x))) (q:=D.P0 y) (by rw[xE];exact Bu ((i _ _).mp c)) (by rw[xE];exact Bu ((i _ _).mp r)) ((i (D.P0 x) (D.P0 y)).mp (sS n l))
     (by rw[En,rT,bO];exact(ip 0x40000004200a028 0x8421).2 (h.ox z a)) (by rw[rT];exact o8 C)
    rw[rT,bO] at this;exact QG this
   .rw[j.fi _ _ (Md.fh a) (Md.fh (j.pL.vt x h.ax)) c];unfold cr;simp_all
   .exact cn (h.iL z a c)
  .rcases eX (D.f z) (D.f (D.P0 y)) with c|c|c
   .exact cn (h.iR z a c)
   .simp only[j.fi _ _ (Md.inR a) (Md.inR (j.pR.vt y h.ay)) c,dI];lia
   .have r:=h.dR ⟨z,a,c⟩;have G:=(i _ _).mp c;have H:=(i _ _).mp r;have o:=(i (D.P0 x) (D.P0 y)).mp (sS n l);have:=xw (A:=D.A) (B:=D.B) (p:=D.P0 y) (u:=my (D.P0 y) (D.P0 x)) (w:=D.P0 (U y)) (q:=z) (by simp only[xE];exact Bu o) H G
     (by rw[rT,bO];exact Qs E) (h.oy z a)
    rw[rT,bO] at this;rw[<-bW (D.P0 x)];exact QG this
 refine⟨F,λz a m=>?_⟩;have I:∀g:Int×Int,(g.1*z.1+g.2*z.2-(g.1*(D.P0 x).1+g.2*(D.P0 x).2))*dt (D.P0 x) (D.P0 y) (D.P0 y)=(g.1*(D.P0 y).1+g.2*(D.P0 y).2-(g.1*(D.P0 x).1+g.2*(D.P0 x).2))*dt (D.P0 x) (D.P0 y) z+(g.2*((D.P0 y).1-(D.P0 x).1)-g.1*((D.P0 y).2-(D.P0 x).2))*cr (D.P0 x) (D.P0 y) z:=by intro g;delta dt cr;grind
 have t:=I (D.A,D.B);have J:(ln D.A D.B z-ln D.A D.B (D.P0 x))*dt (D.P0 x) (D.P0 y) (D.P0 y)=(ln D.A D.B (D.P0 y)-ln D.A D.B (D.P0 x))*dt (D.P0 x) (D.P0 y) z:=by simp only[(m.1),JL,JG] at t;exact t
 have v:D.P0 x≠D.P0 y:=by intro c;rw[c] at l;exact xP n l
 have L:0<dt (D.P0 x) (D.P0 y) z:=by
  have s:dt z (D.P0 x) (D.P0 y)=dt (D.P0 x) z z-dt (D.P0 x) (D.P0 y) z:=by unfold dt;grind
  have:=m.2;have:0<=dt (D.P0 x) z z:=by unfold dt;have:=ir (z.1-(D.P0 x).1);have:=ir (z.2-(D.P0 x).2);exact uZ ‹_› this
  exact PJ s ‹_› this
 have M:0<dt (D.P0 x) (D.P0 y) (D.P0 y)-dt (D.P0 x) (D.P0 y) z:=by
  have s:dt z (D.P0 x) (D.P0 y)=dt (D.P0 y) z z-dt (D.P0 x) (D.P0 y) (D.P0 y)+dt (D.P0 x) (D.P0 y) z:=by unfold dt;grind
  have:=m.2;have:0<=dt (D.P0 y) z z:=by unfold dt;have:=ir (z.1-(D.P0 y).1);have:=ir (z.2-(D.P0 y).2);exact uZ ‹_› this
  exact(gj 0x4a06008d60085000a8684a163128a8 0x20090011842008025).2 s ‹_› this
 have o:=(i (D.P0 x) (D.P0 y)).mp (sS n l);have N:ln D.A D.B (D.P0 x)<ln D.A D.B z:=by have:=bP (o7 o) L;have:=dD (x:=dt (D.P0 x) (D.P0 y) (D.P0 y)) (y:=ln D.A D.B z-ln D.A D.B (D.P0 x)) (by simp only[gN];exact QH J this) (dO v);exact GH this
 have P:ln D.A D.B z<ln D.A D.B (D.P0 y):=by
  have:=bP (o7 o) M;have Q:dt (D.P0 x) (D.P0 y) (D.P0 y)*(ln D.A D.B (D.P0 y)-ln D.A D.B z)=(ln D.A D.B (D.P0 y)-ln D.A D.B (D.P0 x))*(dt (D.P0 x) (D.P0 y) (D.P0 y)-dt (D.P0 x) (D.P0 y) z):=by grind
  have:=dD (x:=dt (D.P0 x) (D.P0 y) (D.P0 y)) (y:=ln D.A D.B (D.P0 y)-ln D.A D.B z) (vh this Q) (dO v);exact GH this
 rcases fM.mp a with a|a
 .have:=h.iL z a ((i _ _).mpr N);exact QI (m.1) this
 .have:=h.iR z a ((i _ _).mpr P);exact QI (m.1) this
theorem abK(g:D.Ok)(F:Tg D x y)(h1:cr (D.P0 x) (D.P0 (U x)) (D.P0 y)<=0)(h2:0<=cr (D.P0 y) (D.P0 (U y)) (D.P0 x)):
  Mg D (D.n0+4) (bY.conn D.dS D.n0 (U y) x) (bu D.P0 D.n0 (D.P0 y) (D.P0 x)) (λi=>(D.aL i\/D.aR i)\/i=D.n0\/i=D.n0+2) D.n0:=by
 obtain⟨G,nb⟩:=WC g F h1 h2;have l:=g.pL.union g.pR (f:=D.f) ⟨D.A,D.B,D.C,λv=>rfl⟩ g.sL g.sR;have J:=g.qe;have h4:=J.n4;have R:=gE h4;have I:D.aL x\/D.aR x:= .inl F.ax;have S:D.aL y\/D.aR y:= .inr F.ay;have a3:=l.lt y S;have a9:=l.op y S;have Y:=g.pL.vt x F.ax;have Z:=g.pR.vt y F.ay;have a0:D.P0 y≠D.P0 x:=λu=>g.fQ Y (u▸Z);have b0:D.P0 (U (U y))=D.P0 y:=by rw[cg]
 have ju:∀d,(D.aL d\/D.aR d)->D.P0 d=D.P0 y->D.P0 (U d)≠D.P0 x:=by
  rintro d (hk|hk) e1 e2
  .exact g.fQ (e1▸g.pL.vt d hk) Z
  .exact g.fQ Y (e2▸g.pR.vo hk)
 have a5:∀u∈D.V,¬dP (D.P0 y) u (D.P0 x):=λu hz s=>nb u hz s.symm;have a7:∀d,(D.aL d\/D.aR d)->D.P0 d=D.P0 y->Un (D.P0 y) (D.P0 (U d)) (D.P0 x):=by
  intro d hk e;have M:=l.ne hk;replace M:=(e)▸M;refine⟨M,a0,λr=>?_⟩;rcases sX M a0 r with n|n|n
  .exact ju d hk e n
  .exact a5 _ (l.vo hk) n
  .rw[<-e] at n;exact l.sg d _ hk (Md.fh Y) n
 have a4:∀d,(D.aL d\/D.aR d)->D.P0 d=D.P0 x->Un (D.P0 x) (D.P0 (U d)) (D.P0 y):=by
  intro d hk e;have M:=l.ne hk;replace M:=(e)▸M;refine⟨M,a0.symm,λr=>?_⟩;rcases sX M a0.symm r with n|n|n
  .exact ju (U d) (l.op d hk) n (by rw[cg];exact e)
  .exact a5 _ (l.vo hk) n.symm
  .rw[<-e] at n;exact l.sg d _ hk (Md.inR Z) n
 have a8:∀h o s E:Pt,Un h o s->Un h o E->Un h s E->cr h o s=0->cr h o E=0->False:=by
  intro h o s E t u2 u3 H z2;have e1:dt h s E*dt h o o=dt h o s*dt h o E+cr h o s*cr h o E:=by delta cr dt;grind
  have e2:cr h s E*dt h o o=dt h o s*cr h o E-cr h o s*dt h o E:=by delta cr dt;grind
  rw[H,z2] at e2;rw[H] at e1;have:=mH (oN t.ha t.hb H t.hr) (oN u2.ha u2.hb z2 u2.hr);refine u3.hr ⟨?_,?_⟩
  .exact mz (x:=dt h o o) (by rw[gN];exact(dJ 0x141540224051a0a8 0x4210800100461).2 e2) (o2 (dO t.ha))
  .exact dD (x:=dt h o o) (by rw[gN];exact GI e1 this) (dO t.ha)
 have wv:aZ D.dS (U (U y))=U (U y)\/bM (D.P0 (U (U y))) (D.P0 (U (aZ D.dS (U (U y))))) (D.P0 x) (D.P0 (U y)):=by
  rw[cg];have ad:=l.bk y S;have ed:=J.gq a3;by_cases n:aZ D.dS y=y
  .exact .inl n
  .right;have pd:D.P0 (aZ D.dS y)=D.P0 y:=by have:=l.dk ad;rw[ed] at this;exact this.symm
   have t:=l.un ad S pd.symm n;replace t:=(pd)▸t;have u2:=a7 _ ad pd;have u3:=a7 _ S rfl;rcases wW u2 t u3.symm with s|s
   .exact s
   .exfalso;have dR:=g.pR.vo (g.pR.bk y F.ay);have c1:=G _ (Md.inR dR);have c2:=G _ (Md.inR (g.pR.vo F.ay));have c3:=F.oy _ dR;rw[<-bW] at c1 c2;have sw:=bO (D.P0 y) (D.P0 (U y)) (D.P0 (U (aZ D.dS y)));unfold bM cls at s;by_cases H:cr (D.P0 y) (D.P0 (U (aZ D.dS y))) (D.P0 (U y))=0
    .by_cases z2:cr (D.P0 y) (D.P0 (U (aZ D.dS y))) (D.P0 x)=0
     .exact a8 _ _ _ _ t u2 u3 H z2
     .grind
    .grind
 have ww:D.dS x=x\/bM (D.P0 x) (D.P0 (U x)) (D.P0 (U (U y))) (D.P0 (U (D.dS x))):=by
  rw[cg];by_cases n:D.dS x=x
  .exact .inl n
  .right;have ao:=l.jI I;have po:=l.dk I;have t:=l.un I ao po (λu=>n u.symm);rcases wW (a4 _ I rfl) t (a4 _ ao po).symm with s|s
   .exact s
   .exfalso;have oL:=g.pL.vo (g.pL.jI F.ax);have c1:=G _ (Md.fh oL);have c3:=F.ox _ oL;have s1:=bO (D.P0 x) (D.P0 y) (D.P0 (U (D.dS x)));unfold bM cls at s;by_cases H:cr (D.P0 x) (D.P0 (U x)) (D.P0 (U (D.dS x)))=0
    .by_cases z2:cr (D.P0 x) (D.P0 (U x)) (D.P0 y)=0
     .exact a8 _ _ _ _ t (a4 _ I rfl) (a4 _ ao po) H z2
     .have:=(λu w=>Hi (p:=D.P0 x) (a:=D.P0 (U x)) (b:=D.P0 y) (c:=D.P0 (U (D.dS x))) t.ha t.hb u t.hr w) H ((cV 0x50300505521204150900428 0x8026004411000108421).2 (G _ (Md.fh (g.pL.vo F.ax))) (bO (D.P0 x) (D.P0 y) (D.P0 (U x))) z2);exact GC c1 this
    .lia
 have b1:∀d,(D.aL d\/D.aR d)->¬cL (D.P0 d) (D.P0 (U d)) (D.P0 (U (U y))) (D.P0 x):=by rw[cg];intro d hk E;have c2:=E.2;rw[gC,gC (D.P0 x)] at c2;unfold Sep at c2;exact(cV 0x2d200850800428480011802800cc00a40340001198e8 0x4410800118441).2 c2 (G _ (l.vt d hk)) (G _ (l.vo hk))
 have L:=l.link J (i:=U y) (j:=x) a9 I (by rw[cg];exact a0) (by rw[cg];exact a5) (by rw[cg];exact ju) b1 wv ww;rw[b0] at L;have hP:∀i<D.n0,bu D.P0 D.n0 (D.P0 y) (D.P0 x) i=D.P0 i:=λi m=>by unfold bu;rw[if_neg (sN m),if_neg (qG m)]
 have b2:∀i<D.n0,bu D.P0 D.n0 (D.P0 y) (D.P0 x) (U i)=D.P0 (U i):=λi m=>hP _ (J.bK m);have N:bu D.P0 D.n0 (D.P0 y) (D.P0 x) D.n0=D.P0 y:=by unfold bu;rw[if_pos rfl]
 have P:bu D.P0 D.n0 (D.P0 y) (D.P0 x) (D.n0+2)=D.P0 x:=by unfold bu;rw[if_neg (oG),if_pos rfl]
 have dl:Dl (λu=>u∈D.V) (D.P0 x) (D.P0 y):=⟨nb,λu E hz hc k1 k2=>by have:=G u hz;exact Pw k2 this⟩;refine⟨L,J.conn (J.bK a3) (l.lt x I) (by rw[eF];exact l.ev y S) (l.ev x I),afO,hP,λi m h0=>?_,λi m hd=> .inl m,λi m h0=>?_, .inr (.inl rfl), .inr (.inl rfl),bT _,?_,?_,?_,λi m h0=>?_,λh n hp hq hd hh=>?_,λu a6 ez n1 n2=>?_⟩
 .rcases m with m|m|m
  .exact m
  .exact(cJ h0 m).elim
  .exact((dz 0x58829120884a048 0x8822).2 h0 m).elim
 .have:i=D.n0\/i=U D.n0:=by
   rw[R];rcases m with m|m
   .have:=l.lt i m;exact Py h0 this
   .exact m
  refine⟨D.P0 x,D.P0 y,Y,Z,?_,this.imp id Or.inl⟩;rcases this with rfl|rfl
  .exact .inr ⟨N,by rw[R];exact P⟩
  .exact .inl ⟨by rw[R];exact P,by rw[cg];exact N⟩
 .simp only[N];exact Z
 .simp only[R,P];exact Y
 .simp only[R,N,P];exact dl
 .have:i=D.n0\/i=D.n0+2:=by
   rcases m with m|m
   .have:=l.lt i m;exact Py h0 this
   .exact m
  rcases this with rfl|rfl
  .simp only[R,N,P];exact dl.symm
  .simp only[(jy h4),N,P];exact dl
 .simp only[R,N,P] at hh;have sq:=g.sR n hq;have d:=mt g.uL.mpr hh;have H:=mz (x:=D.f n) ((cV 0x14152008508004284a04008d48 0x8023004610800100461).2 d (dF (cn sq) (G h (Md.fh hp))) (dF (xM (g.sL h hp)) (G n (Md.inR hq)))) (o2 sq);have z2:=mz (x:=-D.f h) ((cV 0x14150008509004284244008d48 0x8024004610800100441).2 d (dF (cn sq) (G h (Md.fh hp))) (dF (xM (g.sL h hp)) (G n (Md.inR hq)))) (Pz (g.sL h hp));exact .inl ⟨D.n0+2, .inr (.inr rfl),by rw[P];exact(g.same Y Z hp hq nb hd.1 H z2).1.symm,by simp only[(jy h4),N];exact(g.same Y Z hp hq nb hd.1 H z2).2.symm⟩
 .have ad:=g.pR.bk y F.ay;have pd:D.P0 (aZ D.dS y)=D.P0 y:=by have:=g.pR.dk ad;rw[J.gq a3] at this;exact this.symm
  rw[Al J (J.bK a3) (l.lt x I) (by rw[eF];exact l.ev y S) (l.ev x I) (o0 a6) ez (by rw[cg];intro w;exact a0 (by simp only[<-pd,w])),if_neg (sN a6),if_neg (qG a6),if_neg,if_neg]
  .rw[cg];intro w;exact n2 (by simp only[w];exact ad)
  .intro w;exact n1 (by simp only[w];exact F.ax)
def lx(a b:Pt):Prop:=a.1<b.1\/(a.1=b.1/\a.2<b.2)
structure gB(n:Nat)(on:Nat->Nat)(P:Nat->Pt)(al:Nat->Prop)(V:List Pt)(a b:Nat):Prop where
 part:Part n on P al V
 cZ:iW P al V
 fJ:al a
 fA:al b
 qA:∀z∈V,z=P a\/lx (P a) z
 kv:∀z∈V,z=P b\/lx z (P b)
 AZ:∀z∈V,0<=cr (P a) (P (U a)) z
 BK:∀z∈V,cr (P b) (P (U b)) z<=0
theorem jN(h:lx a b):a≠b:=by rintro rfl;unfold lx at h;exact(cV 0xb4a468414c840ce8 1).2 h
theorem Xl:∀V:List Pt,∃M:Int,0<=M/\∀z∈V,-M<=z.2/\z.2<=M
 |[]=>⟨0,kE _,λz h=>by cases h⟩
 |c::V=>by
  obtain⟨M,h0,h⟩:=Xl V;refine⟨M+c.2.natAbs,ag8 h0,λz b=>?_⟩;rcases cP.mp b with rfl|b
  .exact(afg 0x20c81242941902004c8004284a1a8 0x4c108420094010044000401280200882000401280200880008027084012802008821).2 rfl h0
  .have:=h z b;exact(afh 0x20c81282a41902004c850548004c84a1a8 0x2008c01005e000401200200bc20).2 rfl this
noncomputable def md(q:Qd)(a b:Nat->Prop)(c d:List Pt)(K:Int)(m:Pt):Md:=⟨q.n,q.on,q.P,a,b,c,d,2*K,2,-(2*K*m.1)-2*m.2-1⟩
theorem Bd(q:Qd)(a b:Nat->Prop)(c d:List Pt)(K:Int)(m z:Pt):(md q a b c d K m).f z=2*(K*(z.1-m.1)+(z.2-m.2))-1:=by show 2*K*z.1+2*z.2+(-(2*K*m.1)-2*m.2-1)=_;grind
theorem afx{K a b c d:Int}(e:0<K)(g:d-b<K)(f:b-d<K)(h:a<c\/(a=c/\b<d)):K*a+b<K*c+d:=by
 rcases h with h|⟨rfl,h⟩
 .have:=JK (h) (cn e);rw[Zf] at this;exact(qy 0xb5092810d4c095020a18b48c68 0x11842008421).2 f this
 .exact ag9 h
theorem aiK{q:Qd}{p s:Nat->Prop}{g i:List Pt}{F j G H:Nat}(Q:QE q.n q.on)(u:gB q.n q.on q.P p g F j)(C:gB q.n q.on q.P s i G H)(I:∀l r,l∈g->r∈i->lx l r):
  ∃K,(md q p s g i K (q.P j)).Ok/\∀a b,a∈g++i->b∈g++i->lx a b->(md q p s g i K (q.P j)).f a<(md q p s g i K (q.P j)).f b:=by
 obtain⟨m,O,hb⟩:=Xl (g++i);have y:=u.part.vt j u.fA;have v:∀a b,a∈g++i->b∈g++i->lx a b->(md q p s g i (2*m+1) (q.P j)).f a<(md q p s g i (2*m+1) (q.P j)).f b:=by intro a b D A h;simp only[Bd,Bd];have:=afx (K:=2*m+1) (a:=a.1-(q.P j).1) (c:=b.1-(q.P j).1) (b:=a.2-(q.P j).2) (d:=b.2-(q.P j).2) ((cV 0x21408820046848528004c8 0x10882108423).2 (hb b A)) ((gj 0x85622092a1a50318d680a1600990b5054b004c8 0x1004c008421).2 (hb a D) (hb b A)) ((gj 0x85622092a1a50318d6a0a9600990b4050b004c8 0x10048008c21).2 (hb a D) (hb b A)) (by unfold lx at h;exact(qz 0x31a362c634a86940ca64a86940c676ac6a414ca40ce8 0x220840008c2100020088210002108401).2 h);exact(qy 0x10a983588441842a48d02110635306b1292340868 0x10421).2 this
 have B:(md q p s g i (2*m+1) (q.P j)).f (q.P j)=-1:=by simp only[Bd,JQ,JQ];simp
 refine⟨2*m+1,⟨Q,u.part,u.cZ,C.part,C.cZ,λk o=>?_,λk o=>?_,?_,λk t o E x=>?_⟩,v⟩
 .rcases u.kv k o with x|h
  .simp only[x,B];exact Int.sign_eq_neg_one_iff_neg.mp rfl
  .have:=v k _ (iT _ o) (iT _ y) h;exact(cV 0x140d281a021024a8 0x11842008421).2 B this
 .have:=v _ k (iT _ y) (lC _ o) (I _ _ y o);rw[B] at this;simp only[Bd] at this⊢;exact(dJ 0x85491a04220c011842a48d021106108068 0x20046100021).2 this
 .show 0<2*(2*m+1)*(2*(2*m+1))+2*2;have:=ir (2*(2*m+1));exact aha this
 .have J:lx k t\/k=t\/lx t k:=by
   unfold lx;by_cases L:k.1=t.1
   .by_cases N:k.2=t.2
    .exact .inr (.inl (kL L N))
    .lia
   .lia
  rcases J with h|h|h
  .have:=v k t o E h;exact((cV 0xb4a0684a0a8 0x8023).2 x this).elim
  .exact h
  .have:=v t k E o h;exact((cV 0xb424684a0a8 0x8421).2 x this).elim
theorem Ep(h:iN k q b q'):q.n<=q'.n/\∀i<q.n,q'.P i=q.P i:=by
 have st:∀{q b q' c},ru q b q' c->q.n<=q'.n/\∀i<q.n,q'.P i=q.P i:=by
  intro q b q' c ⟨g,f2,j,m,l,r,_,_,h⟩;cases e:pick q.P b l r with
  |none=>simp only[e] at h;obtain⟨rfl,_⟩:=h;exact⟨bT _,λf f=>rfl⟩
  |some o=>simp only[e] at h;obtain⟨rfl,_⟩:=h;refine⟨fF _ _,λi a=>?_⟩;show bu q.P q.n _ _ i=_;unfold bu;rw[if_neg (sN a),if_neg (qG a)]
 induction h with
 |stop h=>exact st h
 |step h _ d=>exact⟨eT (st h).1 d.1,λi a=>(d.2 i (fj a (st h).1)).trans ((st h).2 i a)⟩
theorem aft{q:Qd}{o p:Nat->Prop}{j m:List Pt}{F g t G:Nat}{C:Prop}(Q:QE q.n q.on)(c:gB q.n q.on q.P o j F g)(d:gB q.n q.on q.P p m t G)(H:∀l r,l∈j->r∈m->lx l r)
  (f:∀K k x y B (q':Qd) v D,(md q o p j m K (q.P g)).Ok->(∀a b,a∈j++m->b∈j++m->lx a b->(md q o p j m K (q.P g)).f a<(md q o p j m K (q.P g)).f b)->iu q.P q.on k g t x y->Tg (md q o p j m K (q.P g)) x y->
   (∀z,z∈j++m->0<=cr (q.P x) (q.P y) z)->iN B (q.conn (U y) x) q.n q'->Mg (md q o p j m K (q.P g)) q'.n q'.on q'.P D v->(∀z,z∈j++m->cr (q'.P (U v)) (q'.P v) z<=0)->q'.P q.n=q.P y->q'.P (q.n+2)=q.P x->C):C:=by
 obtain⟨K,O,mono⟩:=aiK Q c d H;have I:Tg (md q o p j m K (q.P g)) g t:=by
  refine⟨c.fA,d.fJ,c.BK,d.AZ,λz A h=>?_,λz A h=>?_,λJ=>?_,λJ=>?_⟩
  .exfalso;rcases c.kv z A with u|u
   .rw[u] at h;exact zq _ h
   .have:=mono z (q.P g) (iT _ A) (iT _ (c.part.vt g c.fA)) u;exact absurd (zt h this) (zq _)
  .exfalso;rcases d.qA z A with u|u
   .rw[u] at h;exact zq _ h
   .have:=mono (q.P t) z (lC _ (d.part.vt t d.fJ)) (lC _ A) u;exact absurd (zt h this) (zq _)
  .exact mono _ _ (iT _ (c.part.vo c.fA)) (iT _ (c.part.vt g c.fA)) ((c.kv _ (c.part.vo c.fA)).resolve_left λz=>(c.part.ne c.fA) z.symm)
  .exact mono _ _ (lC _ (d.part.vt t d.fJ)) (lC _ (d.part.vo d.fJ)) ((d.qA _ (d.part.vo d.fJ)).resolve_left λz=>(d.part.ne d.fJ) z.symm)
 obtain⟨k,x,y,fr,T,h1,h2⟩:=akq O _ g t (bT _) I;have L:=abK O T h1 h2;have E:q.P (U (U y))=q.P y:=by rw[cg]
 have N:Mg (md q o p j m K (q.P g)) (q.conn (U y) x).n (q.conn (U y) x).on (q.conn (U y) x).P (λs=>(o s\/p s)\/s=q.n\/s=q.n+2) q.n:=by show Mg _ (q.n+4) (bY.conn q.on q.n (U y) x) (bu q.P q.n (q.P (U (U y))) (q.P x)) (λs=>(o s\/p s)\/s=q.n\/s=q.n+2) q.n;exact E▸L
 obtain⟨B,q',v,D,r,R,up⟩:=ajW O _ _ _ _ (bT _) N;refine f K k x y B q' v D O mono fr T (WC O T h1 h2).1 r R up ?_ ?_
 .rw[((Ep r).2) q.n (rF (by decide))];show bu q.P q.n (q.P (U (U y))) (q.P x) q.n=_;unfold bu;rw[if_pos rfl,E]
 .rw[((Ep r).2) (q.n+2) (qH)];show bu q.P q.n (q.P (U (U y))) (q.P x) (q.n+2)=_;unfold bu;rw[if_neg (by exact oG),if_pos rfl]
structure Dg(P:Nat->Pt)(al:Nat->Prop)(V:List Pt):Prop where
 m1:∀i,al i->Dl (λz=>z∈V) (P i) (P (U i))
 m2:∀p q,p∈V->q∈V->p≠q->Dl (λz=>z∈V) p q->(Ln P al (p) q)\/Lc P al p q
theorem MO(f:V p)(g:V q)(d:Dl V x y)(h:0<cr p q x)(i:cr p q y<0)(c:cL x y p q):0<=ic y p q x:=by
 have j:ic p x y q=-ic y p q x:=by unfold ic;grind
 have l:ic q x y p=ic y p q x:=by unfold ic;grind
 have k:cr x y q-cr x y p=cr p q x-cr p q y:=by unfold cr;grind
 have a:=c.1;have b:cr x y p<0/\0<cr x y q:=by unfold Sep at a;exact(gj 0x2401180281992008c0140cc00a468004663a16a1a1232a00158d0a00468 0x200880008821080013842008028004210802308801).2 h i k a
 have:=d.2 p q f g b.2 b.1;exact aht j this
theorem Ez(e:V p)(f:V q)(d:Dl V x y)(c:cL x y p q):(0<cr p q x/\cr p q y<0/\0<=ic y p q x)\/(0<cr p q y/\cr p q x<0/\0<=ic x p q y):=by
 rcases c.2 with⟨a,b⟩|⟨a,b⟩
 .exact .inl ⟨a,b,MO e f d a b c⟩
 .exact .inr ⟨b,a,MO e f d.symm b a c.flip⟩
theorem VB(b:dK V p q a)(j:0<cr p q a)(k:V x)(l:V y)(c:0<cr p q x)(d:cr p q y<0)(h:0<=ic y p q x):ic x p q a=0/\ic y p q a=0:=by
 have e:=dF (sO (b x k) (eN x p q a)) (xM d);have f:=dF (sO (b y l) (eN y p q a)) (cn c);have g:=dF ((eN y p q x)▸h) (cn j);have i:(dt x p q*cr p q a-dt a p q*cr p q x)*(-cr p q y)+(dt y p q*cr p q a-dt a p q*cr p q y)*cr p q x+(dt x p q*cr p q y-dt y p q*cr p q x)*cr p q a=0:=by grind
 have m:(-cr p q y)*(dt x p q*cr p q a-dt a p q*cr p q x)=0:=by rw[gN];exact(dJ 0x5050054940845428010a1200850800428 0x1004c0080260042108001004c1).2 e f g i
 have z2:cr p q x*(dt y p q*cr p q a-dt a p q*cr p q y)=0:=by rw[gN];exact(dJ 0x5050054848845428010a1000850900428 0x1004c0080270042108001004a1).2 e f g i
 exact(qz 0x292802829801634654002a58ca86b0692a16a1a0a8 0x118420094210002008c01004e100025084013842000401280200a421).2 (eN x p q a) (eN y p q a) (mz m (Pz d)) (mz z2 (o2 c))
theorem jb(a b:Pt):cr a b a=0:=by unfold cr;grind
theorem Dg.Wz(G:Dg P al V)(l:p∈V)(m:q∈V)(o:p≠q)(r:∀z∈V,¬dP p z q)(st:∀x y,x∈V->y∈V->0<cr p q x->cr p q y<0->ic y p q x<0)(f:∀i,al i->P i∈V)(n:∀i,al i->al (U i)):
  Ln P al (p) q:=by
 rcases G.m2 p q l m o ⟨r,λz g s t a b=>cn (st g z t s a b)⟩ with h|⟨d,e,g⟩
 .exact h
 .exfalso;rcases Ez l m (G.m1 d e) g with⟨a,b,j⟩|⟨a,b,j⟩
  .have:=st _ _ (f d e) (f _ (n d e)) a b;exact GC j this
  .have:=st _ _ (f _ (n d e)) (f d e) a b;exact GC j this
theorem HL(A:Part n on P al V)(G:Dg P al V)(a6:∀p∈V,∃q∈V,p≠q):iW P al V:=by
 refine⟨λp hp=>?_,λf s T Y hc=>?_,λN M ha hb a7 u B=>?_⟩
 .-- the nearest point
  obtain⟨q,hq,sq,near⟩:=uJ (λs=>p≠s) (λm x=>dt p x x<=dt p m m) (λI I=>kE _) (λN M I I=>by exact PH) (λN M C I I I u B=>JI B u) V (a6 p hp);have a3:∀s∈V,s≠p->s≠q->0<dt s p q:=by
   intro s Y z1 z2;have e:2*dt s p q=dt p s s-dt p q q+dt q s s:=by unfold dt;grind
   exact(gj 0x20011ac011a12a0a16a48c48110a8 0x20090020842009023).2 e (near s Y (λJ=>z1 J.symm)) (dO (λJ=>z2 J.symm:q≠s))
  obtain⟨f,u,B,_⟩:=G.Wz hp hq sq (λs Y M=>by
    have h:=M.2;have B:=M.1;by_cases z1:s=p
    .rw[z1] at h;unfold dt at h;grind
    .by_cases z2:s=q
     .rw[z2] at h;unfold dt at h;grind
     .have:=a3 s Y z1 z2;exact xQ h this) (λx m F H k1 Z=>by
    have x1:x≠p:=by rintro rfl;rw[jb] at k1;omega
    have x2:x≠q:=by rintro rfl;rw[dI] at k1;omega
    have y1:m≠p:=by rintro rfl;rw[jb] at Z;lia
    have y2:m≠q:=by rintro rfl;rw[dI] at Z;lia
    have:=fy (a3 x F x1 x2) Z;have:=bP (a3 m H y1 y2) k1;exact(dJ 0x50350023400291a1491a0a8 0x20090011842008c21).2 (eN m p q x) ‹_› this) A.vt A.op
  exact⟨f,u,B⟩
 .-- the triangle to the left
  obtain⟨C,vc,cD,hb⟩:=Np (l:=P f) (r:=P (U f)) ⟨s,Y,hc⟩;have em:=dK.Vy (G.m1 f T) vc cD hb;have va:=A.vt f T;have vb:=A.vo T;have O:∀g,0<cr (P f) (P (U f)) g->ic g (P f) (P (U f)) C=0->dK (λs=>s∈V) (P f) (P (U f)) g:=λg u B=>em.to cD u B;have a5:∀g,0<cr (P f) (P (U f)) g->ic g (P f) (P (U f)) C=0->Dl (λs=>s∈V) (P f) g/\Dl (λs=>s∈V) (P (U f)) g:=λg u B=>by
   have r1:0<cr (P (U f)) g (P f):=by rw[bW];exact u
   have r2:0<cr g (P f) (P (U f)):=by rw[bW];exact r1
   exact⟨(Dl.nf (O g u B).bp.bp r2).symm,Dl.nf (O g u B).bp r1⟩
  have a4:∀g,0<cr (P f) (P (U f)) g->P f≠g/\P (U f)≠g:=λg h=>⟨by rintro rfl;rw[jb] at h;omega,by rintro rfl;rw[dI] at h;omega⟩;have ex:∃g∈V,(0<cr (P f) (P (U f)) g/\ic g (P f) (P (U f)) C=0/\Ln P al (P f) g):=by
   obtain⟨g,S,⟨E,L⟩,a8⟩:=uJ (λs=>0<cr (P f) (P (U f)) s/\ic s (P f) (P (U f)) C=0) (λm x=>0<=cr (P f) m x) (λN I=>by rw[dI];lia) (λN M I I=>by have:=bO (P f) N M;lia)
    (λx m J F H hw u B=>by exact uW (x:=cr (P f) (P (U f)) m) (QT (xu (P f) (P (U f)) x m J) (dF (cn F.1) B) (dF (cn hw.1) u)) H.1) V ⟨C,vc,cD,by simp only[FE]⟩
   refine⟨g,S,E,L,?_⟩;rcases G.m2 _ _ va S (a4 g E).1 (a5 g E L).1 with h|⟨o,D,Q⟩
   .exact h
   .exfalso;have r2:0<cr g (P f) (P (U f)):=by rw[bW,bW];exact E
    have a0:∀x m,x∈V->m∈V->0<cr g (P f) x->cr g (P f) m<0->0<=ic m g (P f) x->False:=by
     intro x m vx vy F H h;obtain⟨o1,o2⟩:=VB ((O g E L).bp.bp) r2 vx vy F H h;have s1:0<cr (P f) g m:=by have:=gC g (P f) m;exact xU H this
     have o3:ic m (P f) (P (U f)) g=0:=by simp only[<-o2];unfold ic;grind
     have e:ic m (P f) (P (U f)) g+(cr (P f) (P (U f)) g*dt (P f) m m-cr (P f) (P (U f)) m*dt (P f) g g+cr (P f) g m*dt (P f) (P (U f)) (P (U f)))=0:=by delta ic cr dt;grind
     have a9:P f≠m:=by rintro rfl;rw[dI] at H;lia
     have up:=dD (x:=dt (P f) g g) (by rw[gN];exact Qx o3 e (bP E (dO a9)) (bP s1 (dO (A.ne T)))) (dO (a4 g E).1);have o4:ic m (P f) (P (U f)) C=0:=by
      have f1:=em m vy;have f2:=O g E L _ vc;have t:cr (P f) (P (U f)) g*ic m (P f) (P (U f)) C=cr (P f) (P (U f)) C*ic m (P f) (P (U f)) g+cr (P f) (P (U f)) m*ic g (P f) (P (U f)) C:=by simp only[(eN m (P f) (P (U f)) C),(eN m (P f) (P (U f)) g),(eN g (P f) (P (U f)) C)];grind
      simp only[o3,L] at t;exact mz (t.trans (by simp)) (by lia)
     have:=a8 m vy ⟨up,o4⟩;have:=bO (P f) g m;exact(cV 0x5a0092a1200850800468 0x10048008024).2 s1 ‹_› this
    rcases Ez S va (G.m1 o D) Q.rZ with⟨u,B,R⟩|⟨u,B,R⟩
    .exact a0 _ _ (A.vt o D) (A.vo D) u B R
    .exact a0 _ _ (A.vo D) (A.vt o D) u B R
  obtain⟨g,S,⟨E,L,j,aj,pj,ej⟩,first⟩:=uJ (λs=>0<cr (P f) (P (U f)) s/\ic s (P f) (P (U f)) C=0/\Ln P al (P f) s) (λm x=>0<=cr (P f) x m) (λN I=>by rw[dI];lia) (λN M I I=>by have:=bO (P f) N M;grind)
    (λx m J F H hw u B=>by exact uW (x:=cr (P f) (P (U f)) m) (QT (xu (P f) (P (U f)) J m x) (dF (cn hw.1) u) (dF (cn F.1) B)) H.1) V ex
  have fin:Ln P al (P (U f)) g:=by
   rcases G.m2 _ _ vb S (a4 g E).2 (a5 g E L).2 with h|⟨o,D,Q⟩
   .exact h
   .exfalso;have r1:0<cr (P (U f)) g (P f):=by rw[bW];exact E
    have a0:∀o,al o->cL (P o) (P (U o)) (P (U f)) g->0<cr (P (U f)) g (P o)->cr (P (U f)) g (P (U o))<0->0<=ic (P (U o)) (P (U f)) g (P o)->False:=by
     intro o D Q F H h;obtain⟨o1,o2⟩:=VB ((O g E L).bp) r1 (A.vt o D) (A.vo D) F H h;rcases MU (l:=P f) (r:=P (U f)) (c:=g) E (by
       by_cases q:P o=P f
       .exact .inl q
       .right;by_cases q1:cr (P f) (P (U f)) (P o)<0
        .exact .inl q1
        .by_cases q2:cr g (P f) (P o)<0
         .exact .inr q2
         .exact(zY (O g E L) E (A.vt o D) q (by intro J;rw[J,jb] at F;omega) (by intro J;rw[J,dI] at F;omega) (by lia) (by lia) (by lia)).elim) Q.rZ F with q|q|q|q
     .exact A.pl o f D T q
     .have:=A.pl o j D aj;simp only[pj,ej] at this;exact this q
     .exact A.sg o (P f) D va q
     .obtain⟨q0,q1,q2⟩:=q;have o3:ic (P (U o)) (P f) (P (U f)) g=0:=by simp only[<-o2];unfold ic;grind
      have o4:ic (P (U o)) (P f) (P (U f)) C=0:=by
       have t:cr (P f) (P (U f)) g*ic (P (U o)) (P f) (P (U f)) C=cr (P f) (P (U f)) C*ic (P (U o)) (P f) (P (U f)) g+cr (P f) (P (U f)) (P (U o))*ic g (P f) (P (U f)) C:=by simp only[(eN (P (U o)) (P f) (P (U f)) C),(eN (P (U o)) (P f) (P (U f)) g),(eN g (P f) (P (U f)) C)];grind
       simp only[o3,L] at t;exact mz (t.trans (by simp)) (by lia)
      have:=first _ (A.vo D) ⟨q1,o4,o,D,q0,rfl⟩
      have:=bO (P f) g (P (U o));exact QU q2 ‹_› this
    rcases Ez vb S (G.m1 o D) Q with⟨u,B,R⟩|⟨u,B,R⟩
    .exact a0 o D Q u B R
    .refine a0 (U o) (A.op o D) (by rw[cg];exact Q.flip) u (by rw[cg];exact B) (by rw[cg];exact R)
  obtain⟨o,D,pk,ek⟩:=fin;exact⟨j,o,aj,D,pj,pk,by simp only[ej,ek],by rw[ej];exact E,by simp only[ej];exact(O g E L)⟩
 .exact G.Wz ha hb a7 B (λx m F H k1 Z=>by have:=u m H;exact(cV 0x140d20085000a468 0x8822).2 Z this) A.vt A.op
theorem afm(a:ln A B l<ln A B x)(d:ln A B l<ln A B o)(e:ln A B l<ln A B z)(f5:ln A B x<ln A B y)(f:ln A B x<ln A B z)(h:cr l o z<0)(c1:0<=cr l o x)(g:0<=cr x y l)(i:0<=cr x y z):False:=by have b:=bO l o z;have j:=half_lt (A:=A) (B:=B) (p:=l) (u:=z) (w:=o) (q:=x) e d a ((cV 0x10008520415000a468 0x12042008023).2 h b) c1 (.inl (xU h b));have c:=xw (A:=A) (B:=B) (p:=x) (u:=my x l) (w:=y) (q:=z) (by simp only[xE];exact Bu a) f5 f (by rw[rT,bO];exact Qs g) i;rw[rT] at c;exact(dJ 0x5a92542145424000850800468 0x20088012846008c26).2 j c (bW l z x) (bW z x l)
theorem ajU(a:ln A B y<ln A B r)(c:ln A B o<ln A B r)(d:ln A B z<ln A B r)(f5:ln A B x<ln A B y)(e:ln A B z<ln A B y)(h:0<cr r o z)(c1:cr r o y<=0)(f:0<=cr x y r)(g:0<=cr x y z):False:=by have b:=xw (A:=-A) (B:=-B) (p:=y) (u:=z) (w:=x) (q:=my y r) (by simp only[mW];exact sT e) (by simp only[mW];exact sT f5) (by rw[mW,mW,xE];exact(cV 0x940883020034a068 0x8421).2 a) ((bW x y z)▸g) (by rw[En,bO];exact(cV 0x2000004294150900428 0x1004a008023).2 f (bW x y r));rw[En] at b;exact(cV 0x5a125424000850800468 0x11842008424).2 (Fv (A:=A) (B:=B) (p:=r) (u:=y) (w:=o) (q:=z) a c d (ag7 c1 (bO r y o)) (cn h) (.inr h)) b (bW r y z)
inductive Ku(q:Qd)(aL aR:Nat->Prop)(VL VR:List Pt)(e g h f:Nat):Prop
 |mk (k x c j:Nat) (b:Qd) (d:Nat->Prop) (fr:iu q.P q.on k g h x c) (hx:x<q.n) (hy:c<q.n) (ex:x%2=0) (l:c%2=0) (cr:iN j (q.conn (U c) x) q.n b) (Q:QE b.n b.on)
  (pt:Part b.n b.on b.P d (VL++VR)) (m:d (if q.P x=q.P e then q.n+2 else e)) (o:d (if q.P c=q.P f then q.n else f)) (p:q.n<=b.n) (r:∀a<q.n,b.P a=q.P a)
  (ho:∀a<q.n,a%2=0->¬aL a->¬aR a->b.on a=q.on a) (s:∀a,d a->a<q.n->aL a\/aR a)
set_option tactic.hygienic true in
theorem afu(E:D.Ok)(Q:QE D.n0 D.dS)(e:gB D.n0 D.dS D.P0 D.aL D.VL j S)(g:gB D.n0 D.dS D.P0 D.aR D.VR Y m)(F:∀l r,l∈D.VL->r∈D.VR->lx l r)
  (a5:∀a b,a∈D.V->b∈D.V->lx a b->D.f a<D.f b)(fr:iu D.P0 D.dS k S Y x y)(t:Tg D x y)(I:∀z∈D.V,0<=cr (D.P0 x) (D.P0 y) z)(Z:iN k' (Qd.conn ⟨D.n0,D.dS,D.P0⟩ (U y) x) D.n0 q')(M:Mg D q'.n q'.on q'.P J b'):
  Ku ⟨D.n0,D.dS,D.P0⟩ D.aL D.aR D.VL D.VR j S Y m:=by
 have a6:=E.pL.lt x t.ax;have a7:=E.pR.lt y t.ay;have cp:=Ep Z;have L:=M.p0;have a0:∀u<D.n0,q'.P (U u)=D.P0 (U u):=λu N=>L _ (Q.bK N);have fb:=M.fb;have a8:J (D.n0+2):=by rw[<-(gE (Q.n4))];exact M.part.op _ fb
 have p:=e.part.vt x (by have:=t.ax;exact this);have q:=g.part.vt y (by have:=t.ay;exact this);have a3:=e.part.union g.part (f:=D.f) ⟨D.A,D.B,D.C,λv=>rfl⟩ E.sL E.sR;have o:∀{a b:Pt},a∈D.V->b∈D.V->lx a b->ln D.A D.B a<ln D.A D.B b:=λha hb h=>(D.fU _ _).mp (a5 _ _ ha hb h);have G:=e.part.vt j e.fJ;have H:=g.part.vt m g.fA;have a4:=o (Md.fh p) (Md.inR q) (F _ _ p q);have a9:D.P0 x≠D.P0 j->∀z∈D.V,0<=cr (D.P0 j) (D.P0 (U j)) z:=by
  intro s z d;rcases fM.mp d with d|d
  .exact e.AZ z d
  .refine rz.mp λh=>afm (o (Md.fh G) (Md.fh p) ((e.qA _ p).resolve_left s)) (o (Md.fh G) (Md.fh (e.part.vo e.fJ)) ((e.qA _ (e.part.vo e.fJ)).resolve_left λR=>e.part.ne e.fJ R.symm)) (o (Md.fh G) (Md.inR d) (F _ _ G d)) a4 (o (Md.fh p) (Md.inR d) (F _ _ p d)) h (e.AZ _ p) (I _ (Md.fh G)) (I _ (Md.inR d))
 have b0:D.P0 y≠D.P0 m->∀z∈D.V,cr (D.P0 m) (D.P0 (U m)) z<=0:=by
  intro s z d;rcases fM.mp d with d|d
  .refine rz.mp λh=>ajU (o (Md.inR q) (Md.inR H) ((g.kv _ q).resolve_left s)) (o (Md.inR (g.part.vo g.fA)) (Md.inR H) ((g.kv _ (g.part.vo g.fA)).resolve_left λR=>g.part.ne g.fA R.symm)) (o (Md.fh d) (Md.inR H) (F _ _ d H)) a4 (o (Md.fh d) (Md.inR q) (F _ _ d q)) h (g.BK _ q) (I _ (Md.inR H)) (I _ (Md.fh d))
  .exact g.BK z d
 have b3:∀z∈D.VL,z∈D.VR->False:=λz h h'=>E.fQ h h';have b1:D.P0 x≠D.P0 j->J j:=λs=>by refine M.kp j (.inl e.fJ) ?_;simp only[L j (e.part.lt j e.fJ),a0 j (e.part.lt j e.fJ)];exact⟨λz d=>a3.sg j z (.inl e.fJ) d,λz c d hc h1 h2=>by have:=a9 s z d;exact Pw h2 this⟩
 have b2:D.P0 y≠D.P0 m->J m:=λs=>by refine M.kp m (.inr g.fA) ?_;simp only[L m (g.part.lt m g.fA),a0 m (g.part.lt m g.fA)];exact⟨λz d=>a3.sg m z (.inr g.fA) d,λz c d hc h1 h2=>by have:=b0 s c hc;exact(cV 0x1404014850900468 0x8423).2 h1 this⟩
 refine⟨k,x,y,k',q',J,fr,a6,a7,e.part.ev x t.ax,g.part.ev y t.ay,Z,M.qe,M.part,?_,?_,M.n0,L,M.fr,λu N h=>M.old u N h⟩
 .split
  .exact a8
  .rename_i h;exact b1 h
 .split
  .exact fb
  .rename_i h;exact b2 h
theorem afv(Q:QE q.n q.on)(c:gB q.n q.on q.P d a i e)(f:gB q.n q.on q.P g b j m)(h:∀l r,l∈a->r∈b->lx l r):Ku q d g a b i e j m:=
 aft Q c f h λo A x B C E F G p s t u v w z H I J=>afu (D:=md q d g a b o (q.P e)) p Q c f h s t u v w z
theorem Part.frame{n f:Nat}{on on':Nat->Nat}{P e:Nat->Pt}{al:Nat->Prop}{V:List Pt}(A:Part n on P al V)(Q:QE n on)(r:QE f on')(h:n<=f)(o:∀i,al i->on' i=on i)(q:∀i<n,e i=P i):Part f on' e al V:=by
 have d:∀i,al i->e i=P i/\e (U i)=P (U i):=λi a=>⟨q i (A.lt i a),q _ (Q.bK (A.lt i a))⟩;refine⟨λi a=>fj (A.lt i a) h,A.ev,A.op,λi a=>?_,λs=>?_,λi a=>by simp only[(d i a).1];exact A.vt i a,λi t a u=>by rw[(d i a).1,(d i a).2];exact A.sg i t a u,λi g a l=>by simp only[(d i a).1,(d i a).2,(d g l).1,(d g l).2];exact A.pl i g a l⟩
 .have m:=A.bk i a;simp only[(r.gF (fj (A.lt i a) h) (fj (A.lt _ m) h)).mpr (by simp only[o _ m,Q.gq (A.lt i a)])];exact m
 .exact(A.rg s).congr (λi=>⟨λc=>⟨c.1,by rw[<-(d i c.1).1];exact c.2⟩,λc=>⟨c.1,by rw[(d i c.1).1];exact c.2⟩⟩) (λi c=>o i c.1) (λi c=>(d i c.1).2)
theorem iW.frame{n:Nat}{P h:Nat->Pt}{al:Nat->Prop}{V:List Pt}(l:iW P al V)(c:∀i,al i->h i=P i/\h (U i)=P (U i)):iW h al V:=by
 refine⟨λs t=>?_,λi u d v r=>?_,λw x y A B g m=>?_⟩
 .obtain⟨i,g,m⟩:=l.vx s t;exact⟨i,g,by rw[(c i g).1];exact m⟩
 .rw[(c i d).1,(c i d).2] at r;obtain⟨e,k,f,o,e1,e2,e3,e4,C⟩:=l.cZ i u d v r;exact⟨e,k,f,o,by rw[(c e f).1,(c i d).1];exact e1,by rw[(c k o).1,(c i d).2];exact e2,by rw[(c k o).2,(c e f).2];exact e3,by rw[(c i d).1,(c i d).2,(c e f).2];exact e4,by rw[(c i d).1,(c i d).2,(c e f).2];exact C⟩
 .obtain⟨i,q,D,E⟩:=l.Fz w x y A B g m;exact⟨i,q,by rw[(c i q).1];exact D,by rw[(c i q).2];exact E⟩
theorem gB.frame{n e:Nat}{on on':Nat->Nat}{P d:Nat->Pt}{al:Nat->Prop}{V:List Pt}{b c:Nat}(A:gB n on P al V b c)(Q:QE n on)(j:QE e on')(h:n<=e)(k:∀i,al i->on' i=on i)(f:∀i<n,d i=P i):gB e on' d al V b c:=by
 have a:∀i,al i->d i=P i/\d (U i)=P (U i):=λi g=>⟨f i (A.part.lt i g),f _ (Q.bK (A.part.lt i g))⟩;refine⟨A.part.frame Q j h k f,A.cZ.frame (n:=n) a,A.fJ,A.fA,?_,?_,?_,?_⟩
 .rw[(a b A.fJ).1];exact A.qA
 .rw[(a c A.fA).1];exact A.kv
 .rw[(a b A.fJ).1,(a b A.fJ).2];exact A.AZ
 .rw[(a c A.fA).1,(a c A.fA).2];exact A.BK
theorem vn{n:Nat}{on:Nat->Nat}:cS on n n=n/\cS on n (n+2)=n+2:=by
 unfold cS;constructor
 .rw[if_neg (ahx)];simp
 .rw[if_neg (QN)];exact ahy
theorem kN(a b c:Pt):¬cL a b a c/\¬cL a b b c/\¬cL a b c a/\¬cL a b c b:=by
 have d:∀a b c:Pt,¬cL a b a c:=λa b c h=>by have:=h.1;rw[jb] at this;unfold Sep at this;omega
 have e:∀a b c:Pt,¬cL a b b c:=λa b c h=>by have:=h.1;rw[dI] at this;unfold Sep at this;omega
 exact⟨d a b c,e a b c,λh=>d a b c h.rZ,λh=>e a b c h.rZ⟩
theorem Ao{V:List Pt}{a b:Pt}(h:∀z∈V,z=a\/z=b):Dl (λz=>z∈V) a b:=by
 refine⟨λz d e=>?_,λz g d i f j=>?_⟩
 .rcases h z d with rfl|rfl
  .have:=e.2;unfold dt at this;grind
  .have:=e.2;unfold dt at this;grind
 .rcases h g i with rfl|rfl
  .rw[jb] at f;omega
  .rw[dI] at f;omega
theorem akR{n:Nat}{on:Nat->Nat}{P:Nat->Pt}(Q:QE n on){a b:Pt}(h:lx a b):
  gB (n+4) (cS on n) (bu P n a b) (λi=>i=n\/i=n+2) [a,b] n (n+2)/\Dg (bu P n a b) (λi=>i=n\/i=n+2) [a,b]:=by
 have s:=Q.n4;have o:=jN h;have G:=(vn (n:=n) (on:=on)).1;have d:bu P n a b n=a:=by unfold bu;rw[if_pos rfl]
 have e:bu P n a b (n+2)=b:=by unfold bu;rw[if_neg (oG),if_pos rfl]
 have t:bu P n a b (U n)=b:=by rw[(gE s)];exact e
 have u:bu P n a b (U (n+2))=a:=by rw[(jy s)];exact d
 have g:∀c,c∈[a,b]->c=a\/c=b:=λc f=>by simpa using f
 have v:∀i,(i=n\/i=n+2)->cS on n i=i/\i<n+4/\i%2=0:=by
  rintro i (rfl|rfl)
  .exact⟨G,mv,kU s⟩
  .exact⟨((vn (n:=n) (on:=on)).2),qH,qK s⟩
 have C:Part (n+4) (cS on n) (bu P n a b) (λi=>i=n\/i=n+2) [a,b]:=by
  refine⟨λi l=>(v i l).2.1,λi l=>(v i l).2.2,?_,λi l=>?_,λr=>⟨?_,?_,λi l=>?_,?_⟩,?_,?_,?_⟩
  .rintro i (rfl|rfl)
   .exact .inr (gE s)
   .exact .inl (jy s)
  .rw[((Q.grow).gF (v i l).2.1 (v i l).2.1).mpr (v i l).1];exact l
  .rintro i ⟨rfl|rfl,rfl⟩
   .simp only[d,t];exact o
   .simp only[e,u];exact o.symm
  .rintro i D ⟨rfl|rfl,rfl⟩ ⟨rfl|rfl,m⟩ w
   .exact absurd rfl w
   .rw[d,e] at m;exact absurd m.symm o
   .rw[d,e] at m;exact absurd m o
   .exact absurd rfl w
  .rw[(v i l.1).1];exact l
  .rintro i D ⟨rfl|rfl,rfl⟩ ⟨rfl|rfl,m⟩ w
   .exact absurd rfl w
   .rw[d,e] at m;exact absurd m.symm o
   .rw[d,e] at m;exact absurd m o
   .exact absurd rfl w
  .rintro i (rfl|rfl)
   .simp only[d];simp
   .simp only[e];simp
  .rintro i c (rfl|rfl) f x
   .simp only[d,t] at x;exact(Ao g).1 c f x
   .simp only[e,u] at x;exact(Ao g).1 c f x.symm
  .rintro i D (rfl|rfl) (rfl|rfl)<;>simp only[d,e,t,u]
   .exact(kN _ _ _).1
   .exact(kN _ _ _).2.1
   .exact(kN _ _ _).2.1
   .exact(kN _ _ _).1
 have E:Dg (bu P n a b) (λi=>i=n\/i=n+2) [a,b]:=by
  refine⟨?_,λr A B H F J=>?_⟩
  .rintro i (rfl|rfl)
   .simp only[d,t];exact Ao g
   .simp only[e,u];exact(Ao g).symm
  .left;rcases g r B with rfl|rfl<;>rcases g A H with rfl|rfl
   .exact absurd rfl F
   .exact⟨n, .inl rfl,d,t⟩
   .exact⟨n+2, .inr rfl,e,u⟩
   .exact absurd rfl F
 have I:∀r,r∈[a,b]->∃A,A∈[a,b]/\r≠A:=by
  intro r B;rcases g r B with rfl|rfl
  .exact⟨b,by simp,o⟩
  .exact⟨a,by simp,o.symm⟩
 refine⟨⟨C,HL C E I, .inl rfl, .inr rfl,λc f=>?_,λc f=>?_,λc f=>?_,λc f=>?_⟩,E⟩
 .rw[d];rcases g c f with rfl|rfl
  .exact .inl rfl
  .exact .inr h
 .rw[e];rcases g c f with rfl|rfl
  .exact .inr h
  .exact .inl rfl
 .simp only[d,t];rcases g c f with rfl|rfl
  .rw[jb];omega
  .rw[dI];omega
 .simp only[e,u];rcases g c f with rfl|rfl
  .rw[dI];omega
  .rw[jb];omega
theorem Bf(d:lx a b)(e:lx b c):Un b a c:=by
 refine⟨(jN d).symm,jN e,λi=>?_⟩;have g:=i.1;have f:=i.2;unfold lx at d e;unfold cr dt at*;rcases d with d|⟨d,j⟩<;>rcases e with e|⟨e,l⟩
 .-- strictly: the first coordinates part
  have m:=gU (Br d) (o7 e);by_cases h:(a.2-b.2)*(c.2-b.2)<=0
  .exact(cV 0x1600a428005034250200468 0x10842008423).2 f m h
  .have o:0<(a.2-b.2)*(c.2-b.2):=JJ h;have p:((a.1-b.1)*(c.2-b.2))*((a.1-b.1)*(c.2-b.2))=((a.1-b.1)*(c.1-b.1))*((a.2-b.2)*(c.2-b.2)):=by have:(a.1-b.1)*(c.2-b.2)=(a.2-b.2)*(c.1-b.1):=oH g;grind
   have:=ir ((a.1-b.1)*(c.2-b.2));exact(cV 0x2d00085000a4684a0a8 0x11042008821).2 p (gU m o) this
 .rw[e] at g f;have h:(a.1-b.1)*(c.2-c.2+(c.2-b.2))=0:=by simp_all
  have n:=gU (Br d) (o7 l);simp_all
 .rw[d] at g f;have n:=gU (Br j) (o7 e);lia
 .rw[d,<-e] at f;have n:=gU (Br j) (o7 l);lia
theorem uU(d:lx a b)(e:lx b c):lx a c:=by unfold lx at*;exact(qz 0x2d434a0a64a0675b469614c960ce86a86c414cc40ce8 0x401200250840008025004c10800100441080010046008c2100400080240048108000080230044108021).2 d e
theorem Be(h:z∈[a,b,c]):z=a\/z=b\/z=c:=by simpa using h
theorem kM{p:Nat->Prop}(a:p n)(b:p (n+2))(c:p (n+4))(d:p (n+6)):∀i,(i=n\/i=n+2\/i=n+4\/i=n+6)->p i:=λi e=>by
 rcases e with rfl|rfl|rfl|rfl
 .exact a
 .exact b
 .exact c
 .exact d
theorem Ml(u:Un b a c)(g:a≠b):¬dP a c b:=λd=>by
 exact u.hr ⟨by have:=d.1;have:=gC a b c;exact RU ‹_› this,by
  have f:dt c a b=dt b c c-dt b a c:=by unfold dt;grind
  have:0<=dt b c c:=by unfold dt;have:=ir (c.1-b.1);have:=ir (c.2-b.2);exact uZ ‹_› this
  exact GG (d.2) f this⟩
theorem Mk(a b:Pt):¬dP a a b:=λc=>by have:=c.2;unfold dt at this;grind
theorem Mm(a b:Pt):¬dP a b b:=λc=>by have:=c.2;unfold dt at this;grind
theorem ai5(u:Un b a c)(d:a≠b)(e:b≠c):∀z,z∈[a,b,c]->¬dP a z b/\¬dP b z c:=λz f=>by
 rcases Be f with rfl|rfl|rfl
 .exact⟨Mk _ _,λg=>Ml u.symm e.symm g.symm⟩
 .exact⟨Mm _ _,Mk _ _⟩
 .exact⟨Ml u d,Mm _ _⟩
theorem ai6{on:Nat->Nat}{P:Nat->Pt}(h4:n%4=0)(A:QE (n+8) on)(D:lx a b)(E:lx b c)(o1:U n=n+2)(o2:U (n+2)=n)(o3:U (n+4)=n+6)(o4:U (n+6)=n+4)
  (F:on n=n)(B:on (n+2)=n+4)(C:on (n+4)=n+2)(H:on (n+6)=n+6)(p1:P n=a)(p2:P (n+2)=b)(p3:P (n+4)=b)(q:P (n+6)=c):Part (n+8) on P (λi=>i=n\/i=n+2\/i=n+4\/i=n+6) [a,b,c]:=by
 have r:=jN D;have s:=jN E;have N:=jN (uU D E);have I:=Bf D E;have J:=(congrArg P o2).trans p1;have L:=(congrArg P o3).trans q;have o:∀{x g:Pt} {i l:Nat} {S:Prop},P i=x->P l=g->x≠g->P l=P i->S:=λT f n h=>absurd (T.symm.trans (h.symm.trans f)) n;have O:∀i,(i=n\/i=n+2\/i=n+4\/i=n+6)->∀l,(l=n\/l=n+2\/l=n+4\/l=n+6)->P l=P i->i≠l->Un (P i) (P (U i)) (P (U l))/\(l=on i):=
  kM (kM (λt h=>absurd rfl h) (o p1 p2 r) (o p1 p3 r) (o p1 q N)) (kM (o p2 p1 r.symm) (λt h=>absurd rfl h) (λt t=>⟨by simp only[p2,J,L];exact I,B.symm⟩) (o p2 q s))
   (kM (o p3 p1 r.symm) (λt t=>⟨by simp only[p3,L,J];exact I.symm,C.symm⟩) (λt h=>absurd rfl h) (o p3 q s)) (kM (o q p1 N.symm) (o q p2 s.symm) (o q p3 s.symm) (λt h=>absurd rfl h))
 have Q:∀i,(i=n\/i=n+2\/i=n+4\/i=n+6)->(on i=n\/on i=n+2\/on i=n+4\/on i=n+6)/\P (on i)=P i:=
  kM ⟨.inl F,congrArg P F⟩ ⟨.inr (.inr (.inl B)),(congrArg P B).trans (p3.trans p2.symm)⟩ ⟨.inr (.inl C),(congrArg P C).trans (p2.trans p3.symm)⟩ ⟨.inr (.inr (.inr H)),congrArg P H⟩
 have sg:∀i,(i=n\/i=n+2\/i=n+4\/i=n+6)->(P i=a/\P (U i)=b)\/(P i=b/\P (U i)=a)\/(P i=b/\P (U i)=c)\/(P i=c/\P (U i)=b):=
  kM (.inl ⟨p1,((congrArg P o1).trans p2)⟩) (.inr (.inl ⟨p2,J⟩)) (.inr (.inr (.inl ⟨p3,L⟩))) (.inr (.inr (.inr ⟨q,((congrArg P o4).trans p3)⟩)))
 refine⟨kM (by lia) (by lia) (by lia) (by lia),kM (by lia) (by lia) (by lia) (by lia),kM (.inr (.inl o1)) (.inl o2) (.inr (.inr (.inr o3))) (.inr (.inr (.inl o4))),
  kM (.inl ((A.gF (xT) (xT)).mpr F)) (.inr (.inr (.inl ((A.gF (GU) (xS)).mpr C)))) (.inr (.inl ((A.gF (xS) (GU)).mpr B))) (.inr (.inr (.inr ((A.gF (xR) (xR)).mpr H)))),
  λp=>⟨λi m=>?_,λi l m v h=>?_,λi m=>⟨(Q i m.1).1,(Q i m.1).2.trans m.2⟩,λi l m v h V=>absurd (O i m.1 l v.1 (v.2.trans m.2.symm) (fN h)).2 V⟩,?_,λi Y m Z=>?_,λi l m v=>?_⟩
 .rw[<-m.2];rcases sg i m.1 with⟨x,g⟩|⟨x,g⟩|⟨x,g⟩|⟨x,g⟩<;>simp only[x,g]
  .exact r
  .exact r.symm
  .exact s
  .exact s.symm
 .have:=(O i m.1 l v.1 (v.2.trans m.2.symm) h).1;rwa [m.2] at this
 .refine kM ?_ ?_ ?_ ?_<;>simp[p1,p2,p3,q]
 .obtain⟨R,b2⟩:=ai5 I r s Y Z;rcases sg i m with⟨x,g⟩|⟨x,g⟩|⟨x,g⟩|⟨x,g⟩<;>simp only[x,g]
  .exact R
  .exact λM=>R M.symm
  .exact b2
  .exact λM=>b2 M.symm
 .rcases sg i m with⟨x,g⟩|⟨x,g⟩|⟨x,g⟩|⟨x,g⟩<;>simp only[x,g]<;>rcases sg l v with⟨x,g⟩|⟨x,g⟩|⟨x,g⟩|⟨x,g⟩<;>simp only[x,g]
  all_goals first
   |exact(kN _ _ _).1
   |exact(kN _ _ _).2.1
   |exact(kN _ _ _).2.2.1
   |exact(kN _ _ _).2.2.2
structure aaH(n:Nat)(on:Nat->Nat)(P:Nat->Pt)(a b c:Pt):Prop where
 Q:QE (n+8) (iG on n)
 part:Part (n+8) (iG on n) (P3 P n a b c) (λi=>i=n\/i=n+2\/i=n+4\/i=n+6) [a,b,c]
 e1:iG on n n=n
 e2:iG on n (n+2)=n+4
 e3:iG on n (n+4)=n+2
 e4:iG on n (n+6)=n+6
 p1:P3 P n a b c n=a
 p2:P3 P n a b c (n+2)=b
 p3:P3 P n a b c (n+4)=b
 p4:P3 P n a b c (n+6)=c
 f1:∀i<n,i%2=0->iG on n i=on i
 f2:∀i<n,P3 P n a b c i=P i
theorem xX(Q:QE n on)(u:lx a b)(v:lx b c):
  aaH n on P a b c:=by
 have d:=Q.n4;have o1:=gE d;have o2:=jy d;have o3:=gE (oK d:(n+4)%4=0);have o4:=jy (oK d:(n+4)%4=0);have f:∀x,x%2=0->iG on n x=cS (cS on n) (n+4) (fR (n+2) (n+4) x):=λx w=>qS (Q.grow.grow) (Hb) (Hc) (qK d) (ve d) w;have g:∀x,x<n+4->cS (cS on n) (n+4) x=cS on n x:=λx y=>nh y;have j:iG on n n=n:=by rw[f n (kU d)];unfold fR;rw[if_neg (agX),if_neg (Bq),g n (mv),((vn (n:=n) (on:=on)).1)]
 have k:iG on n (n+2)=n+4:=by rw[f _ (qK d)];unfold fR;rw[if_pos rfl,((vn (n:=n+4) (on:=cS on n)).1)]
 have l:iG on n (n+4)=n+2:=by rw[f _ (ve d)];unfold fR;rw[if_neg (agY),if_pos rfl,g _ (qH),((vn (n:=n) (on:=on)).2)]
 have m:iG on n (n+6)=n+6:=by rw[f _ (Qo d)];unfold fR;rw[if_neg (agZ),if_neg (Bp),((vn (n:=n+4) (on:=cS on n)).2)]
 have o:P3 P n a b c n=a:=by delta P3 bu;rw[if_neg (Bq),if_neg (Ha),if_pos rfl]
 have p:P3 P n a b c (n+2)=b:=by delta P3 bu;rw[if_neg (Qp),if_neg (Qq),if_neg (oG),if_pos rfl]
 have q:P3 P n a b c (n+4)=b:=by delta P3 bu;rw[if_pos rfl]
 have r:P3 P n a b c (n+6)=c:=by delta P3 bu;rw[if_neg (Bp),if_pos rfl]
 have t:=(Q.grow.grow).dU (Hb) (Hc) (qK d) (ve d);refine⟨t,ai6 d t u v o1 o2 o3 o4 j k l m o p q r,j,k,l,m,o,p,q,r,λh e z=>?_,λh e=>?_⟩
 .rw[f h z];unfold fR;rw[if_neg (qG e),if_neg (Qr e),g h (o0 e),nh e]
 .delta P3 bu;rw[if_neg (Qr e),if_neg (ag0 e),if_neg (sN e),if_neg (qG e)]
theorem Em(a b c:Pt):cr b c a=cr a b c/\cr c a b=cr a b c/\cr b a c=-cr a b c/\cr a c b=-cr a b c/\cr c b a=-cr a b c:=by refine⟨?_,?_,?_,?_,?_⟩<;>unfold cr<;>grind
theorem WO(d:lx a b)(e:lx b c):∀p,p∈[a,b,c]->∃q,q∈[a,b,c]/\p≠q:=by
 intro p f;rcases Be f with rfl|rfl|rfl
 .exact⟨b,by simp,jN d⟩
 .exact⟨a,by simp,(jN d).symm⟩
 .exact⟨b,by simp,(jN e).symm⟩
theorem dh{p:Pt->Prop}(d:p a)(e:p b)(f:p c):∀z,z∈[a,b,c]->p z:=λz g=>by
 rcases Be g with rfl|rfl|rfl
 .exact d
 .exact e
 .exact f
theorem Eo(u v:Pt):cr u u v=0:=by unfold cr;grind
theorem adM(h:cr a b c=0):∀x,x∈[a,b,c]->∀y,y∈[a,b,c]->∀z,z∈[a,b,c]->cr x y z=0:=by
 obtain⟨e,c2,c3,f,g⟩:=Em a b c;simp only[h] at e c2 c3 f g;exact dh (dh (λd d=>Eo _ _) (dh (jb _ _) (dI _ _) h) (dh (jb _ _) f (dI _ _)))
  (dh (dh (dI _ _) (jb _ _) c3) (λd d=>Eo _ _) (dh e (jb _ _) (dI _ _)))
  (dh (dh (dI _ _) c2 (jb _ _)) (dh g (dI _ _) (jb _ _)) (λd d=>Eo _ _))
theorem aku:∀p,p∈[a,b,c]->∀q,q∈[a,b,c]->p≠q->∀z,z∈[a,b,c]->∀w,w∈[a,b,c]->cr p q z≠0->cr p q w≠0->z=w:=by
 have e:∀{g i:Pt} {j:Prop},cr g i g≠0->j:=λh=>absurd (jb _ _) h;have f:∀{g i:Pt} {j:Prop},cr g i i≠0->j:=λh=>absurd (dI _ _) h;refine dh (dh (λh=>absurd rfl h) (λd=>dh (λd d h d=>e h) (λd d h d=>f h) (dh (λd h=>e h) (λd h=>f h) λd d=>rfl)) λd=>dh (λd d h d=>e h) (dh (λd h=>e h) (λd d=>rfl) λd h=>f h) (λd d h d=>f h))
  (dh (λd=>dh (λd d h d=>f h) (λd d h d=>e h) (dh (λd h=>f h) (λd h=>e h) λd d=>rfl)) (λh=>absurd rfl h) λd=>dh (dh (λd d=>rfl) (λd h=>e h) λd h=>f h) (λd d h d=>e h) (λd d h d=>f h))
  (dh (λd=>dh (λd d h d=>f h) (dh (λd h=>f h) (λd d=>rfl) λd h=>e h) (λd d h d=>e h)) (λd=>dh (dh (λd d=>rfl) (λd h=>f h) λd h=>e h) (λd d h d=>f h) (λd d h d=>e h)) (λh=>absurd rfl h))
theorem OE(d:lx a b)(e:lx b c):∀z,z∈[a,b,c]->z=a\/lx a z:=dh (.inl rfl) (.inr d) (.inr (uU d e))
theorem OD(e:lx a b)(d:lx b c):∀z,z∈[a,b,c]->z=c\/lx z c:=dh (.inr (uU e d)) (.inr d) (.inl rfl)
theorem ae6{on:Nat->Nat}{P:Nat->Pt}(Q:QE n on)(j:lx a b)(k:lx b c)(B:cr a b c=0):
  gB (n+8) (iG on n) (P3 P n a b c) (λi=>i=n\/i=n+2\/i=n+4\/i=n+6) [a,b,c] n (n+6)/\Dg (P3 P n a b c) (λi=>i=n\/i=n+2\/i=n+4\/i=n+6) [a,b,c]:=by
 obtain⟨J,part,e1,e2,e3,e4,p1,p2,p3,p4,_,_⟩:=xX (P:=P) Q j k;have s:=Q.n4;have o1:=gE s;have o2:=jy s;have o3:=gE (oK s:(n+4)%4=0);have o4:=jy (oK s:(n+4)%4=0);have L:=Em a b c;have r:∀x t e,x∈[a,b,c]->t∈[a,b,c]->e∈[a,b,c]->cr x t e=0:=λx t e C D f=>adM B x C t D e f;have v:dP a b c:=⟨r _ _ _ (by simp) (by simp) (by simp),oN (Bf j k).ha (Bf j k).hb (r _ _ _ (by simp) (by simp) (by simp)) (Bf j k).hr⟩;have A:Dg (P3 P n a b c) (λi=>i=n\/i=n+2\/i=n+4\/i=n+6) [a,b,c]:=by
  refine⟨λi u=>⟨λe f=>part.sg i e u f,λe l f E F g=>?_⟩,λm o G H I l=>?_⟩
  .rw[r _ _ _ (part.vt i u) (part.vo u) E] at F;omega
  .left;refine dh (p:=λm=>∀o,o∈[a,b,c]->m≠o->Dl (λe=>e∈[a,b,c]) m o->Ln (P3 P n a b c) (λi=>i=n\/i=n+2\/i=n+4\/i=n+6) m o) ?_ ?_ ?_ m G o H I l
   .exact dh (λh=>absurd rfl h) (λg g=>⟨n, .inl rfl,p1,(congrArg _ o1).trans p2⟩) λg l=>absurd v (l.1 b (by simp))
   .exact dh (λg g=>⟨n+2, .inr (.inl rfl),p2,(congrArg _ o2).trans p1⟩) (λh=>absurd rfl h) λg g=>⟨n+4, .inr (.inr (.inl rfl)),p3,(congrArg _ o3).trans p4⟩
   .exact dh (λg l=>absurd v.symm (l.1 b (by simp))) (λg g=>⟨n+6, .inr (.inr (.inr rfl)),p4,(congrArg _ o4).trans p3⟩) λh=>absurd rfl h
 refine⟨⟨part,HL part A (WO j k), .inl rfl, .inr (.inr (.inr rfl)),λe f=>?_,λe f=>?_,λe f=>?_,λe f=>?_⟩,A⟩
 .rw[p1];exact OE j k e f
 .rw[p4];exact OD j k e f
 .simp only[r _ _ _ (part.vt n (.inl rfl)) (part.vo (.inl rfl)) f];omega
 .rw[r _ _ _ (part.vt (n+6) (.inr (.inr (.inr rfl)))) (part.vo (.inr (.inr (.inr rfl)))) f];omega
structure abn(n:Nat)(on:Nat->Nat)(P:Nat->Pt)(a b c:Pt):Prop where
 Q:QE (n+12) (vm on n)
 f1:∀i<n,i%2=0->vm on n i=on i
 f2:∀i<n,P4 P n a b c i=P i
 D:Dg (P4 P n a b c) (λi=>(i=n\/i=n+2\/i=n+4\/i=n+6)\/i=n+8\/i=n+10) [a,b,c]
 T1:0<cr a b c->gB (n+12) (vm on n) (P4 P n a b c) (λi=>(i=n\/i=n+2\/i=n+4\/i=n+6)\/i=n+8\/i=n+10) [a,b,c] n (n+6)
 T2:cr a b c<0->gB (n+12) (vm on n) (P4 P n a b c) (λi=>(i=n\/i=n+2\/i=n+4\/i=n+6)\/i=n+8\/i=n+10) [a,b,c] (n+10) (n+8)
theorem akI{on:Nat->Nat}{P:Nat->Pt}(Q:QE n on)(s:lx a b)(o:lx b c)(Y:cr a b c≠0):
  abn n on P a b c:=by
 obtain⟨C,path,e1,e2,e3,e4,p1,p2,p3,p4,f1,f2⟩:=xX (P:=P) Q s o;have l:=Q.n4;have o1:=gE l;have o2:=jy l;have o3:=gE (oK l:(n+4)%4=0);have o4:=jy (oK l:(n+4)%4=0);have o5:=gE (Qc l:(n+8)%4=0);have o6:=jy (Qc l:(n+8)%4=0);have D:=Em a b c;have J:=(C.gF (xR) (xR)).mpr e4;have m:Part (n+8+4) (conn (iG on n) (n+8) (n+4) n) (bu (P3 P n a b c) (n+8) (P3 P n a b c (U (n+4))) (P3 P n a b c n)) (λe=>(e=n\/e=n+2\/e=n+4\/e=n+6)\/e=n+8\/e=n+8+2) [a,b,c]:=by
  refine path.link C (i:=n+4) (j:=n) (.inr (.inr (.inl rfl))) (.inl rfl) ?_ (λE t g=>?_) ?_ ?_ (.inl (by rw[o3];exact J)) (.inl e1)
  .simp only[o3,p4,p1];exact(jN (uU s o)).symm
  .simp only[o3,p4,p1] at g;rcases Be t with rfl|rfl|rfl
   .have:=g.2;unfold dt at this;grind
   .have:=g.1;exact(qz 0x2c0151508034a8030a64016532145321253200141548 0x1084200a42d0002008c0160521).2 Y D this
   .have:=g.2;unfold dt at this;grind
  .rw[o3,p4,p1];rintro g (rfl|rfl|rfl|rfl) hk<;>simp only[o1,o2,o3,o4,p1,p2,p3,p4] at hk⊢
   .exact absurd hk (jN (uU s o))
   .exact absurd hk (jN o)
   .exact absurd hk (jN o)
   .exact(jN s).symm
  .rw[o3,p4,p1];rintro g (rfl|rfl|rfl|rfl)<;>simp only[o1,o2,o3,o4,p1,p2,p3,p4]
   .exact(kN _ _ _).2.2.1
   .exact(kN _ _ _).2.2.2
   .exact(kN _ _ _).2.1
   .exact(kN _ _ _).1
 have Z:=C.conn (xS) (xT) (ve l) (kU l);simp only[o3,p4,p1] at m;have a0:bu (P3 P n a b c) (n+8) c a=P4 P n a b c:=rfl;simp only[a0] at m;have u:∀e,e<n+8->P4 P n a b c e=P3 P n a b c e:=λe f=>by delta P4 bu;rw[if_neg (cJ f),if_neg (cJ (mK 2 f))]
 have F:P4 P n a b c n=a:=by rw[u _ (xT)];exact p1
 have L:P4 P n a b c (n+2)=b:=by rw[u _ (GU)];exact p2
 have M:P4 P n a b c (n+4)=b:=by rw[u _ (xS)];exact p3
 have G:P4 P n a b c (n+6)=c:=by rw[u _ (xR)];exact p4
 have v:P4 P n a b c (n+8)=c:=by delta P4 bu;rw[if_pos rfl]
 have w:P4 P n a b c (n+10)=a:=by delta P4 bu;rw[if_neg (af3),if_pos rfl]
 have H:=jb;have I:=dI;have N:Dg (P4 P n a b c) (λe=>(e=n\/e=n+2\/e=n+4\/e=n+6)\/e=n+8\/e=n+10) [a,b,c]:=by
  refine⟨λe f=>⟨λE t=>m.sg e E f t,λE O t hd k1 R=>?_⟩,λx A hp hq a3 O=>?_⟩
  .have:=aku _ (m.vt e f) _ (m.vo f) (m.ne f) E t O hd (by lia) (by lia);rw[this] at R;exact(cV 0x14040148d0900468 0x8423).2 k1 R
  .left;refine dh (p:=λx=>∀A,A∈[a,b,c]->x≠A->Ln (P4 P n a b c) (λe=>(e=n\/e=n+2\/e=n+4\/e=n+6)\/e=n+8\/e=n+10) x A) ?_ ?_ ?_ x hp A hq a3
   .exact dh (λh=>absurd rfl h) (λB=>⟨n, .inl (.inl rfl),F,(congrArg _ o1).trans L⟩) λB=>⟨n+10, .inr (.inr rfl),w,(congrArg _ o6).trans v⟩
   .exact dh (λB=>⟨n+2, .inl (.inr (.inl rfl)),L,(congrArg _ o2).trans F⟩) (λh=>absurd rfl h) λB=>⟨n+4, .inl (.inr (.inr (.inl rfl))),M,(congrArg _ o3).trans G⟩
   .exact dh (λB=>⟨n+8, .inr (.inl rfl),v,(congrArg _ o5).trans w⟩) (λB=>⟨n+6, .inl (.inr (.inr (.inr rfl))),G,(congrArg _ o4).trans M⟩) λh=>absurd rfl h
 have S:=HL m N (WO s o);have T:=OE s o;have kv:=OD s o;refine⟨Z,λe f V=>?_,λe f=>?_,N,λg=>⟨m,S, .inl (.inl rfl), .inl (.inr (.inr (.inr rfl))),by rw[F];exact T,by rw[G];exact kv,?_,?_⟩,λg=>⟨m,S, .inr (.inr rfl), .inr (.inl rfl),by rw[w];exact T,by rw[v];exact kv,?_,?_⟩⟩
 .unfold vm;rw[Al C (xS) (xT) (ve l) (kU l) (af4 f) V (by rw[o3,J];exact af5),if_neg (af6 f),if_neg (af7 f),if_neg (sN f),if_neg (by simp only[o3,J];exact af8 f)];exact f1 e f V
 .rw[u _ (mK 8 f)];exact f2 e f
 .rw[o1,F,L];exact dh (nO (H _ _).symm) (nO (I _ _).symm) (cn g)
 .rw[o4,G,M];exact dh ((qz 0x50150023428082a80d29940614ca594ca494c8 0x10046008821).2 D g) (nO (I _ _)) (nO (H _ _))
 .rw[o6,w,v];exact dh (nO (H _ _).symm) ((qz 0x40021005434280d2a80829940614ca594ca494c8 0x11042008026).2 D g) (nO (I _ _).symm)
 .rw[o5,v,w];exact dh (nO (I _ _)) ((qz 0x501005434280d2a80c29940594ca414ca494c8 0x1104200a021).2 D g) (nO (H _ _))
open PySem PySem.W PyProof.Rows
local macro_rules | `(tactic|nofun)=>`(tactic|kernel_rfl)
noncomputable abbrev pw:Program:=alM
noncomputable def bA(n:Nat):cQ:=(pw.main.body[n]?).getD (.Pass ⟨0,0,0,0⟩)
noncomputable def BW:cQ->Option (Jk×nY)×List cQ×cC×List Expr
 | .FunctionDef _ f c _ _ _ g _ _ d=>(W (f,g),c,d,[])
 | .ClassDef _ _ _ c .. =>(X,c,default,[])
 | .While e c _ d=>(X,c,d,[e])
 | .For e h c _ d=>(X,c,d,[e,h])
 | .Assign _ j d=>(X,[],d,[j])
 | .If e c _ d=>(X,c,d,[e])
 |_=>(X,[],default,[])
noncomputable def NK(s:cQ):Jk×nY:=(BW s).1.getD (⟨[],[],X,[],[],X,[]⟩,default)
noncomputable def NM(s:cQ):Jk:=(NK s).1
noncomputable def ou(s:cQ):List cQ:=(BW s).2.1
noncomputable def NO(s:cQ):nY:=(NK s).2
noncomputable def adN(s:cQ):cC:=(BW s).2.2.1
noncomputable def nj(s:cQ)(i:Nat):Expr:=(BW s).2.2.2.getD i default
noncomputable def xm:Expr->List Expr×nY×cC
 | .ListComp d g j b=>(d::g.flatMap (λg=>[g.target,g.iter]),j,b)
 | .Call f k _ b=>(f::k,default,b)
 | .BinOp h _ i b=>([h,i],default,b)
 | .Compare h _ i b=>(h::i,default,b)
 | .BoolOp _ d b=>(d,default,b)
 | .Tuple d _ b=>(d,default,b)
 |_=>([],default,default)
noncomputable def jv(e:Expr)(i:Nat):Expr:=(xm e).1.getD i default
noncomputable def bw(i j:Nat):cQ:=((ou (bA i))[j]?).getD (.Pass ⟨0,0,0,0⟩)
structure Fn(K:Frag)(a:az)(fd:bI):Prop where
 obj:∃c d sl,K.lookup a=W ⟨c,d, .func fd,sl⟩
 code:codeIn K fd.code fd.qualname=af
noncomputable def lf:Life:={}
noncomputable def dr:dT:=Aa
noncomputable def m0:Nat:=11
noncomputable def ann:Option aq:=W (cM 6)
noncomputable def Ar:gL:={scope:=pw.main.scope,locals:=mainNs,globals:=mainNs,cells:=[],code:=(cM 13),frame:=W 14}
noncomputable def bE:List cQ:=behindTheImports pw
noncomputable def cE:vW:=Code.body bE Ar
noncomputable def qE:cC:=(pU 0 0 0 0)
noncomputable def AL(f:Nat):Nat->List Nat:=KJ (λb=>[]) (λb c a=>bif fE a 0 then[] else Nat.mod a 128::c (Nat.div a 128)) f
noncomputable def aG(n:Nat):aA:=Str.mk (fX (AL 999 n))
noncomputable def dw(P:bF)(c:aq)(d:Option az)(l:List (aA×Nat×aq))(n:Nat)(s:Array (Option aq)):aI:=jr c d (.dict (fX (l.map λx=>DictEntry.mk (dX P x.1) (.str x.1 x.2.1) x.2.2)) n) s
noncomputable def Oe(l:List aI):Nat->Option aI:=List.rec (λb=>X) (λc b d e=>KJ (W c) (λf b=>d f) e) l
noncomputable def qs(l:List aI)(f:Nat):Nat->Nat->BT:=KJ (λe e=> .nil) (λe g c d=>match Oe l d with|none=> .nil|some h=> .node h (g (pJ c c) (pJ c d)) (g (pJ c c) (pJ (pJ c c) d))) f
noncomputable def z0:aA:=aG 0xbf7f2edc3bafdf
noncomputable def z2:aA:=aG 0x17efe3df92fdf
noncomputable def z3:aA:=aG 0x17efe5cf875e3c3c2fdf
noncomputable def z4:aA:=aG 0x2fdfe597261dfb2fdf
noncomputable def z5:aA:=aG 0xbf7f1e5e1cefdf
noncomputable def yt:aA:=aG 0xbf7f769c3b6fdf
noncomputable def tx:aA:=aG 0x17eff3ddbf4f4c3d37eedd86fdf
noncomputable def HZ:aA:=aG 0xbf7f9eed3d3669eb8afdf
noncomputable def Ia:aA:=aG 0xbf7f2ecd39afdf
noncomputable def yu:aA:=aG 0x79e0bba75c6bf6e9c3b31af
noncomputable def Ib:aA:=aG 0x2fdfc997463c38efdf
noncomputable def Xn:aA:=aG 0x7d97675c9bf6bc
noncomputable def cN:aA:=aG 0x1cfa6ed3a1765e5bf1aee98f2f3
noncomputable def rh:aA:=aG 0x6cd987bdf
noncomputable def nu:aA:=aG 0xe597a74cb9f2ece1d7a5f
noncomputable def ny:aA:=aG 0x74dda77d0
noncomputable def pA:aA:=aG 0xc9bb4cb
noncomputable def nA:aA:=aG 0x1bb7e9e987a6ecba794f
noncomputable def nB:aA:=aG 0xddbf4f4c38f7cc
noncomputable def pB:aA:=aG 0x1d3c65e9bb7c3
noncomputable def rj:aA:=aG 0x1973eec3a31dfdda77e3
noncomputable def gJ:aA:=aG 0x2fdfcbb3ae4dfb6fdf
noncomputable def lh:aA:=aG 0xbf7f2edc3bb661ebc6fdf
noncomputable def jm:aA:=aG 0x17efefdd97769d9d39f2d39afdf
noncomputable def gK:aA:=aG 0xbf7fa69dda6fdf
noncomputable def yw:aA:=aG 0x17eff4cb9efdf
noncomputable def yx:aA:=aG 0x17eff4cbcefdf
noncomputable def yz:aA:=aG 0x2fdfcbd32eccb92fdf
noncomputable def jn:aA:=aG 0x5fbfcf2f4eb8b4f2e9d30dfc7a7a61e9cefdf
noncomputable def cK:aA:=aG 0xcdb32f3
noncomputable def tA:aA:=aG 0x78cb93769
noncomputable def Ic:aA:=aG 0x18f7e4
noncomputable def Ie:aA:=aG 0x5fbfd34eed37efaee597a74cb9f2ece1d7a5f
noncomputable def Ig:aA:=aG 0x1ab16f
noncomputable def Ih:aA:=aG 0xbf7fa65cf7efaee597a74cb9f2ece1d7a5f
noncomputable def iM:aA:=aG 0x65ebb30f6
noncomputable def Ii:aA:=aG 0xbf7fa65e77efaee597a74cb9f2ece1d7a5f
noncomputable def Ij:aA:=aG 0x17efe5e997665c97efaee597a74cb9f2ece1d7a5f
noncomputable def jR:aA:=aG 0xbf7fa63d392fdf
noncomputable def jS:aA:=aG 0x17efe6cbcb5e1cbdefdf
noncomputable def Xo:aA:=aG 0xa7ca059e1474dda77d0
noncomputable def Xp:aA:=aG 0x5fbfcfa6fd9cefdf
noncomputable def Xq:aA:=aG 0x1cf26ccba735f
noncomputable def Xr:aA:=aG 0x1cfa6ceb87365c97f26ccba735f
noncomputable def yA:aA:=aG 0x17eff7cbbafdf
noncomputable def vK:aA:=aG 0x65d7876df
noncomputable def yB:aA:=aG 0xcb8f0ece19795f
noncomputable def Xs:aA:=aG 0x17efe5c787670cbcafdf
noncomputable def yC:aA:=aG 0xbf7f970cbcafdf
noncomputable def yE:aA:=aG 0x1d31e9c9cf0df
noncomputable def yF:aA:=aG 0x2fdfe79f961ef97774cb9efdf
noncomputable def Xu:aA:=aG 0x2fdfe79f961bfa31f4c3b6fdf
noncomputable def vL:aA:=aG 0x78
noncomputable def vM:aA:=aG 0x79
noncomputable def alm:aA:=aG 0x5fbfb3665c7cf9e1d98efdf
noncomputable def Ik:aA:=aG 0x5fbfdf2eebf7d774dda77d0
noncomputable def Io:aA:=aG 0x1cf663
noncomputable def Xv:aA:=aG 0xcbb3161e597a69
noncomputable def tB:aA:=aG 0x3a6cebcf2f2
noncomputable def Cp:aA:=aG 0x1975e1db7d774dda77d0
noncomputable def Xw:aA:=aG 0x197662c3cb2f4d28396f41971eecbd78e5e6830a0dbbf96641d31e5d58b7a0e9bb4efa083be5dc830a0cbaf0cd
noncomputable def Ip:aA:=aG 0x5fbfcf9e1d98efdf
noncomputable def Iq:aA:=aG 0x32e3c3b3865e57d774dda77d0
noncomputable def Ir:aA:=aG 0x2fdfe5c32f2bf7d774dda77d0
noncomputable def Iu:aA:=aG 0x74c7a7273c37d774dda77d0
noncomputable def Iv:aA:=aG 0xbf7f9e7e587be5ddd32e7bf7d774dda77d0
noncomputable def Xx:aA:=aG 0x6083965c5b7aee4193665d399072df99073c3a7641
noncomputable def Xy:aA:=aG 0x6283965c5b7aee4193665d399072df99073c3a7641
noncomputable def Xz:aA:=aG 0x1774d19faefdc839e94197aecc3d9073e9a5065e59747741979ecc399073c2839f4ddd77e341d34a0779b665e7d34a0f38906eefbf76b40b39e4dda75a0ef97320c28336f419774f
noncomputable def yG:aA:=aG 0xbf7f66fdf8afdf
noncomputable def Iw:aA:=aG 0x5fbfd34eed37efaec9bb4cb
noncomputable def Iy:aA:=aG 0x5fbfb37efc57efaec9bb4cb
noncomputable def XD:aA:=aG 0x45a726bcb873e643
noncomputable def XE:aA:=aG 0x52831674999327c3
noncomputable def XF:aA:=aG 0x8b4e4d7970e7cc874a2d49d567c3
noncomputable def XG:aA:=aG 0xa53e4d28b52c45
noncomputable def XH:aA:=aG 0xb34a0c49d567c2
noncomputable def XI:aA:=aG 0xa53e4d28b52749
noncomputable def XJ:aA:=aG 0x2ec99726eebbf920cfbb4e8e9bf72059cf2f4c3bb4e4e5bf7e341cf0a0e7cb2e2dbd7720cbb37e8ee81d74f197a6edf8d063d3cba65dbbf2e74197454
noncomputable def yH:aA:=aG 0x73d98eff4dda77f0
noncomputable def yJ:aA:=aG 0x1cf663bfcbaefe9bb7e3
noncomputable def yK:aA:=aG 0x1e37e2bfcbaefe9bb7e3
noncomputable def yM:aA:=aG 0xf1bf15fe7d3765db9f2f3
noncomputable def yN:aA:=aG 0x6edfa7a61e9bb2e9e5befe5d99f761
noncomputable def yO:aA:=aG 0xcbb31f2d38eff4dda77f0bfd3769dfc2ff4dda77f0bfbb4dfe9bb4efe17f2f4c38f7ec
noncomputable def Iz:aA:=aG 0x73d98eff4dda77f05dd3c65e9bb7c3
noncomputable def IA:aA:=aG 0x1cf663bfcbaefe9bb7e35dd3c65e9bb7c3
noncomputable def IB:aA:=aG 0x1e37e2bfcbaefe9bb7e35dd3c65e9bb7c3
noncomputable def IE:aA:=aG 0xf1bf15fe7d3765db9f2f35dd3c65e9bb7c3
noncomputable def yP:aA:=aG 0x74e7cb4e6
noncomputable def yQ:aA:=aG 0x326edf8f2f3
noncomputable def XK:aA:=aG 0x1d31f5c9bf970
noncomputable def IF:aA:=aG 0x6edfa7a61e9bb2e9e5befe5d99f7615dd3c65e9bb7c3
noncomputable def XM:aA:=aG 0x74dda77f0
noncomputable def IG:aA:=aG 0xcbb31f2d38eff4dda77f0bfd3769dfc2ff4dda77f0bfbb4dfe9bb4efe17f2f4c38f7ec5dd3c65e9bb7c3
noncomputable def yR:aA:=aG 0x32617dab160c3ae9bfdf0ec
noncomputable def tC:aA:=aG 0xcbcf4f7e5a70f0
noncomputable def pC:aA:=aG 0xcb9f245c987ad1
noncomputable def tD:aA:=aG 0xe797a69e7bf870df7f474d3deff3cb9f265
noncomputable def tE:aA:=aG 0x32cfbf65fd9a72e3
noncomputable def tG:aA:=aG 0x1d31eed3d39e9c97f7f4
noncomputable def pD:aA:=aG 0x6edfa7a61d9d73eec3a7954
noncomputable def lu:aA:=aG 0x1d31e5ddbb7e3
noncomputable def tH:aA:=aG 0x32e7c996fe5e78715fc9bb4e6
noncomputable def tI:aA:=aG 0x65cfcb2ed
noncomputable def tJ:aA:=aG 0xe7973e4cb7f7f4
noncomputable def tK:aA:=aG 0x65e987269c9bb0e3bfd3365d97f7f4
noncomputable def tM:aA:=aG 0x32f4c3934e4dd871dfe9a33e9e57f7f4
noncomputable def tN:aA:=aG 0x1cf2e7c996fe5ebc74eeeb7f7f4
noncomputable def aln:aA:=aG 0x39e5e7871dfcbcf0e2
noncomputable def tO:aA:=aG 0x39f4dda77f0bfbfbf4bf97a61d9d73eec3a7974
noncomputable def tP:aA:=aG 0xe7d3769dfc2fe5cbcb474bf97a61d9d73eec3a7974
noncomputable def tQ:aA:=aG 0x39f3dfcb1dfef8765f
noncomputable def tS:aA:=aG 0x1cb2eedfbf9dfef8765f
noncomputable def tT:aA:=aG 0x74f19775fef8765f
noncomputable def tU:aA:=aG 0x1df0ec
noncomputable def gv:aA:=aG 0xcb9f265bf930f5e2bbce1ddd70eccb91765e5bf1aee98f2f3
noncomputable def XN:aA:=aG 0xacd9382ecb9f265bf930f5e2bf9e7c8bf5e9c7b32f5db879fe5faf9aecf8f1f35ddfbf75ebdd70e9d3420408100acb9f2655b930f5a2bf4ebd3dd7e7e5bd761d3932f0d3af4f75dbb2af5eeb9f0e9d3420408100a75971eecbcb2e6cb4850a5d97975e98faf2e9cd061e987220cb9f2655b930f5e2810204029d6ede83265e78610a
noncomputable def vN:aA:=aG 0x39f4dda77f0c9bb2dfdbbf966
noncomputable def kA:aA:=aG 0x1d3c65e9bb7e3
noncomputable def tV:aA:=aG 0x193765
noncomputable def vO:aA:=aG 0x64dd96feddfcb35fe99b2ec
noncomputable def tW:aA:=aG 0x1d3961e9cefeddfcb35fe99b2ec
noncomputable def tX:aA:=aG 0xcbd34f3dfc386f
noncomputable def vP:aA:=aG 0x326ecb7f6efe59aff4d19f4f2
noncomputable def vQ:aA:=aG 0xe9cb0f4e77f6efe59aff4d19f4f2
noncomputable def ro:aA:=aG 0x1932f4c3d37f2
noncomputable def rp:aA:=aG 0x74e587a73
noncomputable def nF:aA:=aG 0x32f4cbb32e4
noncomputable def yT:aA:=aG 0x336fbfbb7e9e987a6ecba796f
noncomputable def yU:aA:=aG 0x32e3d3b3873
noncomputable def yV:aA:=aG 0xe187bf3
noncomputable def Cq:aA:=aG 0x1cfa6ed3bf864dd96feddfcb32ecb9f245c987ad1
noncomputable def XO:aA:=aG 0x5dcfa6ed3bf864dd9506ddfcb320cb9f26541df2ee41cf2f4c397943
noncomputable def IH:aA:=aG 0xe9e32f4ddbf1aecb9f245c987ad1
noncomputable def II:aA:=aG 0xc9bb2aecb9f245c987ad1
noncomputable def XQ:aA:=aG 0xa5dbb7e9e987a6fdc834e6d9bfa5340ba520c9bb0a0e787169eb1d02e9883769408ba73cb11120c3af08a
noncomputable def IJ:aA:=aG 0x326ecb7f6efe59aff4cd9762ecb9f245c987ad1
noncomputable def XR:aA:=aG 0x52eddbf4f4c3d37ee41a736cdfd29a05d29064dd85073c38b4f58e8174c41bb4a045d3c65dd31120c3af08a
noncomputable def IK:aA:=aG 0xe9cb0f4e77f6efe59aff4cd9762ecb9f245c987ad1
noncomputable def XS:aA:=aG 0x52eddbf4f4c3d37ee41a736cdfd29a05d29064dd85073c38b4f58e8174c41bb4a045d3c65dd3d120c3af08a
noncomputable def IL:aA:=aG 0x65e9a79efe1c37aecb9f245c987ad1
noncomputable def XT:aA:=aG 0x14bb76fd3d30f4dfb9069cdb37f4a68174a419376141cf0e2d3d63a05d3106ed28116df34d120c3af08a
noncomputable def IM:aA:=aG 0x193765bfb77f2cd7fa68cfa792ecb9f245c987ad1
noncomputable def XU:aA:=aG 0x52eddbf4f4c3d37ee41a736cdfd29a05d29064dd85073c38b4f58e8174c41bb4a045db2f2e149120c3af08a
noncomputable def IP:aA:=aG 0x74e587a73bfb77f2cd7fa68cfa792ecb9f245c987ad1
noncomputable def XW:aA:=aG 0x52eddbf4f4c3d37ee41a736cdfd29a05d29064dd85073c38b4f58e8174c41bb4a045db2f2e13d120c3af08a
noncomputable def IQ:aA:=aG 0xc997a61e9bf92ecb9f245c987ad1
noncomputable def XX:aA:=aG 0x14bb76fd3d30f4dfb9069cdb37f4a68174a419376141cf0e2d3d63a05d3106ed281174df49120c3af08a
noncomputable def IS:aA:=aG 0x3a72c3d39aecb9f245c987ad1
noncomputable def XY:aA:=aG 0x14bb76fd3d30f4dfb9069cdb37f4a68174a419376141cf0e2d3d63a05d3106ed281167e53d120c3af08a
noncomputable def IT:aA:=aG 0x5fbfd34eed37efaecb9f245c987ad1
noncomputable def XZ:aA:=aG 0x72cba3a6f
noncomputable def IU:aA:=aG 0xe98f2eeddbf1aecb9f245c987ad1
noncomputable def IW:aA:=aG 0x197a65d99722ecb9f245c987ad1
noncomputable def IX:aA:=aG 0x19b7dfddbf4f4c3d3765d3cb7aecb9f245c987ad1
noncomputable def IY:aA:=aG 0x1971e9d9c39aecb9f245c987ad1
noncomputable def IZ:aA:=aG 0x70c3df9aecb9f245c987ad1
noncomputable def Ja:aA:=aG 0xcb9f265
noncomputable def Yb:aA:=aG 0xe7b34f4eabbce1ddd70eccb91765e5bf1aee98f2f3
noncomputable def gS:aA:=aG 0xddbf4f4c3b3ae7dd874f2e8bbce1ddd70eccb91765e5bf1aee98f2f3
noncomputable def Yc:aA:=aG 0x2eddbf4f4c3b3ae7dd874f2e8839f4dd979e5e5c32d2
noncomputable def vR:aA:=aG 0xf387775c3b32e4
noncomputable def yW:aA:=aG 0x73cbb33eec3a7974
noncomputable def vS:aA:=aG 0x6edfa7a61d9d73eec3a7974bf97d69d9874f4d3bb4df
noncomputable def Cr:aA:=aG 0x3ce1ddd70eccb9176edfa7a61d9d73eec3a7954
noncomputable def Yd:aA:=aG 0x14bb9f4dda77f04197474419b7a0ddbf4f4c3b3ae7dd874f2e881d73ddcbaf4cbc9d0a5dd3c65e9bb7e3418f4f2e9976efcb9d03ae9e32f4ddbf1a0db87961e0e852ecbd30eceb9f761d3cba20dfd1073e9bb4efe0832f2dfb5072de819a075cfa6ed3bf820db87961e0e850acd9382ecb9f265bf930f5e2bf9e7c8bf5e9c7b32f5db879fe5faf9aecf8f1f35ddfbf75ebdd70e9d3420408100a75971eecbcb2e6cb48560c0a54f3e9bb4efe0a3765d8a27e0c0810204029d79e9a7c65d9c36efc683cf2dfb72cd158302953cfa6ed3bf828dd97620cfbf62054814f3e9bb4efe0a3765d8a27e0c0810204029d79e9a7c65d9c36efc6832edd35050a5da736cdfd29a05d2902641cf0e2d3d63a05d31079c4836e8e9a796fcfb30a0e597af1ddbf1adc9bb0adcb934f6d39106ede83265e78610a14bb9f4dda77f041bb2f6d39d066de8376fd3d30eceb9f761d3cba20f387775c3b32c441cfa63ebcba73ddbe18a
noncomputable def Ye:aA:=aG 0x65c9a79dfe99b2ec
noncomputable def Yh:aA:=aG 0x32e4d3ceff4d19f4f2
noncomputable def Jb:aA:=aG 0x2fdfe9a7769bf7d76edfa7a61d9d73eec3a7954
noncomputable def Jc:aA:=aG 0xcbd32eccb9176edfa7a61d9d73eec3a7954
noncomputable def Jd:aA:=aG 0x1cf2eccfbb0e9e5d176edfa7a61d9d73eec3a7954
noncomputable def Cs:aA:=aG 0x1bb7e9e987675cfbb0e9e5d2fe5f5a7661d3d34eed37d76edfa7a61d9d73eec3a7954
noncomputable def Ct:aA:=aG 0x65cf932dfcbcf0e2
noncomputable def Je:aA:=aG 0x1cb7f4c38f7ecbf97663e5a71dfdda6ff4dda77f0
noncomputable def Yi:aA:=aG 0x6edfa7a61d9d73eec3a7974
noncomputable def Yj:aA:=aG 0x32f4c3934e4dd871dfe9e32ee
noncomputable def Yk:aA:=aG 0x73e9bb4efe17f265e9cb7f3
noncomputable def Yl:aA:=aG 0x32e7c996ff4e7cb4e6
noncomputable def Jf:aA:=aG 0x70
noncomputable def Jg:aA:=aG 0x61
noncomputable def Jh:aA:=aG 0x62
noncomputable def y0:String:=PySem.W.SL.s14018661285674007319x4
noncomputable def Co:String:=PySem.W.SL.s591115383303110208x11
noncomputable def ph:String:=PySem.W.SL.s8101838861749082086x8
noncomputable def jB:String:=PySem.W.SL.s2742458400755230247x6
noncomputable def y70:String:=PySem.W.SL.s4290257624100764138x5
noncomputable def aJ:String:=PySem.W.SL.s2766695959194262286x5
noncomputable def pq:String:=PySem.W.SL.s17162191345867700912x4
noncomputable def HY:String:=PySem.W.SL.s7097527257260152453x26
noncomputable def ali:String:=PySem.W.SL.s5856160107412720595x4
noncomputable def oZ:String:=PySem.W.SL.s658472552662922059x5
noncomputable def bB:String:=PySem.W.SL.s7174869446012820540x8
noncomputable def pg:String:=PySem.W.SL.s11030030927630378310x26
noncomputable def tj:String:=PySem.W.SL.s11443829558043349243x14
noncomputable def alj:String:=PySem.W.SL.s14755015743595814543x17
noncomputable def tu:String:=PySem.W.SL.s6511155373996960695x17
noncomputable def tv:String:=PySem.W.SL.s12411053484034534018x21
noncomputable def tw:String:=PySem.W.SL.s10220274742760427390x26
noncomputable def rb:String:=PySem.W.SL.s4860613602091757760x24
noncomputable def aW(a:aA)(b:aA)(c:cQ)(d:Nat)(e:List (aA×az))(f:aq)(g:aq)(h:aq)(i:(Option Nat))(j:aq)(k:aq):bI:=FuncData.mk a b (NM c) (.stmts (ou c)) (NO c) d e f .none g h i j k 0
noncomputable def aN(a:String):aI:=jr (.type a) X (.seq #[] 0) #[]
noncomputable def bH(a:aA)(b:Nat)(c:aA)(d:Nat)(e:Nat)(f:Nat)(g:Nat)(h:Nat)(i:Nat)(j:Nat)(k:Nat)(l:Bool)(m:Nat)(n:aq)(o:aq)(p:aq)(q:Nat)(r:Nat):aI:=jr (.type ali) X (.fields (.mk [.str a b,.str c d,.str yu e,.int (.ofNat f) 0,.int (.ofNat g) 0,.int (.ofNat h) 0,.int (.ofNat i) 0,.int (.ofNat j) 0,.ref k,.bool l,.int (.ofNat 181) 0,.ref m,.none,n,o,p,.int (.ofNat q) 0,.int (.ofNat f) 0,.str yu r])) #[]
noncomputable def iE(a:Nat)(b:Nat)(c:aA)(d:Nat):aI:=jr (.type oZ) X .plain (.mk [W (.ref a),W (.ref 3),W (.ref b),X,W (.str c d),X,W (.ref 0)])
noncomputable def eu(a:aq):aI:=jr (.type aJ) X (.seq (.mk [a]) 0) #[]
noncomputable def kg(a:String)(b:(Option Nat))(c:aq)(d:aq):aI:=jr (.type a) b (.fields (.mk [c,d])) #[]
noncomputable def jd(a:aq)(b:aq)(c:aq):aI:=jr (.type aJ) X (.seq (.mk [a,b,c]) 0) #[]
noncomputable def kh(a:aq)(b:aq):aI:=jr (.type aJ) X (.seq (.mk [a,b]) 0) #[]
noncomputable def jL(a:aA)(b:Nat)(c:Nat)(d:String)(e:aq):aI:=jr (.type alj) X (.fields (.mk [.str a b,.ref c,.builtin d,e])) #[]
noncomputable def jM(a:Nat):aI:=jr (.type y70) X (.fields (.mk [.ref a,.ref a,.ref a])) #[]
noncomputable def NZ(a:Nat)(b:Nat)(c:Nat)(d:Nat)(e:Nat)(f:Nat)(g:Nat)(h:Nat)(i:Nat)(j:Nat)(k:Nat)(l:Nat):aI:=jr .none X (.fields (.mk [.int (.ofNat a) 0,.int (.ofNat 4) 0,.ref b,.int (.ofNat c) 0,.int (.ofNat 4) 0,.ref d,.int (.ofNat e) 0,.int (.ofNat 4) 0,.ref f,.int (.ofNat g) 0,.int (.ofNat 4) 0,.ref h,.int (.ofNat i) 0,.int (.ofNat 4) 0,.ref j,.int (.ofNat k) 0,.int (.ofNat 4) 0,.ref l])) #[]
noncomputable def jc(a:Nat)(b:Nat):aI:=jr (.ref a) (W b) .plain #[]
noncomputable def mU(a:aq)(b:aq)(c:aq)(d:aq)(e:aq)(f:aq)(g:aq):aI:=jr a X (.fields (.mk [b,c,d,e,f,g])) #[]
noncomputable def Fw(a:aA)(b:Nat)(c:aA)(d:Nat)(e:aA)(f:Nat)(g:aA)(h:Nat)(i:aA)(j:Nat):aI:=jr (.type aJ) X (.seq (.mk [.str a b,.str c d,.str e f,.str g h,.str i j]) 0) #[]
noncomputable def Oa(a:aA)(b:Nat)(c:aA)(d:Nat)(e:aA)(f:Nat)(g:aA)(h:Nat)(i:aA)(j:Nat)(k:aA)(l:Nat)(m:aA)(n:Nat)(o:aA)(p:Nat):aI:=jr (.type aJ) X (.seq (.mk [.str a b,.str c d,.str e f,.str g h,.str i j,.str k l,.str m n,.str o p]) 0) #[]
noncomputable def qr(a:aA)(b:Nat)(c:aA)(d:Nat)(e:aA)(f:Nat)(g:aA)(h:Nat):aI:=jr (.type aJ) X (.seq (.mk [.str a b,.str c d,.str e f,.str g h]) 0) #[]
noncomputable def fd1:bI:=aW rh rh (bA 0) 3 [] .none .none (.str yt 164) X (.ref 20) .none
noncomputable def fd3:bI:=aW gK Ie (bw 2 0) 3 [] .none .none (.str cN 194) X (.ref 34) .none
noncomputable def EV:bI:=aW yw Ih (bw 2 1) 3 [] (.ref 36) .none (.str cN 194) X (.ref 42) .none
noncomputable def fd7:bI:=aW yx Ii (bw 2 2) 3 [] .none .none (.str cN 194) X (.ref 49) .none
noncomputable def fd9:bI:=aW yz Ij (bw 2 3) 3 [] .none .none (.str cN 194) X (.ref 56) .none
noncomputable def AF:bI:=aW yA Ik (bw 3 4) 3 [] .none (.str (aG 0x14f940b3c28e9bb4efa08336f41971eec3d39eed283be5dc832f4c397943) 281) (.str cN 194) X (.ref 81) .none
noncomputable def adu:bI:=aW vK Cp (bw 3 5) 3 [] .none (.str Xw 291) (.str cN 194) (W 92) (.ref 88) .none
noncomputable def adv:bI:=aW yB Iq (bw 3 6) 3 [(Ip,68)] .none (.str (aG 0xe797aecc3d9077cbb9068e9a7ba0e793665d399064cba7369c797873419f769c787670cbc9074c797562de83a6ed3be820ef97720c283772ebd32d2) 314) (.str cN 194) X (.ref 99) (.ref 93)
noncomputable def adw:bI:=aW yC Ir (bw 3 8) 3 [] .none (.str (aG 0x19f769e5d39a0ddbf4f4c3d3765e797970cbc9064cbd3a61dbcb7e641e7665c7a7720c283772ebd32d2) 323) (.str cN 194) X (.ref 106) .none
noncomputable def adx:bI:=aW yE Iu (bw 3 9) 3 [] .none .none (.str cN 194) X (.ref 113) .none
noncomputable def ady:bI:=aW yF Iv (bw 3 10) 3 [] .none (.str (aG 0xbb2ecd78f4f0419376141e786fc683ce241932f3aa8102ecbb3875e883769c3b3820c2839e1419b665e683772ebd32d2) 338) (.str cN 194) X (.ref 120) .none
noncomputable def adz:bI:=aW gK Iw (bw 4 1) 3 [] .none .none (.str cN 194) X (.ref 148) .none
noncomputable def adA:bI:=aW yG Iy (bw 4 2) 3 [] .none .none (.str cN 194) X (.ref 155) .none
noncomputable def adB:bI:=aW yH Iz (bw 7 1) 3 [] .none .none (.str cN 194) X (.ref 222) .none
noncomputable def adC:bI:=aW yJ IA (bw 7 2) 3 [] .none .none (.str cN 194) X (.ref 229) .none
noncomputable def adD:bI:=aW yK IB (bw 7 3) 3 [] .none .none (.str cN 194) X (.ref 236) .none
noncomputable def adE:bI:=aW yM IE (bw 7 4) 3 [] .none .none (.str cN 194) X (.ref 243) .none
noncomputable def ER:bI:=aW yN IF (bw 7 5) 3 [] .none (.str (aG 0x2ee7974ec419776f419376fc7979a0cba3a20e9bb4efe083a73e5a7320cba3a20d19faefe5a3a20f197a72cbd9065d1d106ddfcb320f387920cba3a20cdbd065c9a79a0d18f4e8ee8374f) 541) (.str cN 194) X (.ref 250) .none
noncomputable def ES:bI:=aW yO IG (bw 7 6) 3 [] .none (.str (aG 0x5d979e9efaf1efd98f965e9bbaefc68326ec3d39a0d18f4e8ee81673e597474de832e5e5a3a20d19faefe5a3a20cbb31f2d38d065d1d106fe8839e5d3b1074dda77f04185065e597457) 560) (.str cN 194) X (.ref 257) .none
noncomputable def ET:bI:=aW rj rj (bA 8) 3 [] .none (.str (aG 0x5ca59a0c9bb0a064832f2c2839eedfa7a61dda76efdd97220cba3a2841930e5d185073dfdfa20cba3a2059d3775dfb70a0cba3a20e7a506debcd065e7bf47741cf2e5e5a3a20c9bb0a0e7bfbf4419b7a0efbf920e9cf2f4e5bf4734197454) 577) (.str cN 194) X (.ref 271) .none
noncomputable def kQ:bI:=aW tC tC (bA 10) 3 [] .none .none (.str (aG 0x1cf669e9d5765e5bf1aee98f2f3) 579) X (.ref 278) .none
noncomputable def EU:bI:=aW vN Cq (bw 12 1) 3 [] .none (.str XO 620) (.str gv 590) (W 296) (.ref 292) .none
noncomputable def Nr:bI:=aW kA IH (bw 12 2) 3 [] .none .none (.str gv 590) X (.ref 302) .none
noncomputable def Nt:bI:=aW tV II (bw 12 3) 3 [] .none (.str XQ 648) (.str gv 590) X (.ref 310) .none
noncomputable def Nu:bI:=aW vO IJ (bw 12 4) 3 [] .none (.str XR 657) (.str gv 590) X (.ref 318) .none
noncomputable def Nv:bI:=aW tW IK (bw 12 5) 3 [] .none (.str XS 666) (.str gv 590) X (.ref 326) .none
noncomputable def Nw:bI:=aW tX IL (bw 12 6) 3 [] .none (.str XT 675) (.str gv 590) X (.ref 334) .none
noncomputable def Ny:bI:=aW vP IM (bw 12 7) 3 [] .none (.str XU 684) (.str gv 590) X (.ref 342) .none
noncomputable def Nz:bI:=aW vQ IP (bw 12 8) 3 [] .none (.str XW 693) (.str gv 590) X (.ref 350) .none
noncomputable def NA:bI:=aW ro IQ (bw 12 9) 3 [] .none (.str XX 702) (.str gv 590) X (.ref 358) .none
noncomputable def NB:bI:=aW rp IS (bw 12 10) 3 [] .none (.str XY 711) (.str gv 590) X (.ref 366) .none
noncomputable def rX:bI:=aW gK IT (bw 12 11) 3 [] (.ref 369) .none (.str gv 590) X (.ref 375) .none
noncomputable def EW:bI:=aW lu IU (bw 12 12) 3 [] .none (.str (aG 0x2ee597474de832e8e883474d3dd065cf932a0cba3a20e7d31e5ddbb7c3) 733) (.str gv 590) X (.ref 382) .none
noncomputable def EX:bI:=aW nF IW (bw 12 13) 3 [] .none (.str (aG 0x2ecb9f265419747441cf2f4cbb32c4) 741) (.str gv 590) X (.ref 389) .none
noncomputable def EY:bI:=aW yT IX (bw 12 14) 3 [] .none (.str (aG 0x1765cf932a0cba3a20dfd1065eda7a61d997920e9bb4efe0832e8e88336f41bb7e9e987a6ecba796f41cf772ebd32d2) 750) (.str gv 590) X (.ref 396) .none
noncomputable def EZ:bI:=aW yU IY (bw 12 15) 3 [] .none (.str (aG 0x5dcb2e8e9bd065d1d1068e9a7ba0cb9f265419747441cf2e3d3b3853) 761) (.str gv 590) X (.ref 403) .none
noncomputable def adF:bI:=aW yV IZ (bw 12 16) 3 [] .none .none (.str gv 590) X (.ref 410) .none
noncomputable def kR:bI:=aW tD tD (bA 13) 3 [] .none .none (.str gv 590) X (.ref 424) .none
noncomputable def Fd:bI:=aW tE tE (bA 15) 3 [] .none .none (.str Yb 789) X (.ref 431) .none
noncomputable def Fe:bI:=aW tG tG (bA 16) 3 [] .none .none (.str Yb 789) X (.ref 438) .none
noncomputable def xp:bI:=aW vR Cr (bw 18 1) 3 [] .none (.str Yd 829) (.str gS 807) (W 454) (.ref 450) .none
noncomputable def Ff:bI:=aW gK Jb (bw 18 2) 3 [] .none .none (.str gS 807) X (.ref 460) .none
noncomputable def adG:bI:=aW nF Jc (bw 18 3) 3 [] .none (.str (aG 0x176edfa7a61d9d73eec3a7974419747441b77f2cc832e7c99506ecbdb4e741cf2f4cbb32c4) 860) (.str gS 807) X (.ref 467) .none
noncomputable def adH:bI:=aW yW Jd (bw 18 4) 3 [] .none .none (.str gS 807) X (.ref 474) .none
noncomputable def Fg:bI:=aW vS Cs (bw 18 5) 3 [] .none .none (.str gS 807) (W 485) (.ref 481) .none
noncomputable def rY:bI:=aW lu lu (bA 19) 3 [] .none .none (.str gS 807) X (.ref 498) .none
noncomputable def lY:bI:=aW tH tH (bA 20) 3 [] .none .none (.str gS 807) X (.ref 505) .none
noncomputable def Fh:bI:=aW tI tI (bA 21) 3 [] .none .none (.str gS 807) X (.ref 512) .none
noncomputable def xq:bI:=aW tJ tJ (bA 22) 3 [] .none .none (.str gS 807) X (.ref 519) .none
noncomputable def ot:bI:=aW tK tK (bA 23) 3 [] .none .none (.str gS 807) X (.ref 526) .none
noncomputable def om:bI:=aW tM tM (bA 24) 3 [] .none .none (.str gS 807) X (.ref 533) .none
noncomputable def ke:bI:=aW tN tN (bA 25) 3 [] .none .none (.str gS 807) X (.ref 540) .none
noncomputable def EP:bI:=aW tO tO (bA 27) 3 [] .none .none (.str gS 807) X (.ref 548) .none
noncomputable def xn:bI:=aW tP tP (bA 28) 3 [] .none .none (.str gS 807) X (.ref 555) .none
noncomputable def AE:bI:=aW tQ tQ (bA 30) 3 [] .none .none (.str yR 992) X (.ref 562) .none
noncomputable def AG:bI:=aW tS tS (bA 31) 3 [] .none .none (.str yR 992) X (.ref 569) .none
noncomputable def AH:bI:=aW tT tT (bA 32) 3 [] .none .none (.str yR 992) X (.ref 576) .none
noncomputable def xo:bI:=aW tU tU (bA 33) 3 [] .none .none (.str yR 992) X (.ref 581) .none
noncomputable def ob3(P:bF):aI:=dw P (.type y0) X [(z0,165,.str yt 164),(z2,166,.none),(z3,167,.none),(z4,168,.builtin HY),(z5,169,.none),(tx,170,.ref 6),(HZ,171,.ref 4),(Ia,173,.str yu 172),(Ib,174,.none)] 9 #[]
noncomputable def bo:aI:= .mk .none X (.fields #[]) #[]
noncomputable def Hh:aI:=bH Xn 182 Xn 183 184 1 0 0 0 0 11 aw 12 .none .none .none 185 186
noncomputable def aiz(P:bF):aI:=dw P (.type y0) X [(z0,165,.str cN 194),(z2,166,.none),(z3,167,.none),(z4,168,.builtin HY),(z5,169,.none),(tx,170,.ref 6),(HZ,171,.ref 4),(Ia,173,.str yu 172),(Ib,174,.none),(rh,193,.ref 21),(nu,252,.ref 60),(ny,367,.ref 132),(pA,405,.ref 159),(nA,444,.ref 182),(nB,482,.ref 205),(pB,568,.ref 261),(rj,578,.ref 272)] 17 #[]
noncomputable def SV:aI:=eu (.str (aG 0x6b) 190)
noncomputable def Ti:aI:= .mk .none X (.func (aW rh rh (bA 0) 0 [] .none .none .none X .none .none)) #[]
noncomputable def Tz:aI:=bH rh 187 rh 188 189 1 1 0 0 3 15 af 16 (.ref 17) (.ref 18) (.ref 19) 191 192
noncomputable def TQ:aI:= .mk (.type bB) X (.func fd1) #[]
noncomputable def jP:aI:=kg pg X (.builtin PySem.W.SL.s10062305145149207511x16) (.type pq)
noncomputable def Ud(P:bF):aI:=dw P (.type y0) X [(gJ,203,.str cN 194),(lh,205,.str nu 204),(jm,207,.int (.ofNat 5) 206),(gK,216,.ref 35),(yw,225,.ref 43),(yx,234,.ref 50),(yz,242,.ref 57),(jn,245,.ref 58)] 8 #[]
noncomputable def Ue:aI:= .mk .none X (.fields (.mk [.int (.ofNat 7) 0,.int (.ofNat 4) 0,.ref 34,.int (.ofNat 11) 0,.int (.ofNat 4) 0,.ref 42,.int (.ofNat 18) 0,.int (.ofNat 4) 0,.ref 49,.int (.ofNat 21) 0,.int (.ofNat 4) 0,.ref 56])) #[]
noncomputable def Ug:aI:=bH nu 198 nu 199 200 5 0 0 0 0 25 aw 26 .none .none .none 201 202
noncomputable def Uh:aI:=jd (.str cK 211) (.str tA 212) (.str Ic 213)
noncomputable def Ui:aI:= .mk .none X (.func (aW gK Ie (bw 2 0) 0 [] .none .none .none X .none .none)) #[]
noncomputable def Uj:aI:=bH gK 208 Ie 209 210 7 3 0 0 3 29 af 30 (.ref 31) (.ref 32) (.ref 33) 214 215
noncomputable def Uk:aI:= .mk (.type bB) X (.func fd3) #[]
noncomputable def Ul:aI:=jd (.str cK 220) (.str Ig 221) (.str (aG 0x197879e9ab16f) 222)
noncomputable def Um:aI:= .mk .none X (.func (aW yw Ih (bw 2 1) 0 [] .none .none .none X .none .none)) #[]
noncomputable def Uo:aI:=bH yw 217 Ih 218 219 11 3 0 0 3 37 af 38 (.ref 39) (.ref 40) (.ref 41) 223 224
noncomputable def Uq:aI:= .mk (.type bB) X (.func EV) #[]
noncomputable def Ur:aI:=jd (.str cK 229) (.str Ig 230) (.str iM 231)
noncomputable def Ut:aI:= .mk .none X (.func (aW yx Ii (bw 2 2) 0 [] .none .none .none X .none .none)) #[]
noncomputable def Uu:aI:=bH yx 226 Ii 227 228 18 3 0 0 3 44 af 45 (.ref 46) (.ref 47) (.ref 48) 232 233
noncomputable def Uv:aI:= .mk (.type bB) X (.func fd7) #[]
noncomputable def Uw:aI:=kh (.str cK 238) (.str Ig 239)
noncomputable def Ux:aI:= .mk .none X (.func (aW yz Ij (bw 2 3) 0 [] .none .none .none X .none .none)) #[]
noncomputable def Uy:aI:=bH yz 235 Ij 236 237 21 2 0 0 3 51 af 52 (.ref 53) (.ref 54) (.ref 55) 240 241
noncomputable def Uz:aI:= .mk (.type bB) X (.func fd9) #[]
noncomputable def UA:aI:=kh (.str z2 243) (.str tA 244)
noncomputable def UB(P:bF):aI:=dw P (.type y0) X [(gJ,203,.str cN 194),(jm,207,.int (.ofNat 5) 206),(gK,216,.ref 35),(yw,225,.ref 43),(yx,234,.ref 50),(yz,242,.ref 57),(jn,245,.ref 58),(jR,247,.ref 61),(jS,249,.ref 62),(z2,250,.none)] 4 #[]
noncomputable def UC:aI:= .mk (.type pq) X (.cls (rx nu [.type jB] [.ref 60,.type jB] 59 nu af [] [] aw X aw)) (.mk [X,X,W (.str nu 196),W (.str nu 204),W (.builtin tj),W (.bool af)])
noncomputable def UD:aI:=jL jR 246 60 tu (.builtin tv)
noncomputable def UE:aI:=jL jS 248 60 tw .none
noncomputable def UG:aI:=kg pg X (.builtin rb) (.ref 60)
noncomputable def UH(P:bF):aI:=dw P (.type y0) X [(gJ,260,.str cN 194),(lh,262,.str ny 261),(jm,264,.int (.ofNat 23) 263),(z2,266,.str Xo 265),(Xp,268,.ref 73),(Xq,271,.ref 74),(Xr,272,.ref 75),(yA,282,.ref 82),(vK,304,.ref 91),(yB,315,.ref 100),(Xs,316,.ref 100),(yC,324,.ref 107),(yE,331,.ref 114),(yF,339,.ref 121),(Xu,342,.ref 122),(vL,352,.ref 124),(vM,362,.ref 127),(jn,363,.ref 129),(alm,364,.ref 68)] 19 #[]
noncomputable def UI:aI:= .mk (.type PySem.W.SL.s15660640913423913556x4) X (.cell (W (.ref 132))) #[]
noncomputable def UJ:aI:=NZ 29 81 34 88 41 99 52 106 56 113 59 120
noncomputable def UK:aI:=bH ny 255 ny 256 257 23 0 0 0 0 69 aw 70 .none .none .none 258 259
noncomputable def UL:aI:=kh (.str vL 269) (.str vM 270)
noncomputable def UM:aI:=jd (.str (aG 0xe7b31df) 276) (.str vL 277) (.str vM 278)
noncomputable def UN:aI:= .mk .none X (.func (aW yA Ik (bw 3 4) 0 [] .none .none .none X .none .none)) #[]
noncomputable def UO:aI:=bH yA 273 Ik 274 275 29 3 0 0 3 76 af 77 (.ref 78) (.ref 79) (.ref 80) 279 280
noncomputable def UP:aI:= .mk (.type bB) X (.func AF) #[]
noncomputable def UQ:aI:=jd (.str Io 286) (.str Xv 287) (.str tB 288)
noncomputable def UR:aI:= .mk .none X (.func (aW vK Cp (bw 3 5) 0 [] .none .none .none X .none .none)) #[]
noncomputable def US:aI:=bH vK 283 Cp 284 285 33 2 0 0 3 83 af 84 (.ref 85) (.ref 86) (.ref 87) 289 290
noncomputable def UT:aI:= .mk (.type bB) X (.func adu) #[]
noncomputable def UU(P:bF):aI:=dw P (.type y0) X [(gJ,293,.str cN 194),(z0,296,.str vK 295),(lh,299,.str Cp 298),(z2,301,.str Xw 291),(tx,303,.ref 92)] 5 #[]
noncomputable def UW:aI:=kg Co (W 90) (.ref 89) (.bool aw)
noncomputable def UX:aI:=jd (.str cK 309) (.str (aG 0xe793beb) 310) (.str tB 311)
noncomputable def UY:aI:= .mk .none X (.func (aW yB Iq (bw 3 6) 0 [] .none .none .none X .none .none)) #[]
noncomputable def UZ:aI:=bH yB 305 Iq 306 307 41 1 1 0 11 94 af 95 (.ref 96) (.ref 97) (.ref 98) 312 313
noncomputable def Vb:aI:= .mk (.type bB) X (.func adv) #[]
noncomputable def Vc:aI:= .mk .none X (.func (aW yC Ir (bw 3 8) 0 [] .none .none .none X .none .none)) #[]
noncomputable def Vd:aI:=bH yC 317 Ir 318 319 52 1 0 0 3 101 af 102 (.ref 103) (.ref 104) (.ref 105) 321 322
noncomputable def Ve:aI:= .mk (.type bB) X (.func adw) #[]
noncomputable def Vf:aI:= .mk .none X (.func (aW yE Iu (bw 3 9) 0 [] .none .none .none X .none .none)) #[]
noncomputable def Vg:aI:=bH yE 325 Iu 326 327 56 1 0 0 3 108 af 109 (.ref 110) (.ref 111) (.ref 112) 329 330
noncomputable def Vh:aI:= .mk (.type bB) X (.func adx) #[]
noncomputable def Vi:aI:= .mk .none X (.func (aW yF Iv (bw 3 10) 0 [] .none .none .none X .none .none)) #[]
noncomputable def Vj:aI:=bH yF 332 Iv 333 334 59 1 0 0 3 115 af 116 (.ref 117) (.ref 118) (.ref 119) 336 337
noncomputable def Vk:aI:= .mk (.type bB) X (.func ady) #[]
noncomputable def Vl:aI:=kh (.str vL 340) (.str vM 341)
noncomputable def Vm(P:bF):aI:=dw P (.type y0) X [(tA,349,.int (.ofNat 0) 343),(z2,351,.str Xx 344)] 2 #[]
noncomputable def Vn(P:bF):aI:=dw P (.type oZ) X [(cK,345,.ref 124),(tA,346,.int (.ofNat 0) 343),(Ic,347,.str Xx 344)] 3 #[]
noncomputable def Vo(P:bF):aI:=dw P (.type y0) X [(tA,359,.int (.ofNat 1) 353),(z2,361,.str Xy 354)] 2 #[]
noncomputable def Vp(P:bF):aI:=dw P (.type oZ) X [(cK,355,.ref 127),(tA,356,.int (.ofNat 1) 353),(Ic,357,.str Xy 354)] 3 #[]
noncomputable def Vq:aI:=aN PySem.W.SL.s9222952809800978799x4
noncomputable def Vr(P:bF):aI:=dw P (.type y0) X [(gJ,260,.str cN 194),(jm,264,.int (.ofNat 23) 263),(z2,266,.str Xo 265),(Xp,268,.ref 73),(Xq,271,.ref 74),(Xr,272,.ref 75),(yA,282,.ref 133),(vK,304,.ref 91),(yB,315,.ref 100),(Xs,316,.ref 100),(yC,324,.ref 107),(yE,331,.ref 114),(yF,339,.ref 121),(Xu,342,.ref 122),(vL,352,.ref 124),(vM,362,.ref 127),(jn,363,.ref 129)] 2 #[]
noncomputable def Vs:aI:= .mk (.type pq) X (.cls (rx ny [.type aJ] [.ref 132,.type aJ,.type jB] 131 ny aw [] [] aw X aw)) (.mk [W (.ref 65),X,W (.str ny 253),W (.str ny 261),W .none,W (.bool aw)])
noncomputable def Vt:aI:= .mk (.type PySem.W.SL.s16656946322747308186x12) X (.fields (.mk [.ref 82])) #[]
noncomputable def Vu:aI:=kg pg X (.builtin rb) (.ref 132)
noncomputable def Vv(P:bF):aI:=dw P (.type y0) X [(gJ,375,.str cN 194),(lh,377,.str pA 376),(jm,379,.int (.ofNat 65) 378),(z2,381,.str Xz 380),(gK,390,.ref 149),(yG,397,.ref 156),(jn,399,.ref 157)] 7 #[]
noncomputable def Vw:aI:=mU .none (.int (.ofNat 68) 0) (.int (.ofNat 4) 0) (.ref 148) (.int (.ofNat 71) 0) (.int (.ofNat 4) 0) (.ref 155)
noncomputable def Vx:aI:=bH pA 370 pA 371 372 65 0 0 0 0 139 aw 140 .none .none .none 373 374
noncomputable def RW:aI:=kh (.str cK 386) (.str iM 387)
noncomputable def RX:aI:= .mk .none X (.func (aW gK Iw (bw 4 1) 0 [] .none .none .none X .none .none)) #[]
noncomputable def RY:aI:=bH gK 383 Iw 384 385 68 2 0 0 3 143 af 144 (.ref 145) (.ref 146) (.ref 147) 388 389
noncomputable def RZ:aI:= .mk (.type bB) X (.func adz) #[]
noncomputable def Sa:aI:= .mk .none X (.func (aW yG Iy (bw 4 2) 0 [] .none .none .none X .none .none)) #[]
noncomputable def Sb:aI:=bH yG 391 Iy 392 393 71 1 0 0 3 150 af 151 (.ref 152) (.ref 153) (.ref 154) 395 396
noncomputable def Sd:aI:= .mk (.type bB) X (.func adA) #[]
noncomputable def Se(P:bF):aI:=dw P (.type y0) X [(gJ,375,.str cN 194),(jm,379,.int (.ofNat 65) 378),(z2,381,.str Xz 380),(gK,390,.ref 149),(yG,397,.ref 156),(jn,399,.ref 157),(jR,401,.ref 160),(jS,403,.ref 161)] 3 #[]
noncomputable def Sg:aI:= .mk (.type pq) X (.cls (rx pA [.type jB] [.ref 159,.type jB] 158 pA af [] [] aw X aw)) (.mk [X,X,W (.str pA 368),W (.str pA 376),W (.builtin tj),W (.bool af)])
noncomputable def Sh:aI:=jL jR 400 159 tu (.builtin tv)
noncomputable def Si:aI:=jL jS 402 159 tw .none
noncomputable def Sj:aI:=kg pg X (.builtin rb) (.ref 159)
noncomputable def Sk(P:bF):aI:=dw P (.type y0) X [(gJ,413,.str cN 194),(lh,415,.str nA 414),(jm,417,.int (.ofNat 73) 416),(XD,424,.ref 172),(XE,430,.ref 175),(XF,436,.ref 178),(jn,437,.ref 180)] 7 #[]
noncomputable def Sm:aI:=bH nA 408 nA 409 410 73 0 0 0 0 167 aw 168 .none .none .none 411 412
noncomputable def Sn(P:bF):aI:=dw P (.type y0) X [(iM,423,.int (.negSucc 0) 419)] 1 #[]
noncomputable def So(P:bF):aI:=dw P (.type oZ) X [(cK,420,.ref 172),(iM,421,.int (.negSucc 0) 419)] 2 #[]
noncomputable def Su(P:bF):aI:=dw P (.type y0) X [(iM,429,.int (.ofNat 0) 425)] 1 #[]
noncomputable def Sv(P:bF):aI:=dw P (.type oZ) X [(cK,426,.ref 175),(iM,427,.int (.ofNat 0) 425)] 2 #[]
noncomputable def Sw(P:bF):aI:=dw P (.type y0) X [(iM,435,.int (.ofNat 1) 431)] 1 #[]
noncomputable def Sx(P:bF):aI:=dw P (.type oZ) X [(cK,432,.ref 178),(iM,433,.int (.ofNat 1) 431)] 2 #[]
noncomputable def Sy(P:bF):aI:=dw P (.type y0) X [(gJ,413,.str cN 194),(jm,417,.int (.ofNat 73) 416),(XD,424,.ref 172),(XE,430,.ref 175),(XF,436,.ref 178),(jn,437,.ref 180),(jR,439,.ref 183),(jS,441,.ref 184),(z2,442,.none)] 4 #[]
noncomputable def Sz:aI:= .mk (.type pq) X (.cls (rx nA [.type jB] [.ref 182,.type jB] 181 nA af [] [] aw X aw)) (.mk [X,X,W (.str nA 406),W (.str nA 414),W (.builtin tj),W (.bool af)])
noncomputable def SA:aI:=jL jR 438 182 tu (.builtin tv)
noncomputable def SD:aI:=jL jS 440 182 tw .none
noncomputable def SE:aI:=kg pg X (.builtin rb) (.ref 182)
noncomputable def SF(P:bF):aI:=dw P (.type y0) X [(gJ,452,.str cN 194),(lh,454,.str nB 453),(jm,456,.int (.ofNat 77) 455),(XG,462,.ref 195),(XH,468,.ref 198),(XI,474,.ref 201),(jn,475,.ref 203)] 7 #[]
noncomputable def SG:aI:=bH nB 447 nB 448 449 77 0 0 0 0 190 aw 191 .none .none .none 450 451
noncomputable def SH(P:bF):aI:=dw P (.type y0) X [(iM,461,.int (.ofNat 0) 457)] 1 #[]
noncomputable def SJ(P:bF):aI:=dw P (.type oZ) X [(cK,458,.ref 195),(iM,459,.int (.ofNat 0) 457)] 2 #[]
noncomputable def SK(P:bF):aI:=dw P (.type y0) X [(iM,467,.int (.ofNat 1) 463)] 1 #[]
noncomputable def SM(P:bF):aI:=dw P (.type oZ) X [(cK,464,.ref 198),(iM,465,.int (.ofNat 1) 463)] 2 #[]
noncomputable def SN(P:bF):aI:=dw P (.type y0) X [(iM,473,.int (.ofNat 2) 469)] 1 #[]
noncomputable def SP(P:bF):aI:=dw P (.type oZ) X [(cK,470,.ref 201),(iM,471,.int (.ofNat 2) 469)] 2 #[]
noncomputable def SQ(P:bF):aI:=dw P (.type y0) X [(gJ,452,.str cN 194),(jm,456,.int (.ofNat 77) 455),(XG,462,.ref 195),(XH,468,.ref 198),(XI,474,.ref 201),(jn,475,.ref 203),(jR,477,.ref 206),(jS,479,.ref 207),(z2,480,.none)] 4 #[]
noncomputable def SR:aI:= .mk (.type pq) X (.cls (rx nB [.type jB] [.ref 205,.type jB] 204 nB af [] [] aw X aw)) (.mk [X,X,W (.str nB 445),W (.str nB 453),W (.builtin tj),W (.bool af)])
noncomputable def SS:aI:=jL jR 476 205 tu (.builtin tv)
noncomputable def SU:aI:=jL jS 478 205 tw .none
noncomputable def SW:aI:=kg pg X (.builtin rb) (.ref 205)
noncomputable def SX(P:bF):aI:=dw P (.type y0) X [(gJ,490,.str cN 194),(lh,492,.str pB 491),(jm,494,.int (.ofNat 81) 493),(z2,496,.str XJ 495),(yH,506,.ref 223),(yJ,514,.ref 230),(yK,522,.ref 237),(yM,530,.ref 244),(yN,542,.ref 251),(yO,561,.ref 258),(jn,562,.ref 259)] 11 #[]
noncomputable def SY:aI:=NZ 84 222 87 229 90 236 93 243 96 250 105 257
noncomputable def Ta:aI:=bH pB 485 pB 486 487 81 0 0 0 0 213 aw 214 .none .none .none 488 489
noncomputable def Tb:aI:=jd (.str cK 501) (.str vL 502) (.str vM 503)
noncomputable def Tc:aI:= .mk .none X (.func (aW yH Iz (bw 7 1) 0 [] .none .none .none X .none .none)) #[]
noncomputable def Td:aI:=bH yH 498 Iz 499 500 84 3 0 0 3 217 af 218 (.ref 219) (.ref 220) (.ref 221) 504 505
noncomputable def Te:aI:= .mk (.type bB) X (.func adB) #[]
noncomputable def Tf:aI:=kh (.str cK 510) (.str (aG 0xe7971e9e9cb2f6) 511)
noncomputable def Tj:aI:= .mk .none X (.func (aW yJ IA (bw 7 2) 0 [] .none .none .none X .none .none)) #[]
noncomputable def To:aI:=bH yJ 507 IA 508 509 87 2 0 0 3 224 af 225 (.ref 226) (.ref 227) (.ref 228) 512 513
noncomputable def Tq:aI:= .mk (.type bB) X (.func adC) #[]
noncomputable def Tr:aI:=kh (.str cK 518) (.str (aG 0x1cbaefe9bb7e3) 519)
noncomputable def Ts:aI:= .mk .none X (.func (aW yK IB (bw 7 3) 0 [] .none .none .none X .none .none)) #[]
noncomputable def Tt:aI:=bH yK 515 IB 516 517 90 2 0 0 3 231 af 232 (.ref 233) (.ref 234) (.ref 235) 520 521
noncomputable def Tu:aI:= .mk (.type bB) X (.func adD) #[]
noncomputable def Tv:aI:=kh (.str cK 526) (.str (aG 0xe7d3765db9f2f3) 527)
noncomputable def Tw:aI:= .mk .none X (.func (aW yM IE (bw 7 4) 0 [] .none .none .none X .none .none)) #[]
noncomputable def Tx:aI:=bH yM 523 IE 524 525 93 2 0 0 3 238 af 239 (.ref 240) (.ref 241) (.ref 242) 528 529
noncomputable def TA:aI:= .mk (.type bB) X (.func adE) #[]
noncomputable def TB:aI:=Fw cK 534 (aG 0x3c65e9cb2f6) 535 yP 536 yQ 537 XK 538
noncomputable def TC:aI:= .mk .none X (.func (aW yN IF (bw 7 5) 0 [] .none .none .none X .none .none)) #[]
noncomputable def TF:aI:=bH yN 531 IF 532 533 96 4 0 0 3 245 af 246 (.ref 247) (.ref 248) (.ref 249) 539 540
noncomputable def TG:aI:= .mk (.type bB) X (.func ER) #[]
noncomputable def TH:aI:= .mk (.type aJ) X (.seq (.mk [.str cK 546,.str XM 547,.str yP 548,.str yQ 549,.str (aG 0x64e5a7474) 550,.str (aG 0x1e2fe1) 551,.str (aG 0x1e6fe1) 552,.str (aG 0x1e2fe2) 553,.str (aG 0x1e6fe2) 554,.str (aG 0x1e2fe3) 555,.str (aG 0x1e6fe3) 556,.str XK 557]) 0) #[]
noncomputable def TJ:aI:= .mk .none X (.func (aW yO IG (bw 7 6) 0 [] .none .none .none X .none .none)) #[]
noncomputable def TM:aI:=bH yO 543 IG 544 545 105 5 0 0 3 252 af 253 (.ref 254) (.ref 255) (.ref 256) 558 559
noncomputable def TN:aI:= .mk (.type bB) X (.func ES) #[]
noncomputable def TP(P:bF):aI:=dw P (.type y0) X [(gJ,490,.str cN 194),(jm,494,.int (.ofNat 81) 493),(z2,496,.str XJ 495),(yH,506,.ref 223),(yJ,514,.ref 230),(yK,522,.ref 237),(yM,530,.ref 244),(yN,542,.ref 251),(yO,561,.ref 258),(jn,562,.ref 259),(jR,564,.ref 262),(jS,566,.ref 263)] 3 #[]
noncomputable def TS:aI:= .mk (.type pq) X (.cls (rx pB [.type jB] [.ref 261,.type jB] 260 pB af [] [] aw X aw)) (.mk [X,X,W (.str pB 483),W (.str pB 491),W (.builtin tj),W (.bool af)])
noncomputable def TU:aI:=jL jR 563 261 tu (.builtin tv)
noncomputable def TV:aI:=jL jS 565 261 tw .none
noncomputable def TX:aI:=kg pg X (.builtin rb) (.ref 261)
noncomputable def TY:aI:=jd (.str (aG 0x3a6eebbf6e1) 572) (.str (aG 0x73ddbf4f4c3bb4eddfbb2e4) 573) (.str (aG 0xe7bfbf4) 574)
noncomputable def TZ:aI:= .mk .none X (.func (aW rj rj (bA 8) 0 [] .none .none .none X .none .none)) #[]
noncomputable def Ua:aI:=bH rj 569 rj 570 571 116 2 0 0 3 266 af 267 (.ref 268) (.ref 269) (.ref 270) 575 576
noncomputable def Ub:aI:= .mk (.type bB) X (.func ET) #[]
noncomputable def aiA(P:bF):aI:=dw P (.type y0) X [(z0,165,.str yR 992),(z2,166,.none),(z3,167,.none),(z4,168,.builtin HY),(z5,169,.none),(tx,170,.ref 6),(HZ,171,.ref 4),(Ia,173,.str yu 172),(Ib,174,.none),(rh,193,.ref 21),(nu,252,.ref 60),(ny,367,.ref 132),(pA,405,.ref 159),(nA,444,.ref 182),(nB,482,.ref 205),(pB,568,.ref 261),(rj,578,.ref 272),(tC,589,.ref 279),(pC,780,.ref 414),(tD,788,.ref 425),(tE,797,.ref 432),(tG,806,.ref 439),(pD,900,.ref 488),(lu,910,.ref 499),(tH,919,.ref 506),(tI,927,.ref 513),(tJ,934,.ref 520),(tK,944,.ref 527),(tM,954,.ref 534),(tN,964,.ref 541),(aln,967,.ref 542),(tO,976,.ref 549),(tP,991,.ref 556),(tQ,1002,.ref 563),(tS,1016,.ref 570),(tT,1027,.ref 577),(tU,1033,.ref 582)] 37 #[]
noncomputable def aiB(P:bF):aI:=dw P (.type y0) X [(gJ,599,.str gv 590),(lh,601,.str pC 600),(jm,603,.int (.ofNat 128) 602),(z2,605,.str XN 604),(vN,633,.ref 295),(kA,641,.ref 304),(tV,650,.ref 312),(vO,659,.ref 320),(tW,668,.ref 328),(tX,677,.ref 336),(vP,686,.ref 344),(vQ,695,.ref 352),(ro,704,.ref 360),(rp,713,.ref 368),(gK,724,.ref 376),(lu,734,.ref 383),(nF,742,.ref 390),(yT,751,.ref 397),(yU,762,.ref 404),(yV,769,.ref 411),(jn,774,.ref 412)] 21 #[]
noncomputable def aiC(P:bF):aI:=dw P (.type y0) X [(gJ,622,.str gv 590),(z0,625,.str vN 624),(lh,628,.str Cq 627),(z2,630,.str XO 620),(tx,632,.ref 296)] 5 #[]
noncomputable def aiD(P:bF):aI:=dw P (.type y0) X [(gJ,599,.str gv 590),(jm,603,.int (.ofNat 128) 602),(z2,605,.str XN 604),(vN,633,.ref 295),(kA,641,.ref 304),(tV,650,.ref 312),(vO,659,.ref 320),(tW,668,.ref 328),(tX,677,.ref 336),(vP,686,.ref 344),(vQ,695,.ref 352),(ro,704,.ref 360),(rp,713,.ref 368),(gK,724,.ref 376),(lu,734,.ref 383),(nF,742,.ref 390),(yT,751,.ref 397),(yU,762,.ref 404),(yV,769,.ref 411),(jn,774,.ref 412),(jR,776,.ref 415),(jS,778,.ref 416)] 3 #[]
noncomputable def aiE(P:bF):aI:=dw P (.type y0) X [(gJ,816,.str gS 807),(lh,818,.str pD 817),(jm,820,.int (.ofNat 255) 819),(z2,822,.str Yc 821),(vR,842,.ref 453),(gK,852,.ref 461),(nF,861,.ref 468),(yW,868,.ref 475),(vS,889,.ref 484),(jn,894,.ref 486)] 10 #[]
noncomputable def aiF(P:bF):aI:=dw P (.type y0) X [(gJ,831,.str gS 807),(z0,834,.str vR 833),(lh,837,.str Cr 836),(z2,839,.str Yd 829),(tx,841,.ref 454)] 5 #[]
noncomputable def aiG(P:bF):aI:=dw P (.type y0) X [(gJ,878,.str gS 807),(z0,881,.str vS 880),(lh,884,.str Cs 883),(z2,886,.none),(tx,888,.ref 485)] 5 #[]
noncomputable def aiH(P:bF):aI:=dw P (.type y0) X [(gJ,816,.str gS 807),(jm,820,.int (.ofNat 255) 819),(z2,822,.str Yc 821),(vR,842,.ref 453),(gK,852,.ref 461),(nF,861,.ref 468),(yW,868,.ref 475),(vS,889,.ref 484),(jn,894,.ref 486),(jR,896,.ref 489),(jS,898,.ref 490)] 3 #[]
noncomputable def sh(P:bF):List aI:=[LZ P,Ma P,Mc P,aiA P,Me P,Mh P,og P,aN aJ,bo,Mi P,Mb P,aN aJ, .mk .none X (.fields (.mk [.int (.ofNat 1) 0,.int (.ofNat 0) 0,.ref 20,.int (.ofNat 5) 0,.int (.ofNat 0) 0,.ref 27,.int (.ofNat 23) 0,.int (.ofNat 0) 0,.ref 71,.int (.ofNat 65) 0,.int (.ofNat 0) 0,.ref 141,.int (.ofNat 73) 0,.int (.ofNat 0) 0,.ref 169,.int (.ofNat 77) 0,.int (.ofNat 0) 0,.ref 192,.int (.ofNat 81) 0,.int (.ofNat 0) 0,.ref 215,.int (.ofNat 116) 0,.int (.ofNat 0) 0,.ref 271,.int (.ofNat 123) 0,.int (.ofNat 0) 0,.ref 278,.int (.ofNat 128) 0,.int (.ofNat 0) 0,.ref 285,.int (.ofNat 241) 0,.int (.ofNat 0) 0,.ref 424,.int (.ofNat 246) 0,.int (.ofNat 0) 0,.ref 431,.int (.ofNat 248) 0,.int (.ofNat 0) 0,.ref 438,.int (.ofNat 255) 0,.int (.ofNat 0) 0,.ref 445,.int (.ofNat 304) 0,.int (.ofNat 0) 0,.ref 498,.int (.ofNat 310) 0,.int (.ofNat 0) 0,.ref 505,.int (.ofNat 324) 0,.int (.ofNat 0) 0,.ref 512,.int (.ofNat 327) 0,.int (.ofNat 0) 0,.ref 519,.int (.ofNat 329) 0,.int (.ofNat 0) 0,.ref 526,.int (.ofNat 338) 0,.int (.ofNat 0) 0,.ref 533,.int (.ofNat 347) 0,.int (.ofNat 0) 0,.ref 540,.int (.ofNat 358) 0,.int (.ofNat 0) 0,.ref 548,.int (.ofNat 361) 0,.int (.ofNat 0) 0,.ref 555,.int (.ofNat 375) 0,.int (.ofNat 0) 0,.ref 562,.int (.ofNat 377) 0,.int (.ofNat 0) 0,.ref 569,.int (.ofNat 382) 0,.int (.ofNat 0) 0,.ref 576,.int (.ofNat 388) 0,.int (.ofNat 0) 0,.ref 581])) #[],Hh,iE 13 3 yt 164,aN aJ,bo,SV,aN aJ,Ti,Tz,TQ,aN aJ,jP,Ud P,aN aJ,Ue,Ug,iE 27 24 cN 194,aN aJ,bo,Uh,aN aJ,Ui,Uj,Uk,eu .none,aN aJ,bo,Ul,aN aJ,Um,Uo,Uq,aN aJ,bo,Ur,aN aJ,Ut,Uu,Uv,aN aJ,bo,Uw,aN aJ,Ux,Uy,Uz,UA,UB P,UC,UD,UE,jM 60,UG,eu (.type aJ),jP,UH P,UI,aN aJ,UJ,UK,iE 71 67 cN 194,aN aJ,UL,og P,aN aJ,bo,UM,aN aJ,UN,UO,UP,aN aJ,bo,UQ,aN aJ,UR,US,UT,UU P,UW,og P,eu (.ref 68),eu (.str Ip 308),bo,UX,aN aJ,UY,UZ,Vb,aN aJ,bo,eu (.str cK 320),aN aJ,Vc,Vd,Ve,aN aJ,bo,eu (.str cK 328),aN aJ,Vf,Vg,Vh,aN aJ,bo,eu (.str cK 335),aN aJ,Vi,Vj,Vk,Vl,Vm P,jc 60 123,Vn P,Vo P,jc 60 126,Vp P,aN aJ,Vq,Vr P,Vs,Vt,jM 132,Vu,aN aJ,jP,Vv P,aN aJ,Vw,Vx,iE 141 138 cN 194,aN aJ,bo,RW,aN aJ,RX,RY,RZ,aN aJ,bo,eu (.str cK 394),aN aJ,Sa,Sb,Sd,eu (.str iM 398),Se P,Sg,Sh,Si,jM 159,Sj,aN aJ,jP,Sk P,aN aJ,bo,Sm,iE 169 166 cN 194,Sn P,jc 159 171,So P,Su P,jc 159 174,Sv P,Sw P,jc 159 177,Sx P,aN aJ,Sy P,Sz,SA,SD,jM 182,SE,aN aJ,jP,SF P,aN aJ,bo,SG,iE 192 189 cN 194,SH P,jc 159 194,SJ P,SK P,jc 159 197,SM P,SN P,jc 159 200,SP P,aN aJ,SQ P,SR,SS,SU,jM 205,SW,aN aJ,jP,SX P,aN aJ,SY,Ta,iE 215 212 cN 194,aN aJ,bo,Tb,aN aJ,Tc,Td,Te,aN aJ,bo,Tf,aN aJ,Tj,To,Tq,aN aJ,bo,Tr,aN aJ,Ts,Tt,Tu,aN aJ,bo,Tv,aN aJ,Tw,Tx,TA,aN aJ,bo,TB,aN aJ,TC,TF,TG,aN aJ,bo,TH,aN aJ,TJ,TM,TN,aN aJ,TP P,TS,TU,TV,jM 261,TX,aN aJ,bo,TY,aN aJ,TZ,Ua,Ub,aN aJ,bo,jd (.str Xv 584) (.str (aG 0xe7d3765db97665) 585) (.str tA 586),aN aJ, .mk .none X (.func (aW tC tC (bA 10) 0 [] .none .none .none X .none .none)) #[],bH tC 581 tC 582 583 123 1 0 0 35 273 af 274 (.ref 275) (.ref 276) (.ref 277) 587 588, .mk (.type bB) X (.func kQ) #[],aN aJ,jP,aiB P,aN aJ, .mk .none X (.fields (.mk [.int (.ofNat 139) 0,.int (.ofNat 4) 0,.ref 292,.int (.ofNat 154) 0,.int (.ofNat 4) 0,.ref 302,.int (.ofNat 158) 0,.int (.ofNat 4) 0,.ref 310,.int (.ofNat 165) 0,.int (.ofNat 4) 0,.ref 318,.int (.ofNat 172) 0,.int (.ofNat 4) 0,.ref 326,.int (.ofNat 179) 0,.int (.ofNat 4) 0,.ref 334,.int (.ofNat 186) 0,.int (.ofNat 4) 0,.ref 342,.int (.ofNat 193) 0,.int (.ofNat 4) 0,.ref 350,.int (.ofNat 200) 0,.int (.ofNat 4) 0,.ref 358,.int (.ofNat 207) 0,.int (.ofNat 4) 0,.ref 366,.int (.ofNat 213) 0,.int (.ofNat 4) 0,.ref 375,.int (.ofNat 216) 0,.int (.ofNat 4) 0,.ref 382,.int (.ofNat 223) 0,.int (.ofNat 4) 0,.ref 389,.int (.ofNat 228) 0,.int (.ofNat 4) 0,.ref 396,.int (.ofNat 232) 0,.int (.ofNat 4) 0,.ref 403,.int (.ofNat 239) 0,.int (.ofNat 4) 0,.ref 410])) #[],bH pC 594 pC 595 596 128 0 0 0 0 283 aw 284 .none .none .none 597 598,iE 285 282 gv 590,aN aJ,bo,Oa Io 610 rp 611 tV 612 kA 613 tB 614 tX 615 ro 616 (aG 0x3265e987a6fe57f2ece1a7974) 617,aN aJ, .mk .none X (.func (aW vN Cq (bw 12 1) 0 [] .none .none .none X .none .none)) #[],bH vN 607 Cq 608 609 138 3 0 1 3 287 af 288 (.ref 289) (.ref 290) (.ref 291) 618 619, .mk (.type bB) X (.func EU) #[],aiC P,kg Co (W 294) (.ref 293) (.bool aw),og P,aN aJ,bo,eu (.str cK 637),aN aJ, .mk .none X (.func (aW kA IH (bw 12 2) 0 [] .none .none .none X .none .none)) #[],bH kA 634 IH 635 636 153 1 0 0 3 297 af 298 (.ref 299) (.ref 300) (.ref 301) 638 639, .mk (.type bB) X (.func Nr) #[],mU (.type ph) (.ref 303) .none .none .none (.str kA 641) (.bool aw),aN aJ,bo,eu (.str cK 645),aN aJ, .mk .none X (.func (aW tV II (bw 12 3) 0 [] .none .none .none X .none .none)) #[],bH tV 642 II 643 644 157 1 0 0 3 305 af 306 (.ref 307) (.ref 308) (.ref 309) 646 647, .mk (.type bB) X (.func Nt) #[],mU (.type ph) (.ref 311) .none .none (.str XQ 648) (.str tV 650) (.bool af),aN aJ,bo,eu (.str cK 654),aN aJ, .mk .none X (.func (aW vO IJ (bw 12 4) 0 [] .none .none .none X .none .none)) #[],bH vO 651 IJ 652 653 164 1 0 0 3 313 af 314 (.ref 315) (.ref 316) (.ref 317) 655 656, .mk (.type bB) X (.func Nu) #[],mU (.type ph) (.ref 319) .none .none (.str XR 657) (.str vO 659) (.bool af),aN aJ,bo,eu (.str cK 663),aN aJ, .mk .none X (.func (aW tW IK (bw 12 5) 0 [] .none .none .none X .none .none)) #[],bH tW 660 IK 661 662 171 1 0 0 3 321 af 322 (.ref 323) (.ref 324) (.ref 325) 664 665, .mk (.type bB) X (.func Nv) #[],mU (.type ph) (.ref 327) .none .none (.str XS 666) (.str tW 668) (.bool af),aN aJ,bo,eu (.str cK 672),aN aJ, .mk .none X (.func (aW tX IL (bw 12 6) 0 [] .none .none .none X .none .none)) #[],bH tX 669 IL 670 671 178 1 0 0 3 329 af 330 (.ref 331) (.ref 332) (.ref 333) 673 674, .mk (.type bB) X (.func Nw) #[],mU (.type ph) (.ref 335) .none .none (.str XT 675) (.str tX 677) (.bool af),aN aJ,bo,eu (.str cK 681),aN aJ, .mk .none X (.func (aW vP IM (bw 12 7) 0 [] .none .none .none X .none .none)) #[],bH vP 678 IM 679 680 185 1 0 0 3 337 af 338 (.ref 339) (.ref 340) (.ref 341) 682 683, .mk (.type bB) X (.func Ny) #[],mU (.type ph) (.ref 343) .none .none (.str XU 684) (.str vP 686) (.bool af),aN aJ,bo,eu (.str cK 690),aN aJ, .mk .none X (.func (aW vQ IP (bw 12 8) 0 [] .none .none .none X .none .none)) #[],bH vQ 687 IP 688 689 192 1 0 0 3 345 af 346 (.ref 347) (.ref 348) (.ref 349) 691 692, .mk (.type bB) X (.func Nz) #[],mU (.type ph) (.ref 351) .none .none (.str XW 693) (.str vQ 695) (.bool af),aN aJ,bo,eu (.str cK 699),aN aJ, .mk .none X (.func (aW ro IQ (bw 12 9) 0 [] .none .none .none X .none .none)) #[],bH ro 696 IQ 697 698 199 1 0 0 3 353 af 354 (.ref 355) (.ref 356) (.ref 357) 700 701, .mk (.type bB) X (.func NA) #[],mU (.type ph) (.ref 359) .none .none (.str XX 702) (.str ro 704) (.bool af),aN aJ,bo,eu (.str cK 708),aN aJ, .mk .none X (.func (aW rp IS (bw 12 10) 0 [] .none .none .none X .none .none)) #[],bH rp 705 IS 706 707 206 1 0 0 3 361 af 362 (.ref 363) (.ref 364) (.ref 365) 709 710, .mk (.type bB) X (.func NB) #[],mU (.type ph) (.ref 367) .none .none (.str XY 711) (.str rp 713) (.bool af),jd .none .none .none,aN aJ,bo,Fw cK 717 rp 718 tW 719 ro 720 kA 721,aN aJ, .mk .none X (.func (aW gK IT (bw 12 11) 0 [] .none .none .none X .none .none)) #[],bH gK 714 IT 715 716 213 4 0 1 3 370 af 371 (.ref 372) (.ref 373) (.ref 374) 722 723, .mk (.type bB) X (.func rX) #[],aN aJ,bo,jd (.str cK 728) (.str XZ 729) (.str tB 730),aN aJ, .mk .none X (.func (aW lu IU (bw 12 12) 0 [] .none .none .none X .none .none)) #[],bH lu 725 IU 726 727 216 2 0 0 3 377 af 378 (.ref 379) (.ref 380) (.ref 381) 731 732, .mk (.type bB) X (.func EW) #[],aN aJ,bo,eu (.str cK 738),aN aJ, .mk .none X (.func (aW nF IW (bw 12 13) 0 [] .none .none .none X .none .none)) #[],bH nF 735 IW 736 737 223 1 0 0 3 384 af 385 (.ref 386) (.ref 387) (.ref 388) 739 740, .mk (.type bB) X (.func EX) #[],aN aJ,bo,kh (.str cK 746) (.str XM 747),aN aJ, .mk .none X (.func (aW yT IX (bw 12 14) 0 [] .none .none .none X .none .none)) #[],bH yT 743 IX 744 745 228 2 0 0 3 391 af 392 (.ref 393) (.ref 394) (.ref 395) 748 749, .mk (.type bB) X (.func EY) #[],aN aJ,bo,qr cK 755 XZ 756 (aG 0x61d1c3661) 757 (aG 0xc3d32e2) 758,aN aJ, .mk .none X (.func (aW yU IY (bw 12 15) 0 [] .none .none .none X .none .none)) #[],bH yU 752 IY 753 754 232 2 0 0 3 398 af 399 (.ref 400) (.ref 401) (.ref 402) 759 760, .mk (.type bB) X (.func EZ) #[],aN aJ,bo,eu (.str cK 766),aN aJ, .mk .none X (.func (aW yV IZ (bw 12 16) 0 [] .none .none .none X .none .none)) #[],bH yV 763 IZ 764 765 239 1 0 0 3 405 af 406 (.ref 407) (.ref 408) (.ref 409) 767 768, .mk (.type bB) X (.func adF) #[],qr (aG 0xe9e32f4ddbf1df) 770 (aG 0xe9cb0f4e77f6efe59aff4cd9765f) 771 (aG 0xc997a61e9bf95f) 772 (aG 0x3a72c3d39df) 773,aiD P, .mk (.type pq) X (.cls (rx pC [.type jB] [.ref 414,.type jB] 413 pC af [] [] aw X aw)) (.mk [X,X,W (.str pC 592),W (.str pC 600),W (.builtin tj),W (.bool af)]),jL jR 775 414 tu (.builtin tv),jL jS 777 414 tw .none,jM 414,kg pg X (.builtin rb) (.ref 414),aN aJ,bo,kh (.str (aG 0x73cb9f265) 784) (.str Ja 785),aN aJ, .mk .none X (.func (aW tD tD (bA 13) 0 [] .none .none .none X .none .none)) #[],bH tD 781 tD 782 783 241 1 0 0 35 419 af 420 (.ref 421) (.ref 422) (.ref 423) 786 787, .mk (.type bB) X (.func kR) #[],aN aJ,bo,eu (.str (aG 0x3965c5b7aee) 794),aN aJ, .mk .none X (.func (aW tE tE (bA 15) 0 [] .none .none .none X .none .none)) #[],bH tE 791 tE 792 793 246 1 0 0 3 426 af 427 (.ref 428) (.ref 429) (.ref 430) 795 796, .mk (.type bB) X (.func Fd) #[],aN aJ,bo,jd (.str (aG 0x39e5ebb30f6) 801) (.str tB 802) (.str iM 803),aN aJ, .mk .none X (.func (aW tG tG (bA 16) 0 [] .none .none .none X .none .none)) #[],bH tG 798 tG 799 800 248 1 0 0 3 433 af 434 (.ref 435) (.ref 436) (.ref 437) 804 805, .mk (.type bB) X (.func Fe) #[],aN aJ,jP,aiE P,aN aJ, .mk .none X (.fields (.mk [.int (.ofNat 259) 0,.int (.ofNat 4) 0,.ref 450,.int (.ofNat 284) 0,.int (.ofNat 4) 0,.ref 460,.int (.ofNat 288) 0,.int (.ofNat 4) 0,.ref 467,.int (.ofNat 296) 0,.int (.ofNat 4) 0,.ref 474,.int (.ofNat 300) 0,.int (.ofNat 4) 0,.ref 481])) #[],bH pD 811 pD 812 813 255 0 0 0 0 443 aw 444 .none .none .none 814 815,iE 445 442 gS 807,aN aJ,bo, .mk .none X (.func (aW vR Cr (bw 18 1) 0 [] .none .none .none X .none .none)) #[],bH vR 824 Cr 825 826 258 2 0 1 3 447 af 448 .none .none (.ref 449) 827 828, .mk (.type bB) X (.func xp) #[],aiF P,kg Co (W 452) (.ref 451) (.bool aw),og P,aN aJ,bo,qr cK 846 Ye 847 Yh 848 kA 849,aN aJ, .mk .none X (.func (aW gK Jb (bw 18 2) 0 [] .none .none .none X .none .none)) #[],bH gK 843 Jb 844 845 284 4 0 0 3 455 af 456 (.ref 457) (.ref 458) (.ref 459) 850 851, .mk (.type bB) X (.func Ff) #[],aN aJ,bo,kh (.str cK 856) (.str Ja 857),aN aJ, .mk .none X (.func (aW nF Jc (bw 18 3) 0 [] .none .none .none X .none .none)) #[],bH nF 853 Jc 854 855 288 2 0 0 3 462 af 463 (.ref 464) (.ref 465) (.ref 466) 858 859, .mk (.type bB) X (.func adG) #[],aN aJ,bo,eu (.str cK 865),aN aJ, .mk .none X (.func (aW yW Jd (bw 18 4) 0 [] .none .none .none X .none .none)) #[],bH yW 862 Jd 863 864 296 1 0 0 3 469 af 470 (.ref 471) (.ref 472) (.ref 473) 866 867, .mk (.type bB) X (.func adH) #[],aN aJ,bo,jd (.str Io 872) (.str (aG 0x39f4dda77f0) 873) (.str kA 874),aN aJ, .mk .none X (.func (aW vS Cs (bw 18 5) 0 [] .none .none .none X .none .none)) #[],bH vS 869 Cs 870 871 299 3 0 0 3 476 af 477 (.ref 478) (.ref 479) (.ref 480) 875 876, .mk (.type bB) X (.func Fg) #[],aiG P,kg Co (W 483) (.ref 482) (.bool aw),og P,qr (aG 0x39e5c7a7a72cbdaff3cbb37e8bfcb0eceb9f761d3cba5f) 890 kA 891 Ye 892 Yh 893,aiH P, .mk (.type pq) X (.cls (rx pD [.type jB] [.ref 488,.type jB] 487 pD af [] [] aw X aw)) (.mk [X,X,W (.str pD 809),W (.str pD 817),W (.builtin tj),W (.bool af)]),jL jR 895 488 tu (.builtin tv),jL jS 897 488 tw .none,jM 488,kg pg X (.builtin rb) (.ref 488),aN aJ,bo,qr Ct 904 Je 905 (aG 0x32f4c3934e4dd871dfe99b2ec) 906 (aG 0x197a61c9a726ec38eff4d19f4f2) 907,aN aJ, .mk .none X (.func (aW lu lu (bA 19) 0 [] .none .none .none X .none .none)) #[],bH lu 901 lu 902 903 304 2 0 0 3 493 af 494 (.ref 495) (.ref 496) (.ref 497) 908 909, .mk (.type bB) X (.func rY) #[],aN aJ,bo,jd (.str yP 914) (.str yQ 915) (.str Ct 916),aN aJ, .mk .none X (.func (aW tH tH (bA 20) 0 [] .none .none .none X .none .none)) #[],bH tH 911 tH 912 913 310 2 0 0 3 500 af 501 (.ref 502) (.ref 503) (.ref 504) 917 918, .mk (.type bB) X (.func lY) #[],aN aJ,bo,kh (.str yP 923) (.str yQ 924),aN aJ, .mk .none X (.func (aW tI tI (bA 21) 0 [] .none .none .none X .none .none)) #[],bH tI 920 tI 921 922 324 2 0 0 3 507 af 508 (.ref 509) (.ref 510) (.ref 511) 925 926, .mk (.type bB) X (.func Fh) #[],aN aJ,bo,eu (.str Yi 931),aN aJ, .mk .none X (.func (aW tJ tJ (bA 22) 0 [] .none .none .none X .none .none)) #[],bH tJ 928 tJ 929 930 327 1 0 0 3 514 af 515 (.ref 516) (.ref 517) (.ref 518) 932 933, .mk (.type bB) X (.func xq) #[],aN aJ,bo,qr Ct 938 Je 939 tB 940 Yj 941,aN aJ, .mk .none X (.func (aW tK tK (bA 23) 0 [] .none .none .none X .none .none)) #[],bH tK 935 tK 936 937 329 2 0 0 3 521 af 522 (.ref 523) (.ref 524) (.ref 525) 942 943, .mk (.type bB) X (.func ot) #[],aN aJ,bo,qr Ct 948 Je 949 tB 950 Yj 951,aN aJ, .mk .none X (.func (aW tM tM (bA 24) 0 [] .none .none .none X .none .none)) #[],bH tM 945 tM 946 947 338 2 0 0 3 528 af 529 (.ref 530) (.ref 531) (.ref 532) 952 953, .mk (.type bB) X (.func om) #[],aN aJ,bo,qr Yi 958 (aG 0x73cb9f265bf932f4d3cf4f6) 959 (aG 0x65eb97af1) 960 Ja 961,aN aJ, .mk .none X (.func (aW tN tN (bA 25) 0 [] .none .none .none X .none .none)) #[],bH tN 955 tN 956 957 347 1 0 0 35 535 af 536 (.ref 537) (.ref 538) (.ref 539) 962 963, .mk (.type bB) X (.func ke) #[],kh (.int (.ofNat 2) 965) (.int (.ofNat 3) 966),aN aJ,bo,jd (.str Yk 971) (.str kA 972) (.str Yl 973),aN aJ, .mk .none X (.func (aW tO tO (bA 27) 0 [] .none .none .none X .none .none)) #[],bH tO 968 tO 969 970 358 2 0 0 3 543 af 544 (.ref 545) (.ref 546) (.ref 547) 974 975, .mk (.type bB) X (.func EP) #[],aN aJ,bo, .mk (.type aJ) X (.seq (.mk [.str Yk 980,.str kA 981,.str (aG 0x3a6ed3bf85fe99b2ec) 982,.str (aG 0x74dda77f0bf934ed) 983,.str (aG 0x1d3769dfc2ff4d19f4f2) 984,.str Yl 985,.str (aG 0x1973e4cb7f26edf8f2f3) 986,.str (aG 0x1bb7e9e987a6ecba796f) 987,.str (aG 0x32e7c996fe4e5a7474) 988]) 0) #[],aN aJ, .mk .none X (.func (aW tP tP (bA 28) 0 [] .none .none .none X .none .none)) #[],bH tP 977 tP 978 979 361 2 0 0 3 550 af 551 (.ref 552) (.ref 553) (.ref 554) 989 990, .mk (.type bB) X (.func xn) #[],aN aJ,bo,jd (.str Jf 997) (.str Jg 998) (.str Jh 999),aN aJ, .mk .none X (.func (aW tQ tQ (bA 30) 0 [] .none .none .none X .none .none)) #[],bH tQ 994 tQ 995 996 375 3 0 0 3 557 af 558 (.ref 559) (.ref 560) (.ref 561) 1000 1001, .mk (.type bB) X (.func AE) #[],aN aJ,bo,Oa Jf 1006 Jg 1007 Jh 1008 (aG 0x63) 1009 (aG 0x19776f) 1010 (aG 0x1bfbf4) 1011 yP 1012 yQ 1013,aN aJ, .mk .none X (.func (aW tS tS (bA 31) 0 [] .none .none .none X .none .none)) #[],bH tS 1003 tS 1004 1005 377 4 0 0 3 564 af 565 (.ref 566) (.ref 567) (.ref 568) 1014 1015, .mk (.type bB) X (.func AG) #[],aN aJ,bo,Fw Jf 1020 Jg 1021 (aG 0x326eebbf961) 1022 (aG 0xe9cf2e2) 1023 Jh 1024,aN aJ, .mk .none X (.func (aW tT tT (bA 32) 0 [] .none .none .none X .none .none)) #[],bH tT 1017 tT 1018 1019 382 3 0 0 3 571 af 572 (.ref 573) (.ref 574) (.ref 575) 1025 1026, .mk (.type bB) X (.func AH) #[],aN aJ,bo, .mk .none X (.func (aW tU tU (bA 33) 0 [] .none .none .none X .none .none)) #[],bH tU 1028 tU 1029 1030 388 1 0 0 3 578 af 579 .none .none (.ref 580) 1031 1032, .mk (.type bB) X (.func xo) #[]]
noncomputable def Od(P:bF):List aI:=[LZ P,Ma P,Mc P,aiz P,Me P,Mh P,og P,aN aJ,bo,Mi P,Mb P,aN aJ, .mk .none X (.fields (.mk [.int (.ofNat 1) 0,.int (.ofNat 0) 0,.ref 20,.int (.ofNat 5) 0,.int (.ofNat 0) 0,.ref 27,.int (.ofNat 23) 0,.int (.ofNat 0) 0,.ref 71,.int (.ofNat 65) 0,.int (.ofNat 0) 0,.ref 141,.int (.ofNat 73) 0,.int (.ofNat 0) 0,.ref 169,.int (.ofNat 77) 0,.int (.ofNat 0) 0,.ref 192,.int (.ofNat 81) 0,.int (.ofNat 0) 0,.ref 215,.int (.ofNat 116) 0,.int (.ofNat 0) 0,.ref 271])) #[],Hh,iE 13 3 yt 164,aN aJ,bo,SV,aN aJ,Ti,Tz,TQ,aN aJ,jP,Ud P,aN aJ,Ue,Ug,iE 27 24 cN 194,aN aJ,bo,Uh,aN aJ,Ui,Uj,Uk,eu .none,aN aJ,bo,Ul,aN aJ,Um,Uo,Uq,aN aJ,bo,Ur,aN aJ,Ut,Uu,Uv,aN aJ,bo,Uw,aN aJ,Ux,Uy,Uz,UA,UB P,UC,UD,UE,jM 60,UG,eu (.type aJ),jP,UH P,UI,aN aJ,UJ,UK,iE 71 67 cN 194,aN aJ,UL,og P,aN aJ,bo,UM,aN aJ,UN,UO,UP,aN aJ,bo,UQ,aN aJ,UR,US,UT,UU P,UW,og P,eu (.ref 68),eu (.str Ip 308),bo,UX,aN aJ,UY,UZ,Vb,aN aJ,bo,eu (.str cK 320),aN aJ,Vc,Vd,Ve,aN aJ,bo,eu (.str cK 328),aN aJ,Vf,Vg,Vh,aN aJ,bo,eu (.str cK 335),aN aJ,Vi,Vj,Vk,Vl,Vm P,jc 60 123,Vn P,Vo P,jc 60 126,Vp P,aN aJ,Vq,Vr P,Vs,Vt,jM 132,Vu,aN aJ,jP,Vv P,aN aJ,Vw,Vx,iE 141 138 cN 194,aN aJ,bo,RW,aN aJ,RX,RY,RZ,aN aJ,bo,eu (.str cK 394),aN aJ,Sa,Sb,Sd,eu (.str iM 398),Se P,Sg,Sh,Si,jM 159,Sj,aN aJ,jP,Sk P,aN aJ,bo,Sm,iE 169 166 cN 194,Sn P,jc 159 171,So P,Su P,jc 159 174,Sv P,Sw P,jc 159 177,Sx P,aN aJ,Sy P,Sz,SA,SD,jM 182,SE,aN aJ,jP,SF P,aN aJ,bo,SG,iE 192 189 cN 194,SH P,jc 159 194,SJ P,SK P,jc 159 197,SM P,SN P,jc 159 200,SP P,aN aJ,SQ P,SR,SS,SU,jM 205,SW,aN aJ,jP,SX P,aN aJ,SY,Ta,iE 215 212 cN 194,aN aJ,bo,Tb,aN aJ,Tc,Td,Te,aN aJ,bo,Tf,aN aJ,Tj,To,Tq,aN aJ,bo,Tr,aN aJ,Ts,Tt,Tu,aN aJ,bo,Tv,aN aJ,Tw,Tx,TA,aN aJ,bo,TB,aN aJ,TC,TF,TG,aN aJ,bo,TH,aN aJ,TJ,TM,TN,aN aJ,TP P,TS,TU,TV,jM 261,TX,aN aJ,bo,TY,aN aJ,TZ,Ua,Ub]
noncomputable def AM(P:bF):List aI:=[LZ P,Ma P,Mc P,ob3 P,Me P,Mh P,og P,aN aJ,bo,Mi P,Mb P,aN aJ,bo,Hh,iE 13 3 yt 164]
noncomputable def ow(P:bF):aK:=Heap.mk (fX (sh P)) lf
noncomputable def Ov:List az:=[2,3,15,17,18,20,21,29,31,32,34,35,36,37,39,40,42,43,44,46,47,49,50,51,53,54,56,57,58,59,60,61,62,65,68,73,74,75,76,78,79,81,82,83,85,86,88,89,90,91,92,93,94,96,97,99,100,101,103,104,106,107,108,110,111,113,114,115,117,118,120,121,122,123,124,126,127,129,131,132,133,143,145,146,148,149,150,152,153,155,156,157,158,159,160,161,171,172,174,175,177,178,180,181,182,183,184,194,195,197,198,200,201,203,204,205,206,207,217,219,220,222,223,224,226,227,229,230,231,233,234,236,237,238,240,241,243,244,245,247,248,250,251,252,254,255,257,258,259,260,261,262,263,266,268,269,271,272,273,275,276,278,279,287,289,290,292,293,294,295,296,297,299,300,302,303,304,305,307,308,310,311,312,313,315,316,318,319,320,321,323,324,326,327,328,329,331,332,334,335,336,337,339,340,342,343,344,345,347,348,350,351,352,353,355,356,358,359,360,361,363,364,366,367,368,369,370,372,373,375,376,377,379,380,382,383,384,386,387,389,390,391,393,394,396,397,398,400,401,403,404,405,407,408,410,411,412,413,414,415,416,419,421,422,424,425,426,428,429,431,432,433,435,436,438,439,447,450,451,452,453,454,455,457,458,460,461,462,464,465,467,468,469,471,472,474,475,476,478,479,481,482,483,484,485,486,487,488,489,490,493,495,496,498,499,500,502,503,505,506,507,509,510,512,513,514,516,517,519,520,521,523,524,526,527,528,530,531,533,534,535,537,538,540,541,542,543,545,546,548,549,550,552,553,555,556,557,559,560,562,563,564,566,567,569,570,571,573,574,576,577,578,581,582]
noncomputable def kf(P:bF):Frag:=Ov.map λb=>(b,(Oe (sh P) b).getD default)
theorem pre(w:js)(a:df):topGo te pw w m0 ann 12 ⟨qf w.params,fX [],Aa,DX,a⟩ (topStub pw)=W (rJ (rK (qs (AM w.params) 12 1 0) 15 lf (fX []) dr 187 a),abm (denote te cE) cE (pU 0 0 0 0) [Ca qE]):=by rw[alR,zO,alP];nofun
theorem blk(w:js)(a:df):segRun te pw w m0 ann (nat_lit 1) 1 (rJ (rK (qs (AM w.params) 12 1 0) 15 lf (fX []) dr 187 a)) (blockOf bE Ar cE (pU 0 0 0 0) [Ca qE])=W (.next,rJ (rK (qs (AM w.params) 12 1 0) 15 lf (fX []) dr 187 a),cE,(pU 0 0 0 0)):=Wd (by unfold blockOf;rw[Ld,zO,alO];nofun)
noncomputable def WA:List cQ:=[bA 0,bA 1,bA 2,bA 3,bA 4,bA 5,bA 6,bA 7,bA 8]
theorem pc0(w:js)(a:df):segRun te pw w m0 ann (nat_lit 1) 2994 (rJ (rK (qs (AM w.params) 12 1 0) 15 lf (fX []) dr 187 a)) (Ho WA Ar cE (pU 0 0 0 0) [Ca qE])=W (.next,rJ (rK (qs (Od w.params) 12 1 0) 273 lf (fX []) dr 579 a),cE,(pU 116 0 121 58)):=Wd (by unfold Ho;rw[Ld,zO,aaU];nofun)
noncomputable def WB:List cQ:=[bA 9,bA 10,bA 11,bA 12,bA 13,bA 14,bA 15,bA 16,bA 17,bA 18,bA 19,bA 20,bA 21,bA 22,bA 23,bA 24,bA 25,bA 26,bA 27,bA 28,bA 29,bA 30,bA 31,bA 32,bA 33]
theorem pc1(w:js)(a:df):segRun te pw w m0 ann (nat_lit 1) 2614 (rJ (rK (qs (Od w.params) 12 1 0) 273 lf (fX []) dr 579 a)) (Ho WB Ar cE (pU 116 0 121 58) [Ca qE])=W (.next,rJ (rK (qs (sh w.params) 12 1 0) 583 lf (fX []) dr 1034 a),cE,(pU 388 0 407 15)):=Wd (by unfold Ho;rw[Ld,zO,aaU];nofun)
theorem fin(w:js)(a:df):topRun te pw w m0 ann 2 (rJ (rK (qs (sh w.params) 12 1 0) 583 lf (fX []) dr 1034 a)) (abm (doneF Flow.next) cE (pU 388 0 407 15) [Ca qE])=W ⟨ow w.params,fX [],dr,1034,a⟩:=by rw[alQ,zO];nofun
noncomputable def yl:Nat:=1034
theorem abO:bE=WA++(WB++[]):=by nofun
noncomputable def OR:Nat:=(pJ 12 (pJ 1 (pJ 2994 (pJ 2614 2))))
theorem ajV(w:js)(a:df):topRun te pw w m0 ann OR ⟨qf w.params,fX [],Aa,DX,a⟩ (topStub pw)=W ⟨ow w.params,fX [],dr,yl,a⟩:=go_top (pre w a) (piece_block (blk w a) (by rw[abO];exact(piece_app (pc0 w a) (piece_app (pc1 w a) (piece_nil (fin w a))))))
noncomputable def kZ:Program:=view pw [0,2,3,4,5,6,7,8,10,12,13,15,16,18,19,20,21,22,23,24,25,26,27,28,30,31,32,33]
noncomputable def uT:List aA:=[nu,ny,nA,nB,pC,pD]
theorem aa5(P:bF):Fn (kf P) 82 AF:=⟨⟨.type bB,X,#[],by nofun⟩,by nofun⟩
theorem aa6(P:bF):Fn (kf P) 303 Nr:=⟨⟨.type bB,X,#[],by nofun⟩,by nofun⟩
theorem aa7(P:bF):Fn (kf P) 311 Nt:=⟨⟨.type bB,X,#[],by nofun⟩,by nofun⟩
theorem aa8(P:bF):Fn (kf P) 319 Nu:=⟨⟨.type bB,X,#[],by nofun⟩,by nofun⟩
theorem aa9(P:bF):Fn (kf P) 327 Nv:=⟨⟨.type bB,X,#[],by nofun⟩,by nofun⟩
theorem aba(P:bF):Fn (kf P) 335 Nw:=⟨⟨.type bB,X,#[],by nofun⟩,by nofun⟩
theorem abb(P:bF):Fn (kf P) 343 Ny:=⟨⟨.type bB,X,#[],by nofun⟩,by nofun⟩
theorem abc(P:bF):Fn (kf P) 351 Nz:=⟨⟨.type bB,X,#[],by nofun⟩,by nofun⟩
theorem abd(P:bF):Fn (kf P) 359 NA:=⟨⟨.type bB,X,#[],by nofun⟩,by nofun⟩
theorem abe(P:bF):Fn (kf P) 367 NB:=⟨⟨.type bB,X,#[],by nofun⟩,by nofun⟩
theorem abj(P:bF):Fn (kf P) 425 kR:=⟨⟨.type bB,X,#[],by nofun⟩,by nofun⟩
theorem abf(P:bF):Fn (kf P) 451 xp:=⟨⟨.type bB,X,#[],by nofun⟩,by nofun⟩
theorem Lr(P:bF):Fn (kf P) 520 xq:=⟨⟨.type bB,X,#[],by nofun⟩,by nofun⟩
theorem abl(P:bF):Fn (kf P) 541 ke:=⟨⟨.type bB,X,#[],by nofun⟩,by nofun⟩
theorem abg(P:bF):Fn (kf P) 563 AE:=⟨⟨.type bB,X,#[],by nofun⟩,by nofun⟩
theorem abi(P:bF):Fn (kf P) 570 AG:=⟨⟨.type bB,X,#[],by nofun⟩,by nofun⟩
theorem abh(P:bF):Fn (kf P) 577 AH:=⟨⟨.type bB,X,#[],by nofun⟩,by nofun⟩
theorem abk(P:bF):Fn (kf P) 582 xo:=⟨⟨.type bB,X,#[],by nofun⟩,by nofun⟩
noncomputable abbrev ji:OpenLaw:=alN
noncomputable def hk:Hook:=kHook kf Ov (λa=>by nofun)
noncomputable def xt:aT->Bool:=λa=>xlAt kZ [] a&&recOk (RowW.records ji.row.toRowW) a
theorem akb(w:js):((qf w.params).isNs qB&&(fX ([]:List dQ)).size==0,(qf w.params).objs.size,(qf w.params).nsMap qB "__annotations__")=(af,m0,ann):=by nofun
theorem aiN:∀w:js,(fencedOpening te pw w 20000).map (λs=>(s.heap,s.gens,s.drawn,s.toks))=W (qf w.params,fX [],Aa,DX):=boot_open (by nofun) (by decide+kernel) (λa=>by nofun)
theorem FV(w:js)(a:df):(staticsOk (aea pw.main.body) (qf w.params) (ow w.params)&&namesBound pw (ow w.params)&&gensDone ⟨ow w.params,fX [],dr,yl,a⟩&&laidKept (qf w.params) (ow w.params))=af:=by nofun
theorem FW(w:js)(a:df):openSeen kZ uT (aea pw.main.body) xt af ⟨ow w.params,fX [],dr,yl,a⟩=openGood kZ uT:=by rw[alS];nofun
theorem FX(w:js)(a:df):hk.obs ⟨ow w.params,fX [],dr,yl,a⟩=hk.val w:=by nofun
theorem aeX:LeftO pw kZ uT xt hk.obs hk.val 20000:=
 LeftO.of_pieces (H₀:=qf) (H₁:=ow) (gs₀:=fX []) (gs₁:=fX []) (d₀:=Aa) (d₁:=dr) (k₀:=DX) (k₁:=yl) (m₀:=m0) (ann:=ann) (M:=OR)
  aiN akb ajV (by decide+kernel) (λa=>funext λb=>looks_pair (FV a b) (looks_pair (FW a b) (FX a b)))
noncomputable def sj:DefRec:=⟨ji.name,NM (bA 33),ou (bA 33),NO (bA 33),adN (bA 33)⟩
theorem acy:defOf kZ ji.row.toRowW.name=W (sj,[]):=by nofun
theorem akt:pw.theDef ji.row.toRowW.name=W (sj.params,sj.body,sj.scope):=by nofun
theorem ajX:ji.wellSaid=af:=by rw[alT];nofun
theorem okL:(chainsOk kZ&&opensWell ji.row.toRowW.prog&&(frees ji.row.toRowW&&ji.row.within.isEmpty))=af:=by nofun
theorem abH:ji.row.toRowW.prog.bare:=⟨rfl,rfl,rfl,rfl,rfl,by decide+kernel⟩
theorem ad1(c:WalkO kZ uT (XL kZ []) hk.says ji.row.toRowW sj [] λf vs=>aaV f vs):ji.Holds:=
 holds_law ajX λg=>holds_open (r:=ji.row) (q:=kZ) (loose:=uT) (Xt:=xt) (XP:=XL kZ []) (Yf:=hk.obs) (Ya:=hk.val) (YP:=hk.says) (d:=sj) (kwd:=[]) (N:=20000)
  aeX hk.of hk.keeps (λb a=>xl_of b (pE.mp a).1) XL.keeps acy akt (by nofun) (λb a=>recFacts_of (pE.mp a).2) (by rfl) g okL abH ⟨[WData.list []],by decide+kernel,by decide+kernel⟩ c
section
open PySem.Calls
def Wk(w:js):Prop:=WalkO kZ uT (XL kZ []) (λa h=>a=w/\hk.says a h) ji.row.toRowW sj [] λf b=>aaV f b
theorem w0:Nonempty js:=⟨λa a=>0,{strHash:=λa=>0,shareClass:=λa=>0,mergeTok:=id,idOf:=λa=>0,idOfShared:=λa a=>0,followText:=λa=>aw,idOfImm:=λa=>0}⟩
noncomputable def wS:js:=@Classical.epsilon js w0 λa=>¬Wk a
theorem ad2(h:Wk wS):ji.Holds:=ad1 λa b c d e f g=>(Classical.byContradiction λi=>@Classical.epsilon_spec js (λa=>¬Wk a) ⟨a,i⟩ h:Wk a) a b c d e f ⟨rfl,g⟩
noncomputable abbrev pS:bF:=wS.params
noncomputable abbrev MM:Model:=model pw wS
noncomputable abbrev aE:aq->aT->Prop:=λa a=>False
structure aU(k:Nat)(A:cT):Prop where
 h:A.handled=X
 d:A.depth+k<1000
 u:A.units+6*k<9900
theorem aU.le(r:aU k A)(h:j<=k):aU j A:=⟨r.h,by have:=r.d;exact(fq 0x7d02f852810be817c2a4084852408 0x11842008421).2 h this,by have:=r.u;exact(fq 0x9ab07f0a4c440849ab07f0a8c44084852408 0x11842508421).2 h this⟩
theorem aU.in1(r:aU (k+1) A):aU k A.in1:=⟨r.h,by have:=r.d;simp only[Yr];exact iy this,by have:=r.u;simp only[Yr];exact(dz 0x26ac1fc2931021408424d583f8421488c440848 0x8421).2 this⟩
theorem aU.deep(r:aU (k+1) A):aU k (A.deeper env):=⟨r.h,by have:=r.d;simp only[Yq];exact(dz 0x1f40be1484281085f40be10852240848 0x8421).2 this,by have:=r.u;simp only[Yq];exact(dz 0x26ac1fc2931061408424d583f8421488c440848 0x8421).2 this⟩
def Ext(h h':aK):Prop:=∀a c,h.get? a=W c->h'.get? a=W c
theorem Ext.rfl:Ext h h:=λa a b=>b
theorem Ext.trans(x:Ext a b)(y:Ext b c):Ext a c:=λf g h=>y f g (x f g h)
theorem eg{h:aK}{a b:az}{o:aI}(y:h.get? a=W o)(n:h.get? b=X):a≠b:=λc=>nomatch y.symm.trans ((congrArg h.get? c).trans n)
theorem gng{h:aK}{a b:az}{o:aI}(y:h.get? a=W o)(n:h.get? b=X):b≠a:=(eg y n).symm
theorem tF(P:bF){a:az}{fd:bI}(h:(kf P).lookup a=W ⟨.type "function",X, .func fd,#[]⟩:=by nofun)(k:codeIn (kf P) fd.code fd.qualname=af:=by nofun):Fn (kf P) a fd:=⟨⟨_,_,_,h⟩,k⟩
structure Bs(h:aK):Prop where
 k:(kf pS).In h
 l:h.NoLimit
 g:∃c,h.Ns qB c
 b:∃a,h.Ns Mo a/\∀x:aA,x≠"__name__"->a x=bootBuiltins x
theorem Bs.keeps(b:Bs h)(e:Ext h h'):Bs h':=
 ⟨b.k.keeps e,b.l.keeps e,let⟨a,x⟩:=b.g;⟨a,x.keeps e⟩,let⟨c,x,y⟩:=b.b;⟨c,x.keeps e,y⟩⟩
def Ev(k:Nat)(h:aK)(t:dG c)(P:c->aK->Prop):Prop:=
 ∀(e:cT) (f:c->aT->Prop) (a:aK) (g:Array dQ) (i:dT) (m:Nat) (j:df),aU k e->Ext h a->
  (∀l b n,Ext a b->P l b->f l ⟨b,g,i,n,j⟩)->aF (MM) e t f aE ⟨a,g,i,m,j⟩
theorem Ev.keeps(x:Ev k h t P)(e:Ext h h'):Ev k h' t P:=
 λa b c g f i j l m n=>x a b c g f i j l (e.trans m) n
theorem Ev.imp(x:Ev k h t P)(hk:k<=j)(q:∀v h',Ext h h'->P v h'->R v h'):Ev j h t R:=
 λe f i g l m n s a u=>x e f i g l m n (s.le hk) a λv b w c y=>u v b w c (q v b (a.trans c) y)
theorem Ev.at(x:Ev k h t (λf z=>f=v))(r:aU k A)(e:Ext h b)
 (q:∀a c,Ext b a->Q v ⟨a,g,d,c,o⟩):aF (MM) A t Q aE ⟨b,g,d,tk,o⟩:=x A Q b g d tk o r e λz a c i j=>j▸q a c i
theorem mR{P:aq->aK->Prop}
  (B:Bs h)(u:Fn (kf pS) w fd)(E:fd.body= .stmts body)(G:∀h' g d t o,(kf pS).In h'->vU ⟨h',g,d,t,o⟩ fd H binds)
  (I:(fd.scope.names.all λx=>x.2 != .cell)=af)(J:(binds.all λx=>decide (fd.scope.names.lookup x.1=W .local))=af)
  (M:fd.scope.isCoroutine=aw)(N:fd.scope.isGenerator=aw)(hk:fd.scope.kind= .function)
  (O:∀h₀ L m,Ext h h₀->Fr h₀ L m (λx=>binds.reverse.lookup x)->Bs m->∀A g d tk o (Q:dM->aT->Prop),aU k A->
   (∀v a b,Ext h₀ a->P v a->∀f,(match f with|lA v=>v|_=> .none)=v->Q f ⟨a,g,d,b,o⟩)->
   aF (MM) A (bg body (aY fd L w)) Q aE ⟨m,g,d,tk,o⟩):
  ∀(A:cT) (R:zR->aT->Prop) (a:aK) (g:Array dQ) (d:dT) (tk:Nat) (o:df),aU (k+1) A->Ext h a->
  (∀v i b,Ext a i->P v i->R (.ok (.ret v)) ⟨i,g,d,b,o⟩)->lT (MM) A (.call (.ref w) H) R ⟨a,g,d,tk,o⟩:=by
 intro A R a g d tk o y C S;obtain⟨c,dd,sl,lk⟩:=u.obj;have j:=B.keeps C;refine MC (fd:=fd) (body:=body) (binds:=binds) (by have:=y.d;show A.depth<1000;exact Bj this) (j.k _ _ lk) rfl j.l (Ak j.k u.code) E
  (G _ _ _ _ _ j.k) (λx n=>by have:=nP.mp I x n;simpa using this) (λx n=>of_decide_eq_true (nP.mp J x n)) (λh₀ T D=>?_) M N hk
 refine bJ (O a a.objs.size h₀ C ⟨T,D,bT _⟩ (j.keeps D) (A.deeper _) g d _ o
  (λf V=>R (.ok (.ret (match f with|lA v=>v|_=> .none))) V) y.deep (λv i b Y Z f hf=>?_)) (λs s x=>x) (λs s x=>x.elim)
 subst hf;exact S _ i b Y Z
def gM(k:Nat)(h:aK)(c:vW)(P:aq->aK->Prop):Prop:=
 ∀(e:cT) (f:zR->aT->Prop) (a:aK) (g:Array dQ) (i:dT) (m:Nat) (j:df),aU k e->Ext h a->
  (∀l b n,Ext a b->P l b->f (.ok (.ret l)) ⟨b,g,i,n,j⟩)->lT (MM) e c f ⟨a,g,i,m,j⟩
theorem qv(e:Ext h b)(c:h.get? a=W (dy C d))(f:h.get? d=W g):InstAt b a (dy C d) C (W g):=
 ⟨e _ _ c,rfl,rfl,e _ _ f⟩
theorem ql(B:Bs h)(f:xY (kf pS) C name=af)(i:hasDictIn (kf pS) C=af)
  (j:jK (kf pS) (.ref C) name=W X)(l:h.get? a=W (dy C d))(m:h.get? d=W (gQ p n))(hl:uK name p=W (W v))(s:ik v=af):
  Ev 0 h (fc (.ref a) name b) (λt z=>t=v):=by
 intro x y u g dr D E F c w;exact get_value (B.keeps c).k (qv c l m) (qM f).1 (findObj_own i j rfl hl) s (w v u _ Ext.rfl rfl)
theorem ac5(B:Bs h)(m:xY (kf pS) C name=af)(u:hasDictIn (kf pS) C=af)
  (w:jK (kf pS) (.ref C) name=W (W (.ref p)))(y:BU (kf pS) (.ref p) "__get__"=W (W (.builtin "property.__get__")))(z:BZ (kf pS) (.ref p)=W af)
  (i:((jQ (kf pS) p "property").bind rA)=W (.ref n))
  (D:h.get? a=W (dy C d))(E:h.get? d=W O)(c:gM k h (.call (.ref n) ⟨[.ref a],[]⟩) P)(F:∀v h',P v h'->ik v=af):
  Ev (k+1) h (fc (.ref a) name b) P:=by
 intro R S G g dr T H I f J;have⟨s,i⟩:∃s,jQ (kf pS) p "property"=W (.ref n::s):=by
  obtain⟨j,h1,h2⟩:=wH.mp i;cases j with
  |nil=>cases h2
  |cons x j=>cases h2;exact⟨j,h1⟩
 refine NS (B.keeps f).k (qv f D E) (qM m).1 (findObj_data (by obtain⟨V,L,_⟩:=any_some u;rw[L];rfl) w y z) (qM m).2 (dq (prop_get (B.keeps f).k i ?_));exact c _ _ G g dr _ H I.in1 f λv t M N p=>sf (F v t p) (J v t M N p)
theorem mS(h:aF M A (bg rest env) Q E {s with toks:=s.toks+1})
 (a:autoParam (FK env=aw) rf):aF M A (bg (.Expr (.Constant (.str x) j p1) p2::rest) env) Q E s:=de (wpAny_Expr (wpAny_Constant_str h) a)
theorem xj(n:h.Ns env.locals m)(a:m x=W v)(hk:env.scope.kind= .function)(hl:env.kindOf x=W .local)(b:(x==("__debug__":aA))=aw):
  Ev 0 h (aa (.Name x p) env) (λc z=>c=v):=λk l d g dr f s t i j=>
 gR (iK hk hl (n.keeps i) a (j v d f Ext.rfl rfl)) b
theorem uE(x:Ev k h (aa e env) P)(y:∀v h',Ext h h'->P v h'->Ev k h' (fc v nm af) R)
  (f:aa (.Attribute e nm p) env=(do
   let o<-aa e env
   fB p.atName
   let r<-fI [o] (fc o nm af)
   me e o r
   bj r):=by with_unfolding_all rfl):Ev k h (aa (.Attribute e nm p) env) R:=λa i j g dr l o r b m=>
 Attribute_any_ (x a _ j g dr l o r b λv c n d s=>y v c (b.trans d) s a i c g dr n o r Ext.rfl λt u w z hr=>m t u w (d.trans z) hr) f
theorem ni
  (E:∀L a,Ext h a->a.Ns L m->Bs a->Ev k a (aa e (aY fd L n)) P):
  ∀h₀ L a,Ext h h₀->Fr h₀ L a m->Bs a->∀A g d tk o (Q:dM->aT->Prop),aU k A->
   (∀v c i,Ext h₀ c->P v c->∀f,(match f with|lA v=>v|_=> .none)=v->Q f ⟨c,g,d,i,o⟩)->
   aF (MM) A (bg [.Return (W e) p] (aY fd L n)) Q aE ⟨a,g,d,tk,o⟩:=by
 intro h₀ L a s j t A g d tk o Q u w;exact de (qY (E L a (s.trans j.keep) j.ns t A _ a g d tk o u Ext.rfl λv c i y z=>w v c i (λl o x=>y l o (j.keep l o x)) z _ rfl))
theorem oS{m:aA->Option aq}{P:aq->aK->Prop}(i:∀L,FK (aY fd L e)=aw)
  (y:∀h₀ L a,Ext h h₀->Fr h₀ L a m->Bs a->∀A g d tk o (Q:dM->aT->Prop),aU k A->
   (∀v b c,Ext h₀ b->P v b->∀f,(match f with|lA v=>v|_=> .none)=v->Q f ⟨b,g,d,c,o⟩)->aF (MM) A (bg rest (aY fd L e)) Q aE ⟨a,g,d,tk,o⟩):
  ∀h₀ L a,Ext h h₀->Fr h₀ L a m->Bs a->∀A g d tk o (Q:dM->aT->Prop),aU k A->
   (∀v b c,Ext h₀ b->P v b->∀f,(match f with|lA v=>v|_=> .none)=v->Q f ⟨b,g,d,c,o⟩)->
   aF (MM) A (bg (.Expr (.Constant (.str x) j p1) p2::rest) (aY fd L e)) Q aE ⟨a,g,d,tk,o⟩:=
 λh₀ L a l n p A g d tk o Q s t=>mS (y h₀ L a l n p A g d (tk+1) o Q s t) (i L)
end
section
open PySem.Calls
noncomputable def uX(P:bF)(t:Nat×Nat×Nat×Nat)(a lf b:az)(st:aq):aI:=
 gQ [⟨dX P "_context", .str "_context" t.1, .ref a⟩,⟨dX P "_left_from_start", .str "_left_from_start" t.2.1, .ref lf⟩,
  ⟨dX P "_rotated", .str "_rotated" t.2.2.1, .ref b⟩,⟨dX P "_start", .str "_start" t.2.2.2,st⟩] 4
structure Node(h:aK)(a ctx lf b:az)(st:aq):Prop where
 ex:∃d t,h.get? a=W (dy 414 d)/\h.get? d=W (uX pS t ctx lf b st)
noncomputable def bodyOf(fd:bI):List cQ:=match fd.body with| .stmts a=>a|_=>[]
theorem oO(B:Bs h)(l:h.get? a=W (dy 414 d))(m:h.get? d=W M)
  (n:Fn (kf pS) j fd)
  (q:xY (kf pS) 414 nm=af)(r:jK (kf pS) (cM 414) nm=W (W (cM p)))(s:BU (kf pS) (cM p) "__get__"=W (W (Value.builtin "property.__get__")))(t:BZ (kf pS) (cM p)=W af)
  (u:((jQ (kf pS) p "property").bind rA)=W (cM j))(w:fd.body= .stmts (bodyOf fd))(y:bindArgs fd ⟨[.ref a],[]⟩=bj [(("self":aA),cM a)])
  (C:(fd.scope.names.all λx=>x.2 != .cell)=af)(D:([(("self":aA),cM a)].all λx=>decide (fd.scope.names.lookup x.1=W NameKind.local))=af)
  (E:fd.scope.isCoroutine=aw)(G:fd.scope.isGenerator=aw)(hk:fd.scope.kind= .function)
  (H:∀v h',P v h'->ik v=af)
  (I:∀h₀ L e,Ext h h₀->Fr h₀ L e (λx=>[(("self":aA),cM a)].reverse.lookup x)->Bs e->∀A g d tk o (Q:dM->aT->Prop),aU k A->
   (∀v i J,Ext h₀ i->P v i->∀f,(match f with|lA v=>v|_=> .none)=v->Q f ⟨i,g,d,J,o⟩)->
   aF (MM) A (bg (bodyOf fd) (aY fd L j)) Q aE ⟨e,g,d,tk,o⟩):Ev (k+2) h (fc (.ref a) nm b) P:=
 ac5 B q (by nofun) r s t u l m (mR B n w (λc c c c c c=>eR y) C D E G hk I) H
theorem ajM{h:aK}{a j lf g:az}{st:aq}{b:Bool}(B:Bs h)(N:Node h a j lf g st):Ev 3 h (fc (.ref a) "rotated" b) (λv z=>v= .ref g):=by obtain⟨q,t,i,hd⟩:=N.ex;refine oO (k:=1) B i hd (abd _) (p:=360) (by nofun) (by nofun) (by nofun) (by nofun) (by nofun) rfl rfl (by nofun) (by nofun) rfl rfl rfl (λv z c=>by rw[c];rfl) ?_;refine oS (λz=>rfl) (ni λr s c l m=>(uE ((xj l rfl rfl rfl rfl).imp (dN _) λz z z x=>x) λv u f o=>?_));subst o;exact(ql (m.keeps f) (by nofun) (by nofun) (by nofun) ((c.trans f) _ _ i) ((c.trans f) _ _ hd) rfl rfl).imp (dN _) λz z z x=>x
theorem aiL{h:aK}{a i lf j:az}{st:aq}{b:Bool}(B:Bs h)(N:Node h a i lf j st):Ev 3 h (fc (.ref a) "left_from_start" b) (λv z=>v= .ref lf):=by obtain⟨q,t,g,hd⟩:=N.ex;refine oO (k:=1) B g hd (aa9 _) (p:=328) (by nofun) (by nofun) (by nofun) (by nofun) (by nofun) rfl rfl (by nofun) (by nofun) rfl rfl rfl (λv z c=>by rw[c];rfl) ?_;refine oS (λz=>rfl) (ni λr s c l m=>(uE ((xj l rfl rfl rfl rfl).imp (dN _) λz z z x=>x) λv u f o=>?_));subst o;exact(ql (m.keeps f) (by nofun) (by nofun) (by nofun) ((c.trans f) _ _ g) ((c.trans f) _ _ hd) rfl rfl).imp (dN _) λz z z x=>x
theorem akm{h:aK}{a i lf j:az}{st:aq}{b:Bool}(B:Bs h)(N:Node h a i lf j st)(hs:ik st=af):Ev 3 h (fc (.ref a) "start" b) (λv z=>v=st):=by obtain⟨q,t,g,hd⟩:=N.ex;refine oO (k:=1) B g hd (abe _) (p:=368) (by nofun) (by nofun) (by nofun) (by nofun) (by nofun) rfl rfl (by nofun) (by nofun) rfl rfl rfl (λv z c=>by rw[c];exact hs) ?_;refine oS (λz=>rfl) (ni λr s c l m=>(uE ((xj l rfl rfl rfl rfl).imp (dN _) λz z z x=>x) λv u f o=>?_));subst o;exact(ql (m.keeps f) (by nofun) (by nofun) (by nofun) ((c.trans f) _ _ g) ((c.trans f) _ _ hd) rfl hs).imp (dN _) λz z z x=>x
theorem acu{h:aK}{a g lf j:az}{st:aq}{b:Bool}(B:Bs h)(N:Node h a g lf j st):Ev 3 h (fc (.ref a) "context" b) (λv z=>v= .ref g):=by obtain⟨q,t,i,hd⟩:=N.ex;refine oO (k:=1) B i hd (aa6 _) (p:=304) (by nofun) (by nofun) (by nofun) (by nofun) (by nofun) rfl rfl (by nofun) (by nofun) rfl rfl rfl (λv z c=>by rw[c];rfl) ?_;refine ni λr s c l m=>uE ((xj l rfl rfl rfl rfl).imp (dN _) λz z z x=>x) λv u f o=>?_;subst o;exact(ql (m.keeps f) (by nofun) (by nofun) (by nofun) ((c.trans f) _ _ i) ((c.trans f) _ _ hd) rfl rfl).imp (dN _) λz z z x=>x
end
section
open PySem.Calls
structure Lay where
 ad:Nat->az
 dd:Nat->az
 tq:Nat->Nat×Nat×Nat×Nat
 ctx:az
 st:Nat->aq
structure Rep(h:aK)(Y:Lay)(n:Nat)(on:Nat->Nat):Prop where
 ob:∀i<n,h.get? (Y.ad i)=W (dy 414 (Y.dd i))
 di:∀i<n,h.get? (Y.dd i)=W (uX pS (Y.tq i) Y.ctx (Y.ad (on i)) (Y.ad (bp i)) (Y.st i))
 on:∀i<n,on i<n
 n4:n%4=0
 ia:∀i j,i<n->j<n->Y.ad i=Y.ad j->i=j
 id:∀i j,i<n->j<n->Y.dd i=Y.dd j->i=j
 hs:∀i,ik (Y.st i)=af
theorem Rep.keeps{on:Nat->Nat}(R:Rep h Y n on)(e:Ext h h'):Rep h' Y n on:=
 {R with ob:=λa b=>e _ _ (R.ob a b),di:=λa b=>e _ _ (R.di a b)}
theorem Rep.node{on:Nat->Nat}(R:Rep h Y n on)(a:i<n):Node h (Y.ad i) Y.ctx (Y.ad (on i)) (Y.ad (bp i)) (Y.st i):=
 ⟨_,_,R.ob i a,R.di i a⟩
noncomputable abbrev aO(k:Nat)(h:aK)(t:dG aq)(v:aq):Prop:=Ev k h t (λa b=>a=v)
theorem aO.le(x:aO k h t v)(hk:k<=j):aO j h t v:=x.imp hk λa a a b=>b
theorem ah(n:h.Ns env.locals m)(b:autoParam (m x=W v) rf)(hk:autoParam (env.scope.kind= .function) rf)(hl:autoParam (env.kindOf x=W .local) rf)(c:autoParam ((x==("__debug__":aA))=aw) rf):
 aO k h (aa (.Name x p) env) v:=(xj n b hk hl c).imp (dN _) λa a a d=>d
def kB(e:Expr)(nm:aA)(p:cC)(env:gL):Prop:=aa (.Attribute e nm p) env=(do
 let a<-aa e env
 fB p.atName
 let b<-fI [a] (fc a nm af)
 me e a b
 bj b)
theorem cG(x:aO k h (aa e env) a)(y:aO k h (fc a nm af) v)(b:kB e nm p env:=by with_unfolding_all rfl):aO k h (aa (.Attribute e nm p) env) v:=
 uE x (λf g c d=>by subst d;exact y.keeps c) b
theorem qg(B:Bs h)(R:Rep h Y n on)(a:i<n)(x:aO k h (aa e env) (.ref (Y.ad i)))(hk:autoParam (3<=k) fW)(b:kB e "rotated" p env:=by with_unfolding_all rfl):aO k h (aa (.Attribute e "rotated" p) env) (.ref (Y.ad (bp i))):=
 cG x (aO.le (ajM B (R.node a)) hk) b
theorem iX(B:Bs h)(R:Rep h Y n on)(a:i<n)(x:aO k h (aa e env) (.ref (Y.ad i)))(hk:autoParam (3<=k) fW)(b:kB e "left_from_start" p env:=by with_unfolding_all rfl):aO k h (aa (.Attribute e "left_from_start" p) env) (.ref (Y.ad (on i))):=
 cG x (aO.le (aiL B (R.node a)) hk) b
theorem hQ(B:Bs h)(R:Rep h Y n on)(a:i<n)(x:aO k h (aa e env) (.ref (Y.ad i)))(hk:autoParam (3<=k) fW)(b:kB e "start" p env:=by with_unfolding_all rfl):aO k h (aa (.Attribute e "start" p) env) (Y.st i):=
 cG x (aO.le (akm B (R.node a) (R.hs i)) hk) b
theorem aiP(B:Bs h)(R:Rep h Y n on)(a:i<n):aO 5 h (fc (.ref (Y.ad i)) "opposite" b) (.ref (Y.ad (U i))):=by refine oO (k:=3) B (R.ob i a) (R.di i a) (aba _) (p:=336) (by nofun) (by nofun) (by nofun) (by nofun) (by nofun) rfl rfl (by nofun) (by nofun) rfl rfl rfl (λj f c=>by rw[c];rfl) ?_;refine oS (λf=>rfl) (ni λl m c g d=>?_);rw[<-yd];exact qg d (R.keeps c) (cw R.n4 a) (qg d (R.keeps c) a (ah g))
theorem fG(B:Bs h)(R:Rep h Y n on)(a:i<n)(x:aO k h (aa e env) (.ref (Y.ad i)))(hk:autoParam (5<=k) fW)(b:kB e "opposite" p env:=by with_unfolding_all rfl):aO k h (aa (.Attribute e "opposite" p) env) (.ref (Y.ad (U i))):=
 cG x (aO.le (aiP B R a) hk) b
theorem acG(B:Bs h)(R:Rep h Y n on)(a:i<n):aO 7 h (fc (.ref (Y.ad i)) "end" b) (Y.st (U i)):=by refine oO (k:=5) B (R.ob i a) (R.di i a) (aa7 _) (p:=312) (by nofun) (by nofun) (by nofun) (by nofun) (by nofun) rfl rfl (by nofun) (by nofun) rfl rfl rfl (λj f c=>by rw[c];exact R.hs _) ?_;exact oS (λf=>rfl) (ni λl m c g d=>(hQ d (R.keeps c) (bK R.n4 a) (fG d (R.keeps c) a (ah g))))
theorem gc(B:Bs h)(R:Rep h Y n on)(a:i<n)(x:aO k h (aa e env) (.ref (Y.ad i)))(hk:autoParam (7<=k) fW)(b:kB e "end" p env:=by with_unfolding_all rfl):aO k h (aa (.Attribute e "end" p) env) (Y.st (U i)):=
 cG x (aO.le (acG B R a) hk) b
theorem aiS(B:Bs h)(R:Rep h Y n on)(a:i<n):aO 7 h (fc (.ref (Y.ad i)) "right_from_start" b) (.ref (Y.ad (aZ on i))):=by refine oO (k:=5) B (R.ob i a) (R.di i a) (abc _) (p:=352) (by nofun) (by nofun) (by nofun) (by nofun) (by nofun) rfl rfl (by nofun) (by nofun) rfl rfl rfl (λj f c=>by rw[c];rfl) ?_;exact oS (λf=>rfl) (ni λl m c g d=>(qg d (R.keeps c) (R.on _ (cw R.n4 a)) (iX d (R.keeps c) (cw R.n4 a) (qg d (R.keeps c) a (ah g)))))
theorem afa(B:Bs h)(R:Rep h Y n on)(a:i<n):aO 7 h (fc (.ref (Y.ad i)) "left_from_end" b) (.ref (Y.ad (gh on i))):=by refine oO (k:=5) B (R.ob i a) (R.di i a) (aa8 _) (p:=320) (by nofun) (by nofun) (by nofun) (by nofun) (by nofun) rfl rfl (by nofun) (by nofun) rfl rfl rfl (λj f c=>by rw[c];rfl) ?_;exact oS (λf=>rfl) (ni λl m c g d=>(qg d (R.keeps c) (R.on _ (bK R.n4 (cw R.n4 a))) (iX d (R.keeps c) (bK R.n4 (cw R.n4 a)) (fG d (R.keeps c) (cw R.n4 a) (qg d (R.keeps c) a (ah g))))))
theorem ajR(B:Bs h)(R:Rep h Y n on)(a:i<n):aO 7 h (fc (.ref (Y.ad i)) "right_from_end" b) (.ref (Y.ad (jz on i))):=by refine oO (k:=5) B (R.ob i a) (R.di i a) (abb _) (p:=344) (by nofun) (by nofun) (by nofun) (by nofun) (by nofun) rfl rfl (by nofun) (by nofun) rfl rfl rfl (λj f c=>by rw[c];rfl) ?_;refine oS (λf=>rfl) (ni λl m c g d=>?_);show aO 5 _ _ (.ref (Y.ad (on (U i))));exact iX d (R.keeps c) (bK R.n4 a) (fG d (R.keeps c) a (ah g))
end
theorem eZ(a:Fr h₀ L h m)(e:Ext h h'):Fr h₀ L h' m:=⟨a.ns.keeps e,λc d x=>e c d (a.keep c d x),a.above⟩
theorem hY(x:Ev k h t P)(r:aU k A)(e:Ext h a)
 (q:∀v b c,Ext a b->P v b->Q v ⟨b,g,d,c,o⟩):aF (MM) A t Q aE ⟨a,g,d,tk,o⟩:=x A Q a g d tk o r e q
structure fC(h:aK)(a:az)(x y:aq):Prop where
 ex:∃n:Nat×Option az,h.get? a=W ⟨.ref 132,n.2, .seq #[x,y] n.1,#[]⟩
theorem fC.keeps(p:fC h a x y)(e:Ext h h'):fC h' a x y:=let⟨b,q⟩:=p.ex;⟨b,e _ _ q⟩
theorem cB(B:Bs h)(e:nsIn (kf pS) qB x=W (W v))(b:autoParam (env.globals=qB) rf)
  (hk:autoParam (env.scope.kind= .function) rf)(c:autoParam (env.kindOf x=W .globalImplicit) rf)(d:autoParam ((x==("__debug__":aA))=aw) rf):aO k h (aa (.Name x p) env) v:=by
 intro l m f g dr i n s a j;obtain⟨t,G⟩:=(B.keeps a).g;exact YC hk c (Calls.loadGlobal_global (env:=env) (b▸G) (mg_of (B.keeps a).k G e) (j v f i Ext.rfl rfl)) d
theorem eY(B:Bs h)(e:nsIn (kf pS) qB x=W X)(c:bootBuiltins x=W v)(d:x≠"__name__")(f:autoParam (env.globals=qB) rf)(i:autoParam (env.builtins=Mo) rf)
  (hk:autoParam (env.scope.kind= .function) rf)(j:autoParam (env.kindOf x=W .globalImplicit) rf)(l:autoParam ((x==("__debug__":aA))=aw) rf):aO k h (aa (.Name x p) env) v:=by
 intro u w m g dr n y z a s;obtain⟨C,G⟩:=(B.keeps a).g;obtain⟨D,t,hb⟩:=(B.keeps a).b;exact YC hk j (Calls.loadGlobal_builtin (env:=env) (f▸G) (mg_none_of (B.keeps a).k G e) (i▸t) ((hb x d).trans c) (s v m n Ext.rfl rfl)) l
theorem FH(B:Bs h)(p:fC h a x y):eS (MM) h (uO (.ref a) (.type "tuple")) af:=by obtain⟨d,b⟩:=p.ex;have c:eS (MM) h (kY (.ref a)) (.ref 132):=(pI b).andThen .now;exact c.andThen (looks_mroIn B.k (by nofun))
theorem Ag{h:aK}{A:cT}{Q:Unit->aT->Prop}{E:aq->aT->Prop}{id nm:String}{a:az}{x y:aq}{rest:List aq}{kw:List (aA×aq)}{g:Array dQ}{d:dT}{tk:Nat}{o:df}(B:Bs h)(p:fC h a x y)
  (hs:splitId id=W ("tuple",nm))(hk:builtinKind id=W .slot)(b:wR id ⟨.ref a::rest,kw⟩)(q:Q () ⟨h,g,d,tk,o⟩):aF (MM) A (Ed id ⟨.ref a::rest,kw⟩) Q E ⟨h,g,d,tk,o⟩:=by
 simp only[Ed,hk,hs];refine aB ((FH B p).at ?_);simp only[Ju,ly,if_false];cases c:Kr id with
 |none=>exact aV q
 |some f=>simp only[wR,c] at b;have e:=b;simp only[e];exact aV q
theorem akN{h:aK}{a:az}{x y v:aq}{i:Int}{u:jF}{j:Nat}(B:Bs h)(p:fC h a x y)(b:0<=i)(f:i<2)(C:[x,y][i.toNat]?=W v):
  Ev 1 h (eU (.builtin "tuple.__getitem__") [.ref a, .int i u]) (λD z=>D=v):=by
 intro m c s g F t G J k l;refine dq (oi BQ.plain acH ?_);refine(λc w (l:c () (⟨s,g,F,t,G⟩:aT))=>Ag (A:=m.in1) (Q:=c) (E:=w) (id:="tuple.__getitem__") (nm:="__getitem__") (B.keeps k) (p.keeps k) (by decide+kernel) (by decide+kernel) (abz (.ref a) (.int i u)) l) _ _ ?_;obtain⟨L,H⟩:=(p.keeps k).ex;have M:=AutoSeq1.idx_int;have hf:¬(decide (i< -2^63)||decide (i>=2^63))=af:=by simp;exact Ra b f
 have hk:HA i 2=W i.toNat:=by unfold HA;rw[if_neg (by exact Int.not_lt_of_ge b:¬i<0)];rw[];rw[if_pos (by simp;exact⟨b,f⟩)]
 wp_walk using lg H
 have I:(#[x,y]:Array aq)[i.toNat]?=W v:=by simp only[<-C];simp
 simp only[show(#[x,y]:Array aq).size=2 from rfl,hk,I,Option.bind_some];refine cW (by simp;exact Ra b f) ?_
 wp_walk
 exact l v s t Ext.rfl rfl
theorem aej(B:Bs h):Ev 2 h (eU (.builtin "issubclass") [.ref 132, .type "tuple"]) (λv z=>v= .bool af):=by
 intro f i a g p b t G u j;have w:eS (MM) a (kC.«issubclass.nested» ⟨[.ref 132, .type "tuple",fu 0],[]⟩) (.done (.ret (.bool af))):=ZZ (B.keeps u).k (by nofun);have l:Ks pw wS (kC.«issubclass» ⟨[.ref 132, .type "tuple"],[]⟩) (λx m c=>c=⟨a,g,p,b,t⟩/\m (.ok (.ret (.bool af))) c):=by intro x m c y;obtain⟨rfl,C⟩:=y;exact issubclass_outer (w.at C)
 refine dq (oi F.plain_issubclass F.entry_issubclass ?_);have n:=F.args_issubclass_2 (.ref 132) (.type "tuple");simp only[Ed,F.kind_issubclass];cases D:Kr "issubclass" with
 |none=>exact aV (l f (wants i aE) _ ⟨rfl,j _ a b Ext.rfl rfl⟩)
 |some H=>simp only[wR,D] at n;have E:=n;simp only[E];exact aV (l f (wants i aE) _ ⟨rfl,j _ a b Ext.rfl rfl⟩)
noncomputable def uA(K:Frag)(D:az):az:=match K.lookup D with|some a=>a.dict.getD 0|none=>0
noncomputable def Au(K:Frag)(d:az):List CL×Nat:=match(K.lookup d).map Obj.data with|some (Data.dict a b)=>(a.toList,b)|_=>([],0)
noncomputable def tokOf:Option (Option aq)->jF
 |some (W (.int _ a))=>a
 |_=>0
structure tZ(P:bF)(D:az)(i:Int):Prop where
 spec:∃u d a n,(kf P).lookup D=W (dy 60 d)/\(kf P).lookup d=W (gQ a n)/\uK "index" a=W (W (.int i u))
theorem NT(a:(kf P).lookup D=W (dy 60 (uA (kf P) D)))(b:(kf P).lookup (uA (kf P) D)=W (gQ (Au (kf P) (uA (kf P) D)).1 (Au (kf P) (uA (kf P) D)).2))
 (c:uK "index" (Au (kf P) (uA (kf P) D)).1=W (W (.int i (tokOf (uK "index" (Au (kf P) (uA (kf P) D)).1))))):tZ P D i:=⟨_,_,_,_,a,b,c⟩
theorem adW(P:bF):tZ P 124 0:=NT (by nofun) (by nofun) (by nofun)
theorem adX(P:bF):tZ P 127 1:=NT (by nofun) (by nofun) (by nofun)
theorem aks{h:aK}{a D:az}{i:Int}{x y v:aq}(B:Bs h)(S:fC h a x y)(G:tZ pS D i)(h0:0<=i)(hi:i<2)(hj:[x,y][i.toNat]?=W v)(hv:ik v=af):
  gM 6 h (.call (.ref 43) ⟨[.ref D, .ref a, .ref 132],[]⟩) (λv' w=>v'=v):=by
 refine mR (k:=5) (fd:=EV) (body:=bodyOf EV) (binds:=[("self", .ref D),("obj", .ref a),("objtype", .ref 132)]) B (tF _) rfl ?_ (by nofun) (by nofun) rfl rfl rfl ?_
 .intro h' g d t e a4;exact LY a4 rfl (T:=36) (o:=⟨.type "tuple",X, .seq #[.none] 0,#[]⟩) (items:=#[.none]) (n:=0) (by nofun) rfl rfl rfl
 intro b1 L b2 J V m Y g dr tk e M c N;refine de (Ci (ti (Ev.at (ah V.ns) c Ext.rfl λb3 b4 f=>?_)));refine WX ?_;refine HQ rfl (by intro z;cases z) (gH ?_);simp only[ly,if_false];refine cA (de (Ci (isTrue_not (FN ?_))));refine mE (Ev.at (eY (v:= .builtin "issubclass") (m.keeps f) (by nofun) (by boot_by_name) (by decide)) c Ext.rfl λb5 b6 p=>?_);have O:=eZ (eZ V f) p;refine Dw (cF (mE ?_));refine Ev.at (eY (v:= .type "type") ((m.keeps f).keeps p) (by nofun) (by boot_by_name) (by decide)) c Ext.rfl λb7 b8 l=>?_;have a5:=S.keeps (J.trans (eZ O l).keep);refine callWith_type1 (cF (Ev.at (ah (eZ O l).ns) c Ext.rfl λb9 c0 C=>?_));obtain⟨pn,a6⟩:=(a5.keeps C).ex;refine eQ (call_type_obj a6 rfl ?_);refine cF (Ev.at (eY (v:= .type "tuple") ((((m.keeps f).keeps p).keeps l).keeps C) (by nofun) (by boot_by_name) (by decide)) c Ext.rfl λc1 c2 P=>?_);refine eQ (Ev.at (aej (((((m.keeps f).keeps p).keeps l).keeps C).keeps P)) (c.le (by decide)) Ext.rfl λc3 c4 Z=>?_);refine gH ?_;simp only[Ju,ly,if_false];refine cA ?_;have a0:=(((((m.keeps f).keeps p).keeps l).keeps C).keeps P).keeps Z;refine de (qY (kT ?_));refine Ev.at (eY (v:= .type "tuple") a0 (by nofun) (by boot_by_name) (by decide)) c Ext.rfl λa7 a8 a3=>?_;have H:=eZ (eZ (eZ (eZ (eZ O l) C) P) Z) a3;have ht:kY (.type "tuple")=bj (.type "type"):=by nofun
 have hs:aaa "tuple"=aw:=by decide+kernel
 have a9:NC (kf pS) (.type "tuple") (.type "type") "__getitem__"=W (.val (.builtin "tuple.__getitem__")):=by nofun
 have hh:ik (.builtin "tuple.__getitem__")=af:=by nofun
 refine(λpl M N=>method_type (prog:=pw) (A:=Y) (E:=aE) (s:=⟨a7,g,dr,a8,e⟩) (T:="tuple") (name:="__getitem__") (pl:=pl) (Q:=M) (v:= .builtin "tuple.__getitem__") H (B.keeps J).k ht hs a9 hh N) _ _ (Dw (cF ?_));refine Ev.at (ah H.ns) c Ext.rfl λc5 c6 R=>?_;have I:=(a0.keeps a3).keeps R;refine cF ?_;obtain⟨u,dd,es,en,FV,FW,FX⟩:=G.spec;refine Ev.at (cG (v:= .int i u) (ah (eZ H R).ns) (aO.le (ql I (by nofun) (by nofun) (by nofun) (I.k _ _ FV) (I.k _ _ FW) FX rfl) (dN _))) c Ext.rfl λhA c7 eA=>?_;have FA:=eZ (eZ H R) eA;refine eQ (Ev.at (akN (j:=0) (I.keeps eA) (S.keeps (J.trans FA.keep)) h0 hi hj) (c.le (Rb)) Ext.rfl λhB b0 eB=>?_);exact N _ hB b0 (λb e x=>eB b e (FA.keep b e x)) rfl _ rfl
theorem afd{h:aK}{K:Frag}{M:Model}{x C:az}{name:aA}{a g:aq}(b:K.In h)(c:jK K (.ref C) name=W (W a))(d:BU K a "__get__"=W (W g))(e:BZ K a=W af):
  eS M h (aly (.ref x) (.ref C) name) (.bind g a):=
 (su (M:=M) b c).andThen ((show eS M h (alz (W a)) (W g) from looks_specialIn b d).andThen ((show eS M h (alx (W a) (W g)) (W (g,a)) from(looks_takesIn (M:=M) b e).andThen .now).andThen (Looks.tag .now)))
theorem ajf{h:aK}{A:cT}{Q:aq->aT->Prop}{a D:az}{i:Int}{x y v:aq}{nm:aA}{u:jF}{g:Array dQ}{d:dT}{tk:Nat}{o:df}(B:Bs h)(b:fC h a x y)(G:tZ pS D i)(f:0<=i)(j:i<2)(l:[x,y][i.toNat]?=W v)(m:ik v=af)
  (hf:jK (kf pS) (.ref 132) nm=W (W (.ref D))/\BU (kf pS) (.ref D) "__get__"=W (W (.ref 43))/\BZ (kf pS) (.ref D)=W af)(r:aU 8 A)(q:∀h' c,Ext h h'->Q v ⟨h',g,d,c,o⟩):
  aF (MM) A (eU (.builtin "tuple.__getattribute__") [.ref a, .str nm u]) Q aE ⟨h,g,d,tk,o⟩:=by
 refine dq (oi YM.plain F.entry_tuple_ga ?_);refine(λQ e (q:Q () (⟨h,g,d,tk,o⟩:aT))=>Ag (A:=A.in1) (Q:=Q) (E:=e) (id:="tuple.__getattribute__") (nm:="__getattribute__") B b (by decide+kernel) (by decide+kernel) (F.args_tuple_getattribute_2 (.ref a) (.str nm u)) q) _ _ ?_;obtain⟨C,ha⟩:=b.ex;have s:eS (MM) h (kY (.ref a)) (.ref 132):=(pI ha).andThen .now;refine aB (aV (aB (aV (aB (s.at (aB ((afd (M:=MM) (x:=a) B.k hf.1 hf.2.1 hf.2.2).at (aB (eH (dq ?_))))))))));refine aks B b G f j l m _ _ _ g d _ o ((r.le (by exact(afe 0x809c20 0).2:7<=8)).in1) Ext.rfl λH t c w z=>?_;subst z;exact aV (q t c w)
theorem VJ(B:Bs h)(H:fC h a x y)(G:tZ pS D i)(I:0<=i)(J:i<2)(L:[x,y][i.toNat]?=W v)(p:ik v=af)
  (hf:jK (kf pS) (.ref 132) nm=W (W (.ref D))/\BU (kf pS) (.ref D) "__get__"=W (W (.ref 43))/\BZ (kf pS) (.ref D)=W af)(N:jK (kf pS) (.ref 132) "__getattribute__"=W (W (.builtin "tuple.__getattribute__")))(hk:jK (kf pS) (.ref 132) "__getattr__"=W X):
  aO 8 h (fc (.ref a) nm b) v:=by
 intro A O s g dr f P R t S;have j:=B.keeps t;have u:=H.keeps t;obtain⟨n,ha⟩:=u.ex;have T:eS (MM) s (kY (.ref a)) (.ref 132):=(pI ha).andThen .now;delta fc getAttrBy;refine aB (wpAny_mkText (eH (aB (T.at (aB ((su (M:=MM) j.k N).at ?_))))));delta getAttrByItsOwn hookBefore callGetattribute boundAndCalled;refine aB ((su (M:=MM) j.k hk).at ?_);have V:(if(b&&onTheHeap (.builtin "tuple.__getattribute__"))=af then runValue (.builtin "lifetime.attribute" ⟨[.ref a, .str nm f, .builtin "tuple.__getattribute__"],[]⟩) else(do
   let(g,first)<-DW (.builtin "tuple.__getattribute__") (.ref a)
   eU g (first++[.str nm f])))=(do
   let(g,first)<-DW (.builtin "tuple.__getattribute__") (.ref a)
   eU g (first++[.str nm f])):=by cases b<;>rfl
 rw[V];refine aB (wpAny_attempt (eH (aB (oV (YM.bind _) ?_))));refine bJ (Q:=λl C=>l=v/\∃c d,C=⟨c,g,dr,d,P⟩/\Ext s c) (E:=aE) (ajf j u G I J L p hf R λc d m=>⟨rfl,c,d,rfl,m⟩) (λl C Y=>?_) λZ Z z=>z.elim;obtain⟨rfl,c,d,rfl,m⟩:=Y;show aF _ _ (handedOut l) _ _ _;rw[handedOut_of p];exact aV (S _ c d m rfl)
theorem alh(B:Bs h)(c:fC h a x y)(d:ik x=af):aO 8 h (fc (.ref a) "x" b) x:=
 VJ B c (adW _) (by lia) (by lia) rfl d ⟨by nofun,by nofun,by nofun⟩ (by nofun) (by nofun)
theorem alk(B:Bs h)(c:fC h a x y)(d:ik y=af):aO 8 h (fc (.ref a) "y" b) y:=
 VJ B c (adX _) (by lia) (by lia) rfl d ⟨by nofun,by nofun,by nofun⟩ (by nofun) (by nofun)
def Bt(k:Nat)(x:Int):Prop:=x.natAbs<2^k
theorem Bt.add(a:Bt k x)(b:Bt k y):Bt (k+1) (x+y):=by unfold Bt at*;rw[KI];have:=Int.natAbs_add_le x y;exact ahn a b
theorem Bt.sub(a:Bt k x)(b:Bt k y):Bt (k+1) (x-y):=by unfold Bt at*;rw[KI];have:=Int.natAbs_sub_le x y;exact aho a b
theorem Bt.mul(a:Bt k x)(b:Bt j y):Bt (k+j) (x*y):=by
 unfold Bt at*;rw[Nat.pow_add,Int.natAbs_mul];rcases Nat.eq_zero_or_pos x.natAbs with h|h
 .rw[h,Nat.zero_mul];exact Nat.mul_pos (aaD k) (aaD j)
 .exact fj (Nat.mul_lt_mul_of_pos_left b h) (Nat.mul_le_mul_right _ (iy a))
set_option tactic.hygienic true in
theorem Bt.bits(h:Bt k x):pH x<=k:=by
 unfold pH;split
 .exact dN _
 .rename_i a;have b:x.natAbs≠0:=by intro c;exact a (by rw[Int.natAbs_eq_zero.mp c];rfl)
  have:=(aam b).mpr h;exact QK this
theorem Bt.mX(c:Bt k a)(d:Bt j b)(hk:k+j<=134217728):JT a b:=by
 have h:Yx (pH a+pH b)=aw:=by
  unfold Yx bitsLine;have:=c.bits;have:=d.bits;have f:(2:Nat)^27=134217728:=by decide
  exact decide_eq_false ((gm 0x24c8308800000037c261a96902148020800000037c2b50808 0x25084011042008821).2 hk ‹_› this)
 unfold JT;rw[h];simp
noncomputable abbrev aX(k:Nat)(h:aK)(t:dG aq)(i:Int):Prop:=Ev k h t (λa c=>∃b,a= .int i b)
theorem aX.of(x:aO k h t (.int i u)):aX k h t i:=x.imp (bT _) λa a a b=>⟨u,b⟩
theorem gf(x:aX k h (aa l env) i)(y:aX k h (aa r env) j):aX k h (aa (.BinOp l .Sub r pos) env) (i-j):=by intro b D n g dr p c d f s;refine vJ (x b _ n g dr p c d f λt w z m a=>?_);obtain⟨E,rfl⟩:=a;refine y b _ w g dr z c d (f.trans m) λt B F C a=>?_;obtain⟨G,rfl⟩:=a;exact sub_int' (s _ B _ (m.trans C) ⟨_,rfl⟩)
theorem rU(x:aX k h (aa l env) i)(y:aX k h (aa r env) j):aX k h (aa (.BinOp l .Add r pos) env) (i+j):=by intro b D n g dr p c d f s;refine vJ (x b _ n g dr p c d f λt w z m a=>?_);obtain⟨E,rfl⟩:=a;refine y b _ w g dr z c d (f.trans m) λt B F C a=>?_;obtain⟨G,rfl⟩:=a;exact wpAny_add_int (s _ B _ (m.trans C) ⟨_,rfl⟩)
theorem lX(x:aX k h (aa l env) i)(y:aX k h (aa r env) j)(n:JT i j):aX k h (aa (.BinOp l .Mult r pos) env) (i*j):=by intro b E p g dr s c d f t;refine vJ (x b _ p g dr s c d f λw z B m a=>?_);obtain⟨F,rfl⟩:=a;refine y b _ z g dr B c d (f.trans m) λw C G D a=>?_;obtain⟨H,rfl⟩:=a;exact alI (t _ C _ (m.trans D) ⟨_,rfl⟩) n
theorem ct:aX k h (aa (.Constant (.int n) c pos) env) n:=by intro d f a g dr i j l m b;exact wpAny_Constant_int (b _ a _ Ext.rfl ⟨_,rfl⟩)
theorem EK(x:aX k h (aa l env) i)(y:aX k h (aa r env) j)(p:lO .Gt r=aw:=by with_unfolding_all rfl):Ev k h (isTrue (.Compare l [.Gt] [r] pos) env G) (λb z=>b=decide (j<i)):=by intro c H s g dr t d f m w;refine ti (x c _ s g dr t d f m λB C D n a=>?_) p;obtain⟨I,rfl⟩:=a;refine y c _ C g dr D d f (m.trans n) λB E J F a=>?_;obtain⟨L,rfl⟩:=a;exact aaJ (gH (w _ E _ (n.trans F) rfl))
theorem qk(x:aX k h (aa l env) i)(y:aX k h (aa r env) j)(p:lO .Lt r=aw:=by with_unfolding_all rfl):Ev k h (isTrue (.Compare l [.Lt] [r] pos) env G) (λb z=>b=decide (i<j)):=by intro c H s g dr t d f m w;refine ti (x c _ s g dr t d f m λB C D n a=>?_) p;obtain⟨I,rfl⟩:=a;refine y c _ C g dr D d f (m.trans n) λB E J F a=>?_;obtain⟨L,rfl⟩:=a;exact HR (gH (w _ E _ (n.trans F) rfl))
theorem yg
 (f:Fr h₀ L h m)(n:Ev k h (aa i (aY fd L a)) P)(r:aU k A)
   (q:∀v h' b j,Ext h h'->P v h'->dE L h' b->Fr h₀ L b (λy=>if y=x then W v else m y)->aF (MM) A (bg rest (aY fd L a)) Q aE ⟨b,g,d,j,o⟩)
   (hs:autoParam (mB i (W (.Name x p)) pos.line (aY fd L a)=bj aw) rf)(hl:autoParam ((aY fd L a).kindOf x=W .local) rf)
   (s:autoParam (((aY fd L a).scope.kind== .class||((aY fd L a).scope.kind== .module&&(aY fd L a).locals !=(aY fd L a).globals))=aw) rf):
   aF (MM) A (bg (.Assign [.Name x p] i pos::rest) (aY fd L a)) Q aE ⟨h,g,d,tk,o⟩:=by
  exact de (oU (n A _ h g d tk o r Ext.rfl λv h' j c t=>(fw hl (eZ f c).ns (λb u l=>q v h' b _ c t l ((eZ f c).set u l)) s)) hs)
section
variable {k:Nat} {h:Heap}
theorem iD{C:az}{nm:aA}{v:aq}{b:Bool}(B:Bs h)(hr:readsIn (kf pS) C (.type "type")=af)(e:NC (kf pS) (.ref C) (.type "type") nm=W (.val v))(a:ik v=af):
  aO k h (fc (.ref C) nm b) v:=by
 intro i j c g dr l m n d f;exact cls_value (B.keeps d).k hr e a (f v c _ Ext.rfl rfl)
theorem fL{h₀:Heap}{L:az}{env:gL}{m:aA->Option aq}{A:cT}{g:Array dQ}{d:dT}{tk:Nat}{o:df}{Q:dM->aT->Prop}{e:Expr}{p:cC}{rest:List cQ}{P:aq->Heap->Prop}
  (b:Ev k h (aa e env) P)(r:aU k A)(q:∀v h' a,Ext h h'->P v h'->Q (.ret v) ⟨h',g,d,a,o⟩):aF (MM) A (bg (.Return (W e) p::rest) env) Q aE ⟨h,g,d,tk,o⟩:=
 de (qY (b A _ h g d tk o r Ext.rfl λv h' a e c=>q v h' a e c))
set_option tactic.hygienic true in
theorem BV{h₀:Heap}{L:az}{env:gL}{m:aA->Option aq}{A:cT}{g:Array dQ}{d:dT}{tk:Nat}{o:df}{Q:dM->aT->Prop}{t:Expr}{p:cC}{n s rest:List cQ}{c:Bool}
  (v:Fr h₀ L h m)(w:Ev k h (isTrue t env (aa t env)) (λb y=>b=c))(r:aU k A)
  (q:∀h' j,Fr h₀ L h' m->Ext h h'->aF (MM) A (bg (if c=af then n else s) env) (λf i=>match f with| .next=>aF (MM) A (bg rest env) Q aE i|_=>Q f i) aE ⟨h',g,d,j,o⟩):
  aF (MM) A (bg (.If t n s p::rest) env) Q aE ⟨h,g,d,tk,o⟩:=by
 refine de (Ci (Ev.at w r Ext.rfl λh' j u=>?_));have a:=q h' j (eZ v u) u;split
 .rename_i l;rw[if_pos l] at a;refine bJ a (λf i a=>?_) λy y a=>a;cases f<;>exact a
 .rename_i l;rw[if_neg l] at a;refine bJ a (λf i a=>?_) λy y a=>a;cases f<;>exact a
end
noncomputable def mw(c:Int):aq:=if 0<c then .ref 178 else if c<0 then .ref 172 else .ref 175
noncomputable def uS(c:Int):aq:=if 0<c then .ref 201 else if c<0 then .ref 195 else .ref 198
noncomputable abbrev KB:Nat:=1048576
structure bN(h:aK)(a:az)(x y:Int):Prop where
 ex:∃u v,fC h a (.int x u) (.int y v)
 bx:Bt KB x
 bX:Bt KB y
theorem bN.keeps{h h':aK}{a:az}{x y:Int}(p:bN h a x y)(e:Ext h h'):bN h' a x y:=⟨let⟨b,v,q⟩:=p.ex;⟨b,v,q.keeps e⟩,p.bx,p.bX⟩
section
variable {k:Nat} {h:Heap} {env:Env} {e:Expr} {pos:Pos}
theorem iY{a:az}{x y:Int}(B:Bs h)(p:bN h a x y)(b:aO k h (aa e env) (.ref a))(hk:autoParam (8<=k) fW)(c:kB e "x" pos env:=by with_unfolding_all rfl):aX k h (aa (.Attribute e "x" pos) env) x:=by obtain⟨d,v,q⟩:=p.ex;exact aX.of (cG b (aO.le (alh B q rfl) hk) c)
theorem iZ{a:az}{x y:Int}(B:Bs h)(p:bN h a x y)(b:aO k h (aa e env) (.ref a))(hk:autoParam (8<=k) fW)(c:kB e "y" pos env:=by with_unfolding_all rfl):aX k h (aa (.Attribute e "y" pos) env) y:=by obtain⟨d,v,q⟩:=p.ex;exact aX.of (cG b (aO.le (alk B q rfl) hk) c)
theorem aby{c pv pa pb:az}{p s I J M N:Int}(B:Bs h)(D:bN h pv p s)(O:bN h pa I J)(P:bN h pb M N):
  gM 9 h (.call (.ref 251) ⟨[.ref c, .ref pv, .ref pa, .ref pb],[]⟩) (λv' y=>v'=mw (ju p s I J M N)):=by
 refine mR (k:=8) (fd:=ER) (body:=bodyOf ER) (binds:=[("self", .ref c),("vertex", .ref pv),("first", .ref pa),("second", .ref pb)]) B (tF _) rfl
  (λy y y y y y=>eR rfl) (by nofun) (by nofun) rfl rfl rfl ?_
 intro t w a5 i a j A g dr tk d Q C l;refine mS ?_ rfl;have R:=D.keeps (i.trans a.keep);refine yg a (gf (lX (gf (iY j (O.keeps (i.trans a.keep)) (ah a.ns)) (iY j R (ah a.ns))) (gf (iZ j (P.keeps (i.trans a.keep)) (ah a.ns)) (iZ j R (ah a.ns))) ((O.bx.sub D.bx).mX (P.bX.sub D.bX) (by decide)))
  (lX (gf (iZ j (O.keeps (i.trans a.keep)) (ah a.ns)) (iZ j R (ah a.ns))) (gf (iY j (P.keeps (i.trans a.keep)) (ah a.ns)) (iY j R (ah a.ns))) ((O.bX.sub D.bX).mX (P.bx.sub D.bx) (by decide)))) C ?_
 rintro f a6 a7 Z e2 ⟨u,rfl⟩ sb a0;have a8:=B.keeps (i.trans a0.keep);refine BV a0 (EK (aX.of (ah a0.ns)) (ct)) C λa9 b0 S e4=>?_;have a4:=B.keeps (i.trans S.keep);unfold mw ju at l;by_cases T:0<(I-p)*(N-s)-(J-s)*(M-p)
 .rw[if_pos T] at l;rw[if_pos (decide_eq_true T)];refine fL (h₀:=t) (L:=w) (m:=λy=>X) (cG (cB a4 (v:= .ref 182) (by nofun)) (iD a4 (v:= .ref 178) (by nofun) (by nofun) rfl)) C λf E Z G H=>?_;subst H;exact l _ E _ (λn d x=>G n d (S.keep n d x)) rfl _ rfl
 .rw[if_neg T] at l;rw[if_neg (λz=>T (of_decide_eq_true z))];refine cA (BV S (qk (aX.of (ah S.ns)) (ct)) C λb1 b2 a3 e5=>?_);have V:=B.keeps (i.trans a3.keep);by_cases Y:(I-p)*(N-s)-(J-s)*(M-p)<0
  .rw[if_pos Y] at l;rw[if_pos (decide_eq_true Y)];refine fL (h₀:=t) (L:=w) (m:=λy=>X) (cG (cB V (v:= .ref 182) (by nofun)) (iD V (v:= .ref 172) (by nofun) (by nofun) rfl)) C λf E Z G H=>?_;subst H;exact l _ E _ (λn d x=>G n d (a3.keep n d x)) rfl _ rfl
  .rw[if_neg Y] at l;rw[if_neg (λz=>Y (of_decide_eq_true z))];refine cA (fL (h₀:=t) (L:=w) (m:=λy=>X) (cG (cB V (v:= .ref 182) (by nofun)) (iD V (v:= .ref 175) (by nofun) (by nofun) rfl)) C λf E Z G H=>?_);subst H;exact l _ E _ (λn d x=>G n d (a3.keep n d x)) rfl _ rfl
end
theorem vC(x:dE a h h')(y:dE a h' e):dE a h e:=
 ⟨y.1.trans x.1,λc d=>(y.2 c d).trans (x.2 c d)⟩
def gT(k:Nat)(h:aK)(env:gL)(a:List Expr)(P:List aq->Prop):Prop:=∀b,Ev k h (yf (bG b (aH a env))) (λc d=>P c)
theorem lU:gT k h env [] (λvs=>vs=[]):=λf i j a g l b m n p c=>eQ (c [] a b Ext.rfl rfl)
theorem eM{P:aq->Prop}{R:List aq->Prop}(m:Ev k h (aa e env) (λv z=>P v))(Y:gT k h env a R)(n:autoParam (aH (e::a) env=(aw,aa e env)::aH a env) rf):
  gT k h env (e::a) (λvs=>∃v rest,vs=v::rest/\P v/\R rest):=by
 intro p b F s g c t f i j u;exact cF (m b _ s g c t f i j λv w x l y=>(Y p b _ w g c x f i (j.trans l) λvs B C D E=>u _ B C (l.trans D) ⟨v,vs,rfl,y,E⟩)) n
theorem gT.imp(a:gT k h env b P)(f:∀vs,P vs->R vs):gT k h env b R:=λc=>(a c).imp (bT _) λvs d d=>f vs
theorem qm(i:gT k h env j P)(hl:∀vs,P vs->vs.length<=fv):
  Ev k h (aa (.Tuple j z pos) env) (λv h'=>∃a vs,v= .ref a/\P vs/\cU h' a vs.toArray):=by
 intro l B m g n p c s t u;exact zW (i pos l _ m g n p c s t λvs C D w f=>yr (u _ _ _ (λy c x=>eP _ (w y c x)) ⟨_,vs,rfl,f,CW _ _⟩) (hl vs f))
theorem Ce(a:A.handled=X)(c:cU h t items)(e:n=items.size)
  (q:∀h',Ext h h'->Q items.toList ⟨h',g,d,tk,o⟩):aF (MM) A (unpackItems (.ref t) n X) Q aE ⟨h,g,d,tk,o⟩:=by
 subst e;exact unpackItems_tuple (s:=⟨h,g,d,tk,o⟩) a c λh' f=>q h' λi o x=>f i o (cJ (dA x)) x
theorem lJ(N:h.Ns env.locals m)(i:Ev k h (aa b env) P)(r:aU k A)
  (q:∀v h' a c,Ext h h'->P v h'->dE env.locals h' a->a.Ns env.locals (λy=>if y=x then W v else m y)->aF (MM) A (bg rest env) Q aE ⟨a,g,d,c,o⟩)
  (hs:autoParam (mB b (W (.Name x j)) pos.line env=bj aw) rf)(hl:autoParam (env.kindOf x=W .local) rf)
  (l:autoParam ((env.scope.kind== .class||(env.scope.kind== .module&&env.locals !=env.globals))=aw) rf):
  aF (MM) A (bg (.Assign [.Name x j] b pos::rest) env) Q aE ⟨h,g,d,tk,o⟩:=by
 exact de (oU (i A _ h g d tk o r Ext.rfl λv h' c f n=>(fw hl (N.keeps f) (λa p s=>q v h' a _ f n s p) l)) hs)
theorem LI{m:aA->Option aq}{Q:dM->aT->Prop}{P1 P2:aq->Prop}(N:h.Ns env.locals m)
  (w:Ev k h (aa b env) (λv h'=>∃a vs,v= .ref a/\(∃v1 c,vs=v1::c/\P1 v1/\∃v2 f,c=v2::f/\P2 v2/\f=[])/\cU h' a vs.toArray))(r:aU k A)
  (q:∀v1 v2 h' i j,Ext h h'->P1 v1->P2 v2->dE env.locals h' i->i.Ns env.locals (λz=>if z=x then W v1 else if z=y then W v2 else m z)->aF (MM) A (bg rest env) Q aE ⟨i,g,d,j,o⟩)
  (hs:autoParam (yj [.Tuple l n p] b pos.line env=bj aw) rf)
  (B:autoParam (yi [.Tuple l n p] b env=bj (W [x,y])) rf)(C:autoParam (env.kindOf x=W .local) rf)(D:autoParam (env.kindOf y=W .local) rf)
  (s:autoParam ((env.scope.kind== .class||(env.scope.kind== .module&&env.locals !=env.globals))=aw) rf):
  aF (MM) A (bg (.Assign [.Tuple l n p] b pos::rest) env) Q aE ⟨h,g,d,tk,o⟩:=by
 refine de (Jr (w A _ h g d tk o r Ext.rfl λv h' j t E=>?_) hs B);obtain⟨a,vs,rfl,⟨v1,c,rfl,p1,v2,f,rfl,p2,rfl⟩,F⟩:=E;refine Ce r.h F rfl λG u=>gP (mP (fw D (N.keeps (t.trans u)) (λO H I=>?_) s));exact gP (mP (fw C H (λJ L M=>(rN (q v1 v2 G J _ (t.trans u) p1 p2 (vC I M) L))) s))
set_option tactic.hygienic true in
theorem oe(m:Ev k h (isTrue t env (aa t env)) (λb y=>b=c))(r:aU k A)
  (q:∀h' j,Ext h h'->aF (MM) A (bg (if c=af then n else s) env) (λf i=>match f with| .next=>aF (MM) A (bg rest env) Q aE i|_=>Q f i) aE ⟨h',g,d,j,o⟩):
  aF (MM) A (bg (.If t n s p::rest) env) Q aE ⟨h,g,d,tk,o⟩:=by
 refine de (Ci (Ev.at m r Ext.rfl λh' j u=>?_));have a:=q h' j u;split
 .rename_i l;rw[if_pos l] at a;refine bJ a (λf i a=>?_) λy y a=>a;cases f<;>exact a
 .rename_i l;rw[if_neg l] at a;refine bJ a (λf i a=>?_) λy y a=>a;cases f<;>exact a
theorem Fj{m:aA->Option aq}{Q:dM->aT->Prop}{P1 P2:aq->Prop}
  (f:Fr h₀ L h m)(s:Ev k h (aa c (aY fd L a)) (λv w=>P1 v))(Y:Ev k h (aa b (aY fd L a)) (λv w=>P2 v))(r:aU k A)
  (q:∀v1 v2 h' e,P1 v1->P2 v2->Fr h₀ L h' (λz=>if z=x then W v1 else if z=y then W v2 else m z)->aF (MM) A (bg rest (aY fd L a)) Q aE ⟨h',g,d,e,o⟩)
  (t:autoParam (aH [c,b] (aY fd L a)=(aw,aa c (aY fd L a))::aH [b] (aY fd L a)) rf)(u:autoParam (aH [b] (aY fd L a)=(aw,aa b (aY fd L a))::aH [] (aY fd L a)) rf)
  (hs:autoParam (yj [.Tuple i j l] (.Tuple [c,b] n p2) pos.line (aY fd L a)=bj aw) rf)
  (B:autoParam (yi [.Tuple i j l] (.Tuple [c,b] n p2) (aY fd L a)=bj (W [x,y])) rf)(C:autoParam ((aY fd L a).kindOf x=W .local) rf)(D:autoParam ((aY fd L a).kindOf y=W .local) rf)
  (E:autoParam (((aY fd L a).scope.kind== .class||((aY fd L a).scope.kind== .module&&(aY fd L a).locals !=(aY fd L a).globals))=aw) rf):
  aF (MM) A (bg (.Assign [.Tuple i j l] (.Tuple [c,b] n p2) pos::rest) (aY fd L a)) Q aE ⟨h,g,d,tk,o⟩:=by
 refine LI (P1:=P1) (P2:=P2) (x:=x) (y:=y) f.ns (qm (eM s (eM Y lU u) t) ?_) r (λv1 v2 h' G e H p p2 I J=>q v1 v2 G e p p2 ((eZ f H).set J I)) hs B C D E;rintro M ⟨v1,N,rfl,p,v2,O,rfl,p2,rfl⟩;show 2<=fv;decide
theorem Ef(K:Nat)(e:Bt K a)(f:Bt K b)(g:Bt K c)(bd:Bt K i)(j:Bt K x)(l:Bt K y)(d:6*K<=100000000)
  (m:aX k h (aa n env) a)(o:aX k h (aa p env) a)(q:aX k h (aa r env) b)(s:aX k h (aa t env) b)(u:aX k h (aa v env) c)(w:aX k h (aa z env) i)(A:aX k h (aa B env) x)(C:aX k h (aa D env) y):
  aX k h (aa (.BinOp (.BinOp (.BinOp n .Mult p p1) .Add (.BinOp r .Mult t p2) p3) .Mult (.BinOp (.BinOp v .Mult z E) .Sub (.BinOp B .Mult D F) G) H) env) ((a*a+b*b)*(c*i-x*y)):=by
 exact lX (rU (lX m o (e.mX e (Bv d))) (lX q s (f.mX f (Bv d)))) (gf (lX u w (g.mX bd (Bv d))) (lX A C (j.mX l (Bv d)))) (((e.mul e).add (f.mul f)).mX ((g.mul bd).sub (j.mul l)) ((kl 0x40000001be10850810821420421005f5e10037c2831008 0x10461).2 d))
theorem locate(B:Bs h)(d:bN h pp j l)(G:bN h pa S T)(H:bN h pb V Y)(I:bN h pc Z cy):
  gM 9 h (.call (.ref 258) ⟨[.ref c, .ref pp, .ref pa, .ref pb, .ref pc],[]⟩) (λv' w=>v'=uS (FG j l S T V Y Z cy)):=by
 refine mR (k:=8) (fd:=ES) (body:=bodyOf ES) (binds:=[("self", .ref c),("point", .ref pp),("first", .ref pa),("second", .ref pb),("third", .ref pc)]) B (tF _) rfl
  (λw w w w w w=>eR rfl) (by nofun) (by nofun) rfl rfl rfl ?_
 intro M R b3 e C a3 A g dr tk n Q E p;refine mS (Fj (x:="a_x") (y:="a_y") C (gf (iY a3 (G.keeps (e.trans C.keep)) (ah C.ns)) (iY a3 (d.keeps (e.trans C.keep)) (ah C.ns))) (gf (iZ a3 (G.keeps (e.trans C.keep)) (ah C.ns)) (iZ a3 (d.keeps (e.trans C.keep)) (ah C.ns))) E ?_) rfl;rintro _ _ a8 b4 ⟨u1,rfl⟩ ⟨u2,rfl⟩ s;have a4:=B.keeps (e.trans s.keep);refine Fj (x:="b_x") (y:="b_y") s (gf (iY a4 (H.keeps (e.trans s.keep)) (ah s.ns)) (iY a4 (d.keeps (e.trans s.keep)) (ah s.ns))) (gf (iZ a4 (H.keeps (e.trans s.keep)) (ah s.ns)) (iZ a4 (d.keeps (e.trans s.keep)) (ah s.ns))) E ?_;rintro _ _ b5 b6 ⟨u3,rfl⟩ ⟨u4,rfl⟩ t;have a5:=B.keeps (e.trans t.keep);refine Fj (x:="c_x") (y:="c_y") t (gf (iY a5 (I.keeps (e.trans t.keep)) (ah t.ns)) (iY a5 (d.keeps (e.trans t.keep)) (ah t.ns))) (gf (iZ a5 (I.keeps (e.trans t.keep)) (ah t.ns)) (iZ a5 (d.keeps (e.trans t.keep)) (ah t.ns))) E ?_;rintro _ _ b7 b8 ⟨u5,rfl⟩ ⟨u6,rfl⟩ a;refine yg a (rU (rU (Ef _ (G.bx.sub d.bx) (G.bX.sub d.bX) (H.bx.sub d.bx) (I.bX.sub d.bX) (H.bX.sub d.bX) (I.bx.sub d.bx) (by decide) (aX.of (ah a.ns)) (aX.of (ah a.ns)) (aX.of (ah a.ns)) (aX.of (ah a.ns)) (aX.of (ah a.ns)) (aX.of (ah a.ns)) (aX.of (ah a.ns)) (aX.of (ah a.ns)))
  (Ef _ (H.bx.sub d.bx) (H.bX.sub d.bX) (I.bx.sub d.bx) (G.bX.sub d.bX) (I.bX.sub d.bX) (G.bx.sub d.bx) (by decide) (aX.of (ah a.ns)) (aX.of (ah a.ns)) (aX.of (ah a.ns)) (aX.of (ah a.ns)) (aX.of (ah a.ns)) (aX.of (ah a.ns)) (aX.of (ah a.ns)) (aX.of (ah a.ns))))
  (Ef _ (I.bx.sub d.bx) (I.bX.sub d.bX) (G.bx.sub d.bx) (H.bX.sub d.bX) (G.bX.sub d.bX) (H.bx.sub d.bx) (by decide) (aX.of (ah a.ns)) (aX.of (ah a.ns)) (aX.of (ah a.ns)) (aX.of (ah a.ns)) (aX.of (ah a.ns)) (aX.of (ah a.ns)) (aX.of (ah a.ns)) (aX.of (ah a.ns)))) E ?_
 rintro i b2 b9 N e2 ⟨u,rfl⟩ sb a9;generalize hD:((S-j)*(S-j)+(T-l)*(T-l))*((V-j)*(cy-l)-(Y-l)*(Z-j))+((V-j)*(V-j)+(Y-l)*(Y-l))*((Z-j)*(T-l)-(cy-l)*(S-j))+((Z-j)*(Z-j)+(cy-l)*(cy-l))*((S-j)*(Y-l)-(T-l)*(V-j))=D at a9;have p:∀(i:aq) (a8:aK) (N:Nat),Ext M a8->i=uS D->∀(f:dM),(match f with|lA i=>i|_=>pW)=i->Q f ⟨a8,g,dr,N,n⟩:=by intro i O N P hv;exact p i O N P (by simp only[hv,<-hD];rfl)
 refine BV a9 (EK (aX.of (ah a9.ns)) (ct)) E λc0 c3 a6 e7=>?_;have b1:=B.keeps (e.trans a6.keep);unfold uS at p;by_cases c1:0<D
 .rw[if_pos c1] at p;rw[if_pos (decide_eq_true c1)];refine fL (h₀:=M) (L:=R) (m:=λw=>X) (cG (cB b1 (v:= .ref 205) (by nofun)) (iD b1 (v:= .ref 201) (by nofun) (by nofun) rfl)) E λi O N P a0=>?_;subst a0;exact p _ O _ (λJ n x=>P J n (a6.keep J n x)) rfl (.ret _) rfl
 .rw[if_neg c1] at p;rw[if_neg (λz=>c1 (of_decide_eq_true z))];refine cA (BV a6 (qk (aX.of (ah a6.ns)) (ct)) E λb2 c4 b0 e5=>?_);have a7:=B.keeps (e.trans b0.keep);by_cases c2:D<0
  .rw[if_pos c2] at p;rw[if_pos (decide_eq_true c2)];refine fL (h₀:=M) (L:=R) (m:=λw=>X) (cG (cB a7 (v:= .ref 205) (by nofun)) (iD a7 (v:= .ref 195) (by nofun) (by nofun) rfl)) E λi O N P a0=>?_;subst a0;exact p _ O _ (λJ n x=>P J n (b0.keep J n x)) rfl (.ret _) rfl
  .rw[if_neg c2] at p;rw[if_neg (by simpa using c2)];refine cA (fL (h₀:=M) (L:=R) (m:=λw=>X) (cG (cB a7 (v:= .ref 205) (by nofun)) (iD a7 (v:= .ref 198) (by nofun) (by nofun) rfl)) E λi O N P a0=>?_);subst a0;exact p _ O _ (λJ n x=>P J n (b0.keep J n x)) rfl (.ret _) rfl
theorem Ng(B:Bs h)(F:aO k h (aa c env) (.ref x))
  (G:h.get? x=W (dy C H))(I:h.get? H=W (gQ t n))(hl:uK name t=W X)(Y:gT k h env (e::rest) P)(J:∀vs,P vs->gM k h (.call (.ref f) ⟨.ref x::vs,[]⟩) R)
  (u:xY (kf pS) C name=af)(hf:jK (kf pS) (.ref C) name=W (W (.ref f)))(L:isFn (kf pS) (.ref f)=af)(hk:xy (kf pS) (.ref f)=af)
  (pl:dG Bool)(M:aa (.Call (.Attribute c name w) (e::rest) [] pos) env=(do
   let y<-aa c env
   fB w.atName
   let(f,first)<-fI [y] (ie y name pl)
   dH pos f first (bG pos (aH (e::rest) env)) (bZ pos (cf [] env))))
  (N:aH (e::rest) env=(aw,aa e env)::aH rest env)(O:(bG pos (aH rest env)).any (·.1)=aw):
  Ev k h (aa (.Call (.Attribute c name w) (e::rest) [] pos) env) R:=by
 intro z Q a5 g i tk j l a S;refine kT (Ev.at F l a λD E b=>?_) M;have m:=B.keeps (a.trans b);refine OX (s:=⟨D,g,i,E,j⟩) m.k (qv (a.trans b) G I) (qM u).1 (qM u).2 hf (beq_iff_eq.mp L) (by show(FZ name (gQ t n)).map _=_;simp only[OK,hl];rfl) ?_;refine mQ m.k hk (Y pos z _ D g i E j l (a.trans b) λvs T V p a0=>⟨(m.keeps p).k,dq ?_⟩) N O;exact J vs a0 z _ T g i V j l ((a.trans b).trans p) λv a3 a4 e5 hr=>S v a3 a4 ((b.trans p).trans e5) hr
structure Ctx(h:aK)(c:az):Prop where
 ex:∃d n,h.get? c=W (dy 261 d)/\h.get? d=W (gQ [] n)
theorem Ctx.keeps(x:Ctx h c)(e:Ext h h'):Ctx h' c:=let⟨f,n,a,b⟩:=x.ex;⟨f,n,e _ _ a,e _ _ b⟩
theorem Mu(B:Bs h)(R:Rep h Y n on)(a:i<n)(x:aO k h (aa e env) (.ref (Y.ad i)))(hk:autoParam (3<=k) fW)(b:kB e "context" pos env:=by with_unfolding_all rfl):aO k h (aa (.Attribute e "context" pos) env) (.ref Y.ctx):=
 cG x (aO.le (acu B (R.node a)) hk) b
theorem Ap(g:aO k h (aa f env) v1)(Y:aO k h (aa e env) v2)(i:aO k h (aa d env) v3)
  (j:autoParam (aH [f,e,d] env=(aw,aa f env)::aH [e,d] env) rf)(l:autoParam (aH [e,d] env=(aw,aa e env)::aH [d] env) rf)(m:autoParam (aH [d] env=(aw,aa d env)::aH [] env) rf):
  gT k h env [f,e,d] (λvs=>vs=[v1,v2,v3]):=
 (eM g (eM Y (eM i lU m) l) j).imp λvs=>by rintro⟨n,o,rfl,rfl,b,p,rfl,rfl,c,q,rfl,rfl,rfl⟩;rfl
theorem kb(c:aO k h (aa b env) v1)(d:autoParam (aH [b] env=(aw,aa b env)::aH [] env) rf):
  gT k h env [b] (λvs=>vs=[v1]):=
 (eM c lU d).imp λvs=>by rintro⟨e,f,rfl,rfl,rfl⟩;rfl
theorem Aq(j:aO k h (aa i env) v1)(Y:aO k h (aa g env) v2)(l:aO k h (aa f env) v3)(V:aO k h (aa e env) m)
  (n:autoParam (aH [i,g,f,e] env=(aw,aa i env)::aH [g,f,e] env) rf)(o:autoParam (aH [g,f,e] env=(aw,aa g env)::aH [f,e] env) rf)(p:autoParam (aH [f,e] env=(aw,aa f env)::aH [e] env) rf)(q:autoParam (aH [e] env=(aw,aa e env)::aH [] env) rf):
  gT k h env [i,g,f,e] (λvs=>vs=[v1,v2,v3,m]):=
 (eM j (eM Y (eM l (eM V lU q) p) o) n).imp λvs=>by rintro⟨r,s,rfl,rfl,b,t,rfl,rfl,c,u,rfl,rfl,d,v,rfl,rfl,rfl⟩;rfl
theorem aiU(B:Bs h)(R:Rep h Y n on)(C:Ctx h Y.ctx)(g:i<n)(j:Y.st i= .ref pv)(l:Y.st (U i)= .ref pa)(m:bN h pv o p)(q:bN h pa r s)(t:bN h pb u v):
  gM 10 h (.call (.ref 397) ⟨[.ref (Y.ad i), .ref pb],[]⟩) (λw z=>w=mw (ju o p r s u v)):=by
 refine mR (k:=9) (fd:=EY) (body:=bodyOf EY) (binds:=[("self", .ref (Y.ad i)),("point", .ref pb)]) B (tF _) rfl
  (λz z z z z z=>eR rfl) (by nofun) (by nofun) rfl rfl rfl ?_
 refine oS (λz=>rfl) (ni λy A a c b=>?_);obtain⟨D,nn,c1,c2⟩:=(C.keeps a).ex;refine Ng (f:=251) b (Mu b (R.keeps a) g (ah c)) c1 c2 rfl (Ap (v1:= .ref pv) (v2:= .ref pa) (v3:= .ref pb) (j▸hQ b (R.keeps a) g (ah c)) (l▸gc b (R.keeps a) g (ah c)) (ah c)) (λF x=>?_) (by nofun) (by nofun) (by nofun) (by nofun) _ rfl rfl rfl;subst x;exact aby b (m.keeps a) (q.keeps a) (t.keeps a)
noncomputable def others(h:aK)(p:az->Bool):List (az×aI):=(fD h.objs.size).filterMap λa=>if p a then X else(h.get? a).map λc=>(a,c)
set_option tactic.hygienic true in
theorem Gh:(b,o)∈others h p↔p b=aw/\h.get? b=W o:=by
 unfold others;rw[Df];constructor
 .rintro⟨d,f,e⟩;split at e
  .cases e
  .rename_i a;obtain⟨g,ho,e⟩:=kK.mp e;cases e;exact⟨by simpa using a,ho⟩
 .rintro⟨a,ho⟩;refine⟨b,jV.mpr (dA ho),?_⟩;rw[a,ho];rfl
noncomputable def Fu:aK:={objs:=#[]}
theorem Gi(b:az):Fu.get? b=X:=jq (dN _)
structure Upd(L:az)(m:aA->Option aq)(dx:az)(od':aI)(h h':aK):Prop where
 at_:h'.get? dx=W od'
 ns:h'.Ns L m
 keep:∀b o,b≠dx->b≠L->h.get? b=W o->h'.get? b=W o
theorem kz{m:aA->Option aq}{od':Nat->aI}{r:Nat->List CL}{Q:Unit->aT->Prop}(B:Bs h)(N:h.Ns L m)(E:h.get? x=W (dy C dx))(u:h.get? dx=W l)(G:dx≠L)
  (hs:jK (kf pS) (.ref C) "__setattr__"=W (W (.builtin "object.__setattr__")))(c:plainOver (kf pS) C=af)(H:takerIn (kf pS) C name=W X)(J:(clsIn (kf pS) C).any (·.hasDict)=af)
  (hl:(FZ name l).isSome=af)(e:∀t,Obj.putName name (dX pS name) (.str name t) v l=od' t)(e':∀t,(od' t).data= .dict (r t).toArray n)(M:∀t,(r t).length<=1000)
  (q:∀h' O t,Upd L m dx (od' t) h h'->Q () ⟨h',g,d,O,o⟩):aF (MM) A (vD (.ref x) name v) Q aE ⟨h,g,d,tk,o⟩:=by
 have w:=qv Ext.rfl E u;refine set_plain (s:=⟨h,g,d,tk,o⟩) B.k w hs ?_;have P:Fr Fu L h m:=⟨N,λf o e=>absurd e (by rw[Gi];exactλi=>nomatch i),dN _⟩;have R:News Fu L h ([]++(dx,l)::others h (λf=>f==dx||f==L)):=by
  intro y c;rcases cP.mp c with rfl|c
  .exact⟨u,G,Gi _⟩
  .obtain⟨j,f⟩:=Gh.mp (c);exact⟨f,by intro i;rw[i] at j;simp at j,Gi _⟩
 refine osa_dict (s:=⟨h,g,d,tk+1,o⟩) P R B.k w rfl c H J hl (λy c=>by cases c) (λy c=>?_) (e _) (e' _) (M _) λh' S D=>?_
 .obtain⟨j,f⟩:=Gh.mp (c);intro i;rw[i] at j;simp at j
 .exact q h' _ (tk+1) ⟨(D (dx,od' (tk+1)) (by simp)).1,S.ns,λf o T V Y=>(D (f,o) (fZ _ (Gh.mpr ⟨by simp[T,V],Y⟩))).1⟩
noncomputable def oE(P:bF)(t:Nat×Nat×Nat×Nat)(c l r s:aq):aI:=
 gQ [⟨dX P "_context", .str "_context" t.1,c⟩,⟨dX P "_left_from_start", .str "_left_from_start" t.2.1,l⟩,
  ⟨dX P "_rotated", .str "_rotated" t.2.2.1,r⟩,⟨dX P "_start", .str "_start" t.2.2.2,s⟩] 4
def gz(o:aI):Prop:=∃a b d e f,o=oE pS a b d e f
theorem xK{t:Nat×Nat×Nat×Nat}{a lf b:az}{st:aq}:gz (uX pS t a lf b st):=⟨t,_,_,_,_,rfl⟩
theorem jg{h:aK}{L:az}{m:aA->Option aq}{o:aI}(N:h.Ns L m)(e:m "_context"=X)(d:h.get? L=W o):¬gz o:=by
 rintro⟨a,c,l,r,s,rfl⟩;obtain⟨i,j,k,h1,h2,n,f⟩:=N;replace h1:=(d)▸h1;cases h1;have b:=f "_context";simp only[e] at b;cases h2;have:nsFind (#[⟨dX pS "_context", .str "_context" a.1,c⟩,⟨dX pS "_left_from_start", .str "_left_from_start" a.2.1,l⟩,
  ⟨dX pS "_rotated", .str "_rotated" a.2.2.1,r⟩,⟨dX pS "_start", .str "_start" a.2.2.2,s⟩]:Array CL) "_context"=W c:=by rfl
 have g:=this.symm.trans b;cases g
theorem BF:¬gz (dy C d):=by rintro⟨a,c,l,r,s,e⟩;cases e
def Mx(z:aK)(h h':aK):Prop:=∀c a,(z.get? c=W a\/¬gz a)->h.get? c=W a->h'.get? c=W a
theorem Ext.mx(e:Ext h h'):Mx z h h':=λa c d x=>e a c x
theorem Mx.trans(x:Mx z a b)(y:Mx z b c):Mx z a c:=λe f g h=>y e f g (x e f g h)
structure Bz(z:aK)(h:aK):Prop where
 b:Bs z
 e:Ext z h
theorem Bz.bs(B:Bz z h):Bs h:=B.b.keeps B.e
theorem Bz.keeps(B:Bz z h)(e:Ext h h'):Bz z h':=⟨B.b,B.e.trans e⟩
theorem Bz.mx(B:Bz z h)(e:Mx z h h'):Bz z h':=
 ⟨B.b,λx a c=>e x a (.inl c) (B.e x a c)⟩
structure Im(z:aK)(h₀:aK)(L:az)(m:aA->Option aq)(h:aK):Prop where
 ns:h.Ns L m
 keep:Mx z h₀ h
 above:h₀.objs.size<=L
 b0:Bz z h₀
theorem Im.bs(a:Im z h₀ L m h):Bs h:=(a.b0.mx a.keep).bs
theorem Im.ext(a:Im z h₀ L m h)(e:Ext h h'):Im z h₀ L m h':=⟨a.ns.keeps e,a.keep.trans e.mx,a.above,a.b0⟩
theorem Im.set(a:Im z h₀ L m h)(d:dE L h h')(e:h'.Ns L f):Im z h₀ L f h':=
 ⟨e,λc g i x=>(d.2 c (cJ (fj (dA x) a.above))).trans (a.keep c g i x),a.above,a.b0⟩
theorem Im.upd(c:Im z h₀ L m h)(e:Upd L m dx od' h h')(i:z.get? dx=X)(j:h.get? dx=W k)(l:gz k):Im z h₀ L m h':=by
 refine⟨e.ns,λf g a x=>?_,c.above,c.b0⟩;have d:=c.keep f g a x;refine e.keep f g ?_ (cJ (fj (dA x) c.above)) d;rintro rfl;replace d:=(j)▸d;cases d;rcases a with a|a
 .replace a:=(i)▸a;cases a
 .exact a l
theorem Im.mx{m:aA->Option aq}(a:Im z h₀ L m h)(e:Mx z h h')(i:m "_context"=X):Im z h₀ L m h':=by refine⟨?_,a.keep.trans e,a.above,a.b0⟩;obtain⟨b,c,d,h1,h2,f,g⟩:=a.ns;exact⟨b,c,d,e _ _ (.inr (jg ⟨b,c,d,h1,h2,f,g⟩ i h1)) h1,h2,f,g⟩
theorem fC.mx(p:fC h a x y)(e:Mx z h h'):fC h' a x y:=by obtain⟨b,q⟩:=p.ex;exact⟨b,e _ _ (.inr (by rintro⟨d,c,l,r,s,e⟩;cases e)) q⟩
theorem bN.mx(p:bN h a x y)(e:Mx z h h'):bN h' a x y:=by obtain⟨b,v,q⟩:=p.ex;exact⟨⟨b,v,q.mx e⟩,p.bx,p.bX⟩
theorem Ctx.mx(x:Ctx h c)(e:Mx z h h'):Ctx h' c:=by obtain⟨f,n,a,b⟩:=x.ex;exact⟨f,n,e _ _ (.inr BF) a,e _ _ (.inr (by rintro⟨g,c,l,r,s,e⟩;cases e)) b⟩
structure Rz(z:aK)(h:aK)(Y:Lay)(n:Nat)(on:Nat->Nat):Prop extends Rep h Y n on where
 fl:∀i<n,z.get? (Y.dd i)=X
theorem Rz.keeps(R:Rz z h Y n on)(e:Ext h h'):Rz z h' Y n on:=⟨R.toRep.keeps e,R.fl⟩
theorem Rz.mh{z h:aK}{L:az}{m:aA->Option aq}{Y:Lay}{n:Nat}{on:Nat->Nat}{i:Nat}(R:Rz z h Y n on)(N:h.Ns L m)(e:m "_context"=X)(b:i<n):Y.dd i≠L:=by intro c;have a:=R.di i b;rw[c] at a;exact jg N e a xK
theorem Rz.sH(R:Rz z h Y n on)(N:h.Ns L m)(b:i<n):Y.ad i≠L:=by intro c;have a:=R.ob i b;obtain⟨f,g,j,d,e,_⟩:=N;replace a:=(d)▸(c)▸a;cases a;cases e
theorem Rz.set(R:Rz z h Y n on)(N:h.Ns L m)(e:m "_context"=X)(c:dE L h h'):Rz z h' Y n on:=
 ⟨{R.toRep with ob:=λb a=>(c.2 _ (R.sH N a)).trans (R.ob b a),di:=λb a=>(c.2 _ (R.mh N e a)).trans (R.di b a)},R.fl⟩
theorem Rz.upd(R:Rz z h Y n on)(N:h.Ns L m)(e:m "_context"=X)(k:i<n)(l:j<n)
  (b:Upd L m (Y.dd i) (uX pS (Y.tq i) Y.ctx (Y.ad j) (Y.ad (bp i)) (Y.st i)) h h'):Rz z h' Y n (upd on i j):=by
 refine⟨{R.toRep with ob:=λx a=>?_,di:=λx a=>?_,on:=λx a=>?_},R.fl⟩
 .refine b.keep _ _ ?_ (R.sH N a) (R.ob x a);intro d;have f:=R.ob x a;replace f:=(R.di i k)▸(d)▸f;cases f
 .by_cases g:x=i
  .subst g;simp only[b.at_];unfold bY.upd;rw[if_pos rfl]
  .refine(b.keep _ _ (λd=>g (R.id _ _ a k d)) (R.mh N e a) (R.di x a)).trans ?_;unfold bY.upd;rw[if_neg g]
 .unfold bY.upd;split
  .exact l
  .exact R.on x a
theorem Wo(b:Im z h₀ L m h)(R:Rz z h Y n on)(f:m "_context"=X)(a:i<n)(l:j<n)
  (q:∀h' c,Im z h₀ L m h'->Rz z h' Y n (upd on i j)->Q () ⟨h',g,d,c,o⟩):aF (MM) A (vD (.ref (Y.ad i)) "_left_from_start" (.ref (Y.ad j))) Q aE ⟨h,g,d,tk,o⟩:=by
 exact kz (od':=λe=>uX pS (Y.tq i) Y.ctx (Y.ad j) (Y.ad (bp i)) (Y.st i)) b.bs b.ns (R.ob i a) (R.di i a) (R.mh b.ns f a) (by nofun) (by nofun) (by nofun) (by nofun) rfl (λe=>rfl) (λe=>rfl) (λe=>show 4<=1000 by decide) λh' c r k=>q h' c (b.upd k (R.fl i a) (R.di i a) xK) (R.upd b.ns f a l k)
def eJ(k:Nat)(h:aK)(c:vW)(P:aq->aK->Prop):Prop:=
 ∀(a:cT) (b:zR->aT->Prop) (g:Array dQ) (e:dT) (l:Nat) (f:df),aU k a->
  (∀i j m,P i j->b (.ok (.ret i)) ⟨j,g,e,m,f⟩)->lT (MM) a c b ⟨h,g,e,l,f⟩
theorem jj
  (B:Bs h)(i:Fn (kf pS) j fd)(u:fd.body= .stmts body)(w:∀h' g d t o,(kf pS).In h'->vU ⟨h',g,d,t,o⟩ fd y binds)
  (C:(fd.scope.names.all λx=>x.2 != .cell)=af)(D:(binds.all λx=>decide (fd.scope.names.lookup x.1=W .local))=af)
  (E:fd.scope.isCoroutine=aw)(G:fd.scope.isGenerator=aw)(hk:fd.scope.kind= .function)
  (H:∀m,Fr h h.objs.size m (λx=>binds.reverse.lookup x)->∀A g d tk o (Q:dM->aT->Prop),aU k A->
   (∀v n a,P v n->∀f,(match f with|lA v=>v|_=> .none)=v->Q f ⟨n,g,d,a,o⟩)->
   aF (MM) A (bg body (aY fd h.objs.size j)) Q aE ⟨m,g,d,tk,o⟩):eJ (k+1) h (.call (.ref j) y) P:=by
 intro A I g d tk o s J;obtain⟨V,dd,sl,lk⟩:=i.obj;refine MC (fd:=fd) (body:=body) (binds:=binds) (by have:=s.d;show A.depth<1000;exact Bj this) (B.k _ _ lk) rfl B.l (Ak B.k i.code) u
  (w _ _ _ _ _ B.k) (λx b=>by have:=nP.mp C x b;simpa using this) (λx b=>of_decide_eq_true (nP.mp D x b)) (λL M N=>?_) E G hk
 refine bJ (H L ⟨M,N,bT _⟩ (A.deeper _) g d _ o
  (λf O=>I (.ok (.ret (match f with|lA v=>v|_=> .none))) O) s.deep (λv S a T f hf=>?_)) (λe e x=>x) (λe e x=>x.elim)
 subst hf;exact J _ S a T
theorem Im.start(B:Bz z h)(a:Fr h L b m):Im z h L m b:=⟨a.ns,(show Ext h b from a.keep).mx,a.above,B⟩
theorem nZ
  (h:aF M A (aa e env) (λc f=>aF M A (vD c nm v) Q E f) E s):aF M A (jH (.Attribute e nm p) env v) Q E s:=λa g d=>by
 simp only[assign_Attribute,Sem.wp_bind',Sem.wp_holding,Sem.wp_release];exact Sem.wp_mono M a _ (λc b k i=>i a _ d) (λb b b j=>j) _ _ (h a g d)
theorem LM
  (u:Im z h₀ L m h)(R:Rz z h Y n on)(w:m "_context"=X)(G:i1<n)(H:i2<n)(J:j1<n)(M:j2<n)(N:m f=W (.ref (Y.ad i1)))(O:m x2=W (.ref (Y.ad i2)))
  (P:aO k h (aa l (aY fd L c)) (.ref (Y.ad j1)))(S:aO k h (aa i (aY fd L c)) (.ref (Y.ad j2)))(r:aU k A)
  (q:∀h' T,Im z h₀ L m h'->Rz z h' Y n (upd (upd on i1 j1) i2 j2)->aF (MM) A (bg rest (aY fd L c)) Q aE ⟨h',g,d,T,o⟩)
  (V:autoParam (aH [l,i] (aY fd L c)=(aw,aa l (aY fd L c))::aH [i] (aY fd L c)) rf)(Z:autoParam (aH [i] (aY fd L c)=(aw,aa i (aY fd L c))::aH [] (aY fd L c)) rf)
  (hs:autoParam (yj [.Tuple [.Attribute (.Name f p1) "_left_from_start" p2, .Attribute (.Name x2 p3) "_left_from_start" j] y B] (.Tuple [l,i] C D) pos.line (aY fd L c)=bj aw) rf)
  (hw:autoParam (yi [.Tuple [.Attribute (.Name f p1) "_left_from_start" p2, .Attribute (.Name x2 p3) "_left_from_start" j] y B] (.Tuple [l,i] C D) (aY fd L c)=bj X) rf)
  (hk:autoParam ((aY fd L c).scope.kind= .function) rf)(a0:autoParam ((aY fd L c).kindOf f=W .local) rf)(a3:autoParam ((aY fd L c).kindOf x2=W .local) rf)
  (a4:autoParam ((f==("__debug__":aA))=aw) rf)(a5:autoParam ((x2==("__debug__":aA))=aw) rf)
  (ha:autoParam ((pX [.Attribute (.Name f p1) "_left_from_start" p2, .Attribute (.Name x2 p3) "_left_from_start" j] (aY fd L c)).map (·.2)=[jH (.Attribute (.Name f p1) "_left_from_start" p2) (aY fd L c),jH (.Attribute (.Name x2 p3) "_left_from_start" j) (aY fd L c)]) rf)
  (hb:autoParam ((pX [.Attribute (.Name f p1) "_left_from_start" p2, .Attribute (.Name x2 p3) "_left_from_start" j] (aY fd L c)).findIdx? (·.1)=X) rf)(hc:autoParam ((pX [.Attribute (.Name f p1) "_left_from_start" p2, .Attribute (.Name x2 p3) "_left_from_start" j] (aY fd L c)).length=2) rf):
  aF (MM) A (bg (.Assign [.Tuple [.Attribute (.Name f p1) "_left_from_start" p2, .Attribute (.Name x2 p3) "_left_from_start" j] y B] (.Tuple [l,i] C D) pos::rest) (aY fd L c)) Q aE ⟨h,g,d,tk,o⟩:=by
 refine de (CE (qm (eM P (eM S lU Z) V) ?_ A _ h g d tk o r Ext.rfl λv E a6 p hv=>?_) hs hw)
 .rintro vs ⟨v1,r1,rfl,p1,v2,r2,rfl,p2,rfl⟩;show 2<=fv;decide
 obtain⟨a,vs,rfl,⟨v1,r1,rfl,rfl,v2,r2,rfl,rfl,rfl⟩,ht⟩:=hv;refine LH (s:=⟨E,g,d,a6,o⟩) r.h ht hc hb λa7 i=>?_;simp only[ha];have t:Ext E a7:=λb o x=>i b o (cJ (dA x)) x;refine gP (nZ (gR (iK hk a0 (u.ext (p.trans t)).ns N (Wo (u.ext (p.trans t)) (R.keeps (p.trans t)) w G J λb3 b4 F a8=>?_)) a4));refine gP (nZ (gR (iK hk a3 F.ns O (Wo F a8 w H M λa9 b0 b1 b2=>?_)) a5));exact rN (q a9 b0 b1 b2)
theorem qt
 (b:Im z h₀ L m h)(R:Rz z h Y n on)(l:m "_context"=X)(p:aO k h (aa i (aY fd L a)) v)(r:aU k A)
   (q:∀h' c,Im z h₀ L (λy=>if y=x then W v else m y) h'->Rz z h' Y n on->aF (MM) A (bg rest (aY fd L a)) Q aE ⟨h',g,d,c,o⟩)
   (hs:autoParam (mB i (W (.Name x s)) pos.line (aY fd L a)=bj aw) rf)(hl:autoParam ((aY fd L a).kindOf x=W .local) rf)
   (t:autoParam (((aY fd L a).scope.kind== .class||((aY fd L a).scope.kind== .module&&(aY fd L a).locals !=(aY fd L a).globals))=aw) rf):
   aF (MM) A (bg (.Assign [.Name x s] i pos::rest) (aY fd L a)) Q aE ⟨h,g,d,tk,o⟩:=by
  refine lJ b.ns p r (λC h' u c f w j B=>?_) hs hl t;subst w;exact q u c ((b.ext f).set j B) ((R.keeps f).set (b.ns.keeps f) l j)
theorem akg(B:Bz z h)(R:Rz z h Y n on)(m:i<n)(p:j<n):
  eJ 6 h (.call (.ref 404) ⟨[.ref (Y.ad i), .ref (Y.ad j)],[]⟩) (λv h'=>v= .none/\Mx z h h'/\Rz z h' Y n (dU on i j)):=by
 refine jj (k:=5) (fd:=EZ) (body:=bodyOf EZ) (binds:=[("self", .ref (Y.ad i)),("other", .ref (Y.ad j))]) B.bs (tF _) rfl
  (λb b b b b b=>eR rfl) (by nofun) (by nofun) rfl rfl rfl ?_
 intro M a N g dr O P S s x;refine mS ?_ rfl;have c:=R.on i m;have d:=R.on j p;refine qt (Im.start B a) (R.keeps a.keep) rfl (qg (Im.start B a).bs (R.keeps a.keep).toRep c (iX (Im.start B a).bs (R.keeps a.keep).toRep m (ah (Im.start B a).ns))) s λT V t u=>qt t u rfl (qg t.bs u.toRep d (iX t.bs u.toRep p (ah t.ns))) s λZ a0 e w=>?_;refine LM (i1:=i) (i2:=j) (j1:=on j) (j2:=on i) e w rfl m p d c rfl rfl (iX e.bs w.toRep p (ah e.ns)) (iX e.bs w.toRep m (ah e.ns)) s λa3 a4 f l=>?_;refine LM (i1:=bp (on i)) (i2:=bp (on j)) (j1:=upd (upd on i (on j)) j (on i) (bp (on j))) (j2:=upd (upd on i (on j)) j (on i) (bp (on i))) f l rfl (cw R.n4 c) (cw R.n4 d) (l.on _ (cw R.n4 d)) (l.on _ (cw R.n4 c)) rfl rfl
  (iX f.bs l.toRep (cw R.n4 d) (ah f.ns)) (iX f.bs l.toRep (cw R.n4 c) (ah f.ns)) s λH I J L=>?_
 exact cA (x .none H I ⟨rfl,J.keep,L⟩ .next rfl)
theorem aU.HP(r:aU (k+1) A)(a:c.weight<=1)(b:c.cUnits<=6):aU k (A.under c):=
 ⟨r.h,by have:=r.d;show A.depth+c.weight+k<1000;exact(fq 0x1f40be15250210be817c210a848109010a408 0x11842008421).2 a this,by have:=r.u;show A.units+c.cUnits+6*k<9900;exact(fq 0x26ac1fc2a3112810849ab07f0842a11888109060a408 0x11842008421).2 b this⟩
def afz(P:bF)(x dx:az)(c l r s:aq)(h:aK)(v:aq)(h':aK):Prop:=v= .none/\(∃e,h'.get? dx=W (oE P e c l r s))/\∀a d,a≠dx->h.get? a=W d->h'.get? a=W d
theorem aee(B:Bz z h)(Y:z.get? dx=X)(m:h.get? x=W (dy 414 dx))(n:h.get? dx=W lW)
  (Z:∀h' g d t o,(kf pS).In h'->vU ⟨h',g,d,t,o⟩ rX a0 [("self", .ref x),("start",s),("left_from_start", .none),("rotated", .none),("context",c)]):
  eJ 6 h (.call (.ref 376) a0) (afz pS x dx c .none .none s h):=by
 refine jj (k:=5) (fd:=rX) (body:=bodyOf rX) (binds:=[("self", .ref x),("start",s),("left_from_start", .none),("rotated", .none),("context",c)]) B.bs (tF _) rfl
  Z (by nofun) (by nofun) rfl rfl rfl ?_
 intro O p A g dr tk o Q P q;have u:=cJ (dA n);refine de (CE (qm (Aq (ah p.ns) (ah p.ns) (ah p.ns) (ah p.ns)) ?_ A _ O g dr tk o P Ext.rfl λv a3 a4 R hv=>?_) rfl rfl)
 .rintro vs rfl;show 4<=fv;decide
 obtain⟨a,vs,rfl,rfl,ht⟩:=hv;refine LH (s:=⟨a3,g,dr,a4,o⟩) P.h ht rfl rfl λa5 e3=>?_;have a6:Ext O a5:=λf o x=>e3 f o (cJ (dA (R f o x))) (R f o x);have l:=eZ p a6;have a7:=B.bs.keeps l.keep;have a8:=l.keep _ _ m;have a9:=l.keep _ _ n;refine gP (nZ (gR (iK rfl rfl l.ns (rfl) (kz (od':=λt=>gQ [⟨dX pS "_context", .str "_context" t,c⟩] 1) a7 l.ns a8 a9 u (by nofun) (by nofun) (by nofun) (by nofun) rfl (λj=>rfl) (λj=>rfl) (λj=>show 1<=1000 by decide) λb0 b5 H C=>?_)) rfl));have I:∀f o,f≠dx->h.get? f=W o->b0.get? f=W o:=λf o z i=>C.keep f o z (cJ (dA i)) (l.keep f o i);have J:x≠dx:=by rintro rfl;replace n:=(m)▸n;cases n
 have L:∀{h'},(∀f o,f≠dx->h.get? f=W o->h'.get? f=W o)->Bs h':=λK=>B.b.keeps λf o i=>K f o (eg i Y) (B.e f o i);refine gP (nZ (gR (iK rfl rfl C.ns (rfl) (kz (od':=λt=>gQ [⟨dX pS "_context", .str "_context" H,c⟩,⟨dX pS "_left_from_start", .str "_left_from_start" t, .none⟩] 2) (L I) C.ns (I _ _ J m) C.at_ u (by nofun) (by nofun) (by nofun) (by nofun) rfl (λj=>rfl) (λj=>rfl) (λj=>show 2<=1000 by decide) λb1 b6 S D=>?_)) rfl));have M:∀f o,f≠dx->h.get? f=W o->b1.get? f=W o:=λf o z i=>D.keep f o z (cJ (dA i)) (I f o z i);refine gP (nZ (gR (iK rfl rfl D.ns (rfl) (kz (od':=λt=>gQ [⟨dX pS "_context", .str "_context" H,c⟩,⟨dX pS "_left_from_start", .str "_left_from_start" S, .none⟩,⟨dX pS "_rotated", .str "_rotated" t, .none⟩] 3) (L M) D.ns (M _ _ J m) D.at_ u (by nofun) (by nofun) (by nofun) (by nofun) rfl (λj=>rfl) (λj=>rfl) (λj=>show 3<=1000 by decide) λb2 b7 t3 E=>?_)) rfl));have N:∀f o,f≠dx->h.get? f=W o->b2.get? f=W o:=λf o z i=>E.keep f o z (cJ (dA i)) (M f o z i);refine gP (nZ (gR (iK rfl rfl E.ns (rfl) (kz (od':=λt=>oE pS (H,S,t3,t) c .none .none s) (L N) E.ns (N _ _ J m) E.at_ u (by nofun) (by nofun) (by nofun) (by nofun) rfl (λj=>rfl) (λj=>rfl) (λj=>show 4<=1000 by decide) λT b3 t4 V=>?_)) rfl));have b4:∀f o,f≠dx->h.get? f=W o->T.get? f=W o:=λf o z i=>V.keep f o z (cJ (dA i)) (N f o z i);exact rN (cA (q .none T b3 ⟨rfl,⟨_,V.at_⟩,b4⟩ .next rfl))
inductive wF(h:aK)(c s:aq)(v:aq)(h':aK):Prop
 |mk (x d:az) (f:Nat×Nat×Nat×Nat) (e:v= .ref x) (a:h'.get? x=W (dy 414 d)) (b:h'.get? d=W (oE pS f c .none .none s)) (n:h.get? x=X) (m:h.get? d=X)
theorem Xk(C:az)(rest:List aq)(kw:List (aA×aq)):(Jy "type.__call__" ⟨.ref C::rest,kw⟩).weight<=1:=rD (show _=1 by nofun)
theorem Er(C:az)(rest:List aq)(kw:List (aA×aq)):(Jy "type.__call__" ⟨.ref C::rest,kw⟩).cUnits<=6:=eT (rD (show _=1 by nofun)) (by decide)
noncomputable def MK(fd:bI):az:=match fd.defaults with| .ref a=>a|_=>0
theorem OU(B:Bz z h)
  (E:∀x h' g d t o,(kf pS).In h'->vU ⟨h',g,d,t,o⟩ rX ⟨.ref x::rest,kw⟩ [("self", .ref x),("start",s),("left_from_start", .none),("rotated", .none),("context",c)]):
  gM 7 h (.call (.ref 414) ⟨rest,kw⟩) (wF h c s):=by
 intro N O f g d F o w i m;have n:=(B.keeps i).bs.k;refine OT (OV n (by nofun)) (su n (name:="__init__") (r:=W (.ref 376)) (by nofun)) (λG=>bind_fn n G (by nofun)) (.inl rfl) ?_;have C:Ext f ((f.push lW).push (dy 414 f.objs.size)):=λj o i=>eP _ (eP _ i);have p:f.get? f.objs.size=X:=jq (bT _);have H:f.get? (f.objs.size+1)=X:=jq (KC _);have u:∀{l j:aK} {x:az},Ext l j->j.get? x=X->l.get? x=X:=by
  intro l j x i h;cases m:l.get? x with
  |none=>rfl
  |some o=>replace h:=(i _ _ m)▸h;cases h
 refine aee (z:=z) (x:=f.objs.size+1) (dx:=f.objs.size) ((B.keeps i).keeps C) (u (B.keeps i).e p) (by heap_get) (by heap_get) (E _) _ _ g d F o (w.HP (Xk _ _ _) (Er _ _ _)) λQ I J L=>?_;obtain⟨rfl,⟨t,M⟩,K⟩:=L;refine⟨rfl,m _ I J (λj o D=>K j o (eg D p) (C j o D)) ⟨_,_,t,rfl,K _ _ (by intro z;exact absurd z (KR _)) (by heap_get),M,u i H,u i p⟩⟩
theorem MZ(B:Bz z h)(G:aO k h (aa p env) (.ref 414))(H:aO k h (aa a env) s)(I:aO k h (aa b env) c)(hk:autoParam (7<=k) fW)
  (J:autoParam (aa (.Call p [a] [⟨W "context",b,p1⟩] pos) env=(do dH pos (<-aa p env) [] (bG pos (aH [a] env)) (bZ pos (cf [⟨W "context",b,p1⟩] env)))) rf)
  (C:autoParam (aH [a] env=(aw,aa a env)::aH [] env) rf)(L:autoParam (((bG pos (aH [a] env)).any (·.1)||(bZ pos (cf [⟨W "context",b,p1⟩] env)).any (·.1.isNone))=aw) rf)
  (M:autoParam ((bZ pos (cf [⟨W "context",b,p1⟩] env)).all (·.1.isSome)=af) rf)(N:∀u:List aq,((bZ pos (cf [⟨W "context",b,p1⟩] env)).filterMap (·.1)).zip u=([("context":aA)].zip u):=by intro u;rfl):
  Ev k h (aa (.Call p [a] [⟨W "context",b,p1⟩] pos) env) (wF h c s):=by
 intro v Q a8 g i tk f j l O;refine(J)▸(aB (Ev.at G j l λP R m=>(callWith_KW (h₀:=h) (K:=kf pS) B.bs.k (by nofun) M (cF (H v _ P g i R f j (l.trans m) λS V Y w y=>?_) C) L C)));subst y;refine eQ (xB (I v _ V g i Y f j ((l.trans m).trans w) λZ a0 a3 D y=>?_));subst y;have E:=((l.trans m).trans w).trans D;refine xC ⟨(B.bs.keeps E).k,?_⟩;rw[N];refine dq (OU (rest:=[S]) (kw:=[("context",Z)]) B ?_ v _ a0 g i a3 f (j.le hk) E λa4 a5 a6 e6 hn=>O a4 a5 a6 ((m.trans w).trans (D.trans e6)) hn);intro x h' g i t f a7;exact LY a7 rfl (T:=MK rX) (o:=⟨.type "tuple",X, .seq #[.none, .none, .none] 0,#[]⟩) (items:=#[.none, .none, .none]) (n:=0) (by nofun) rfl rfl rfl
theorem MY(B:Bz z h)(w:aO k h (aa f env) (.ref 414))(y:aO k h (aa a env) c)(hk:autoParam (7<=k) fW)
  (C:autoParam (aa (.Call f [] [⟨W "context",a,p1⟩] pos) env=(do dH pos (<-aa f env) [] (bG pos (aH [] env)) (bZ pos (cf [⟨W "context",a,p1⟩] env)))) rf)
  (D:autoParam (((bG pos (aH [] env)).any (·.1)||(bZ pos (cf [⟨W "context",a,p1⟩] env)).any (·.1.isNone))=aw) rf)
  (E:autoParam ((bZ pos (cf [⟨W "context",a,p1⟩] env)).all (·.1.isSome)=af) rf)(G:∀i:List aq,((bZ pos (cf [⟨W "context",a,p1⟩] env)).filterMap (·.1)).zip i=([("context":aA)].zip i):=by intro i;rfl):
  Ev k h (aa (.Call f [] [⟨W "context",a,p1⟩] pos) env) (wF h c .none):=by
 intro s Q a0 g j tk b l m H;refine(C)▸(aB (Ev.at w l m λI J p=>(callWith_KW0 (h₀:=h) (K:=kf pS) B.bs.k (by nofun) E (xB (y s _ I g j J b l (m.trans p) λL M N u O=>?_)) D)));subst O;have v:=(m.trans p).trans u;refine xC ⟨(B.bs.keeps v).k,?_⟩;rw[G];refine dq (OU (rest:=[]) (kw:=[("context",L)]) B ?_ s _ M g j N b (l.le hk) v λP R S V Y=>H P R S (p.trans (u.trans V)) Y);intro x h' g j t b Z;exact LY Z rfl (T:=MK rX) (o:=⟨.type "tuple",X, .seq #[.none, .none, .none] 0,#[]⟩) (items:=#[.none, .none, .none]) (n:=0) (by nofun) rfl rfl rfl
theorem ml(e:Ext a b)(h:b.get? x=X):a.get? x=X:=by
 cases q:a.get? x with
 |none=>rfl
 |some c=>rw[e _ _ q] at h;cases h
noncomputable def pk(a b c d:e)(i:Nat):e:=match i with|0=>a|1=>b|2=>c|_=>d
noncomputable def qW(f:Nat->aq)(i:Nat)(v:aq):Nat->aq:=λx=>if x=i then v else f x
structure dW(h₀:aK)(L:az)(m:aA->Option aq)(h:aK)(n:Nat)(x d:Nat->az)(t:Nat->Nat×Nat×Nat×Nat)(c:aq)(l r s:Nat->aq):Prop where
 F:Fr h₀ L h m
 ob:∀i<n,h.get? (x i)=W (dy 414 (d i))
 di:∀i<n,h.get? (d i)=W (oE pS (t i) c (l i) (r i) (s i))
 ij:∀i j,i<n->j<n->d i=d j->i=j
 ix:∀i j,i<n->j<n->x i=x j->i=j
 fr:∀i<n,h₀.get? (d i)=X
 fx:∀i<n,h₀.get? (x i)=X
theorem dW.mh(a:dW h₀ L m h n x d t c l r s)(e:m "_context"=X)(f:i<n):d i≠L:=by intro g;have b:=a.di i f;rw[g] at b;exact jg a.F.ns e b ⟨_,_,_,_,_,rfl⟩
theorem dW.OZ(b:dW h₀ L m h n x d t c l r s)(e:i<n):x i≠L:=by intro f;have a:=b.ob i e;obtain⟨k,p,u,g,j,_⟩:=b.F.ns;replace a:=(g)▸(f)▸a;cases a;cases j
theorem dW.ext(a:dW h₀ L m h n x d t c l r s)(e:Ext h h'):dW h₀ L m h' n x d t c l r s:={a with F:=eZ a.F e,ob:=λb f=>e _ _ (a.ob b f),di:=λb f=>e _ _ (a.di b f)}
theorem dW.set(a:dW h₀ L m h n x d t c l r s)(g:m "_context"=X)(e:dE L h h')(j:h'.Ns L k):dW h₀ L k h' n x d t c l r s:=
 {a with F:=a.F.set j e,ob:=λf b=>(e.2 _ (a.OZ b)).trans (a.ob f b),di:=λf b=>(e.2 _ (a.mh g b)).trans (a.di f b)}
theorem dW.new(g:dW h₀ L m h n x d t c l r s)(e:Ext h h')(A:h'.get? z=W (dy 414 w))(B:h'.get? w=W (oE pS t' c .none .none C))(y:h.get? z=X)(fd:h.get? w=X):
  dW h₀ L m h' (n+1) (λi=>if i=n then z else x i) (λi=>if i=n then w else d i) (λi=>if i=n then t' else t i) c (λi=>if i=n then .none else l i) (λi=>if i=n then .none else r i) (λi=>if i=n then C else s i):=by
 refine⟨eZ g.F e,λi k=>?_,λi k=>?_,λi u k v f=>?_,λi u k v f=>?_,λi k=>?_,λi k=>?_⟩
 .by_cases f:i=n
  .simp only[f,if_true];exact A
  .simp only[f,if_false];exact e _ _ (g.ob i (o9 k f))
 .by_cases f:i=n
  .simp only[f];exact B
  .simp only[f];exact e _ _ (g.di i (o9 k f))
 .by_cases o:i=n<;>by_cases p:u=n
  .exact QV o p
  .simp only[o,p,if_true,if_false] at f;have:=g.di u (o9 v p);replace this:=(fd)▸(f)▸this;cases this
  .simp only[o,p,if_true,if_false] at f;have:=g.di i (o9 k o);replace this:=(fd)▸(f)▸this;cases this
  .simp only[o,p] at f;exact g.ij i u (o9 k o) (o9 v p) f
 .by_cases o:i=n<;>by_cases p:u=n
  .exact QV o p
  .simp only[o,p,if_true,if_false] at f;have:=g.ob u (o9 v p);replace this:=(y)▸(f)▸this;cases this
  .simp only[o,p,if_true,if_false] at f;have:=g.ob i (o9 k o);replace this:=(y)▸(f)▸this;cases this
  .simp only[o,p] at f;exact g.ix i u (o9 k o) (o9 v p) f
 .by_cases f:i=n
  .simp only[f];exact ml g.F.keep fd
  .simp only[f];exact g.fr i (o9 k f)
 .by_cases f:i=n
  .simp only[f,if_true];exact ml g.F.keep y
  .simp only[f,if_false];exact g.fx i (o9 k f)
theorem dW.upd(e:dW h₀ L m h n x d t c l r s)(C:m "_context"=X)(u:i<n)(k:Upd L m (d i) (oE pS (t i) c (w i) (z i) (s i)) h h')(hl:∀j,j≠i->w j=l j)(hr:∀j,j≠i->z j=r j):
  dW h₀ L m h' n x d t c w z s:=by
 refine{e with F:=⟨k.ns,λA B p=>k.keep A B ?_ (cJ (fj (dA p) e.F.above)) (e.F.keep A B p),e.F.above⟩,ob:=λj f=>?_,di:=λj f=>?_}
 .rintro rfl;replace p:=(e.fr i u)▸p;cases p
 .refine k.keep _ _ ?_ (e.OZ f) (e.ob j f);intro g;have v:=e.ob j f;replace v:=(e.di i u)▸(g)▸v;cases v
 .by_cases g:j=i
  .subst g;exact k.at_
  .simp only[hl j g,hr j g];exact k.keep _ _ (λD=>g (e.ij _ _ f u D)) (e.mh C f) (e.di j f)
theorem dW.aj5{dr:dT}(B:Bs h₀)(a:dW h₀ L m h n x d t c l r s)(k:m "_context"=X)(e:i<n)
  (q:∀h' f,dW h₀ L m h' n x d t c (qW l i v) r s->Q () ⟨h',g,dr,f,o⟩):aF (MM) A (vD (.ref (x i)) "_left_from_start" v) Q aE ⟨h,g,dr,tk,o⟩:=by
 refine kz (od':=λb=>oE pS (t i) c v (r i) (s i)) (B.keeps a.F.keep) a.F.ns (a.ob i e) (a.di i e) (a.mh k e) (by nofun) (by nofun) (by nofun) (by nofun) rfl (λb=>rfl) (λb=>rfl) (λb=>show 4<=1000 by decide) λh' f b p=>?_;refine q h' f (a.upd (i:=i) k e ?_ (λy u=>by unfold qW;rw[if_neg u]) λb b=>rfl);unfold qW;rw[if_pos rfl];exact p
theorem dW.aj7{dr:dT}(B:Bs h₀)(a:dW h₀ L m h n x d t c l r s)(k:m "_context"=X)(e:i<n)
  (q:∀h' f,dW h₀ L m h' n x d t c l (qW r i v) s->Q () ⟨h',g,dr,f,o⟩):aF (MM) A (vD (.ref (x i)) "_rotated" v) Q aE ⟨h,g,dr,tk,o⟩:=by
 refine kz (od':=λb=>oE pS (t i) c (l i) v (s i)) (B.keeps a.F.keep) a.F.ns (a.ob i e) (a.di i e) (a.mh k e) (by nofun) (by nofun) (by nofun) (by nofun) rfl (λb=>rfl) (λb=>rfl) (λb=>show 4<=1000 by decide) λh' f b p=>?_;refine q h' f (a.upd (i:=i) k e ?_ (λb b=>rfl) λy u=>by unfold qW;rw[if_neg u]);unfold qW;rw[if_pos rfl];exact p
theorem dW.start(b:Fr h₀ L h m):dW h₀ L m h 0 x d t c l r s:=
 ⟨b,λa h=>absurd h (fT _),λa h=>absurd h (fT _),λa a h=>absurd h (fT _),λa a h=>absurd h (fT _),λa h=>absurd h (fT _),λa h=>absurd h (fT _)⟩
section
variable {k:Nat} {z h₀ h h':Heap} {L:Addr} {m m':Str->Option Value} {n:Nat} {x d:Nat->Addr} {t:Nat->Nat×Nat×Nat×Nat} {c:Value} {l r s:Nat->Value}
set_option tactic.hygienic true in
theorem NQ{A:cT}{g:Array dQ}{dr:dT}{tk:Nat}{o:df}{Q:dM->aT->Prop}{e:Addr}{fd:bI}{u:List Expr}{v w:Nat}{a b:Str}{B p2 N:cC}{p f:Expr}{rest:List cQ}{O P:Value}
  (C:dW h₀ L m h n x d t c l r s)(R:m "_context"=X)
  (C1:∀h',Fr h₀ L h' m->Ev k h' (aa p (aY fd L e)) (wF h' c O))(C2:∀h',Fr h₀ L h' m->Ev k h' (aa f (aY fd L e)) (wF h' c P))(D:aU k A)
  (q:∀h' a6 j E G x2 H I,dW h₀ L (λy=>if y=a then W (.ref j) else if y=b then W (.ref x2) else m y) h' (n+1+1)
   (λi=>if i=n+1 then x2 else if i=n then j else x i) (λi=>if i=n+1 then H else if i=n then E else d i) (λi=>if i=n+1 then I else if i=n then G else t i) c
   (λi=>if i=n+1 then .none else if i=n then .none else l i) (λi=>if i=n+1 then .none else if i=n then .none else r i) (λi=>if i=n+1 then P else if i=n then O else s i)->
   aF (MM) A (bg rest (aY fd L e)) Q aE ⟨h',g,dr,a6,o⟩)
  (J:autoParam ((if("_context":Str)=b then W (Value.ref 0) else m "_context")=X) rf)
  (a7:autoParam (aH [p,f] (aY fd L e)=(aw,aa p (aY fd L e))::aH [f] (aY fd L e)) rf)(a8:autoParam (aH [f] (aY fd L e)=(aw,aa f (aY fd L e))::aH [] (aY fd L e)) rf)
  (hs:autoParam (yj [.Tuple u v B] (.Tuple [p,f] w p2) N.line (aY fd L e)=bj aw) rf)
  (hw:autoParam (yi [.Tuple u v B] (.Tuple [p,f] w p2) (aY fd L e)=bj (W [a,b])) rf)(ha:autoParam ((aY fd L e).kindOf a=W .local) rf)(a9:autoParam ((aY fd L e).kindOf b=W .local) rf)
  (S:autoParam (((aY fd L e).scope.kind== .class||((aY fd L e).scope.kind== .module&&(aY fd L e).locals !=(aY fd L e).globals))=aw) rf):
  aF (MM) A (bg (.Assign [.Tuple u v B] (.Tuple [p,f] w p2) N::rest) (aY fd L e)) Q aE ⟨h,g,dr,tk,o⟩:=by
 refine de (Jr (zW (cF (C1 h C.F A _ h g dr tk o D Ext.rfl λv1 T b0 V n1=>?_) a7)) hs hw);obtain⟨j,E,G,rfl,a1,a2,Y,Z⟩:=n1;refine cF (C2 T (C.new V a1 a2 Y Z).F A _ T g dr b0 o D Ext.rfl λv2 M c1 f2 n2=>?_) a8;obtain⟨x2,H,I,rfl,b1,b2,b3,b4⟩:=n2;have a0:=(C.new V a1 a2 Y Z).new f2 b1 b2 b3 b4;refine eQ (yr (Ce D.h (CW M [Value.ref j,Value.ref x2].toArray) rfl λc2 f3=>?_) (show 2<=fv by decide));refine gP (mP (fw a9 ((a0.ext (h':=M.push {cls:= .type "tuple",data:= .seq [Value.ref j,Value.ref x2].toArray}) λb o x=>Heap.get?_push_of_some _ x).ext f3).F.ns (λc3 b5 b6=>?_) S));have a5:=((a0.ext (h':=M.push {cls:= .type "tuple",data:= .seq [Value.ref j,Value.ref x2].toArray}) λb o x=>Heap.get?_push_of_some _ x).ext f3).set R b6 b5;refine gP (mP (fw ha a5.F.ns (λb7 b8 b9=>?_) S));have c0:(if("_context":Str)=b then W (Value.ref x2) else m "_context")=X:=by
  split
  .rename_i z;replace J:=(if_pos z)▸J;cases J
  .exact R
 exact rN (q b7 _ j E G x2 H I (a5.set c0 b9 b8))
theorem AJ{A:cT}{g:Array dQ}{dr:dT}{tk:Nat}{o:df}{Q:dM->aT->Prop}{e:Addr}{fd:bI}{a b:Str}{p1 p2 p3 j:cC}{rest:List cQ}{v:Value}
  (B:Bs h₀)(f:dW h₀ L m h n x d t c l r s)(p:m "_context"=X)(i:Nat)(u:i<n)(w:m a=W (.ref (x i)))(y:m b=W v)(I:aU k A)
  (q:∀h' C,dW h₀ L m h' n x d t c (qW l i v) r s->aF (MM) A (bg rest (aY fd L e)) Q aE ⟨h',g,dr,C,o⟩)
  (hs:autoParam (mB (.Name b p3) (W (.Attribute (.Name a p1) "_left_from_start" p2)) j.line (aY fd L e)=bj aw) rf)(hk:autoParam ((aY fd L e).scope.kind= .function) rf)
  (D:autoParam ((aY fd L e).kindOf a=W .local) rf)(E:autoParam ((aY fd L e).kindOf b=W .local) rf)(G:autoParam ((a==("__debug__":Str))=aw) rf)(H:autoParam ((b==("__debug__":Str))=aw) rf):
  aF (MM) A (bg (.Assign [.Attribute (.Name a p1) "_left_from_start" p2] (.Name b p3) j::rest) (aY fd L e)) Q aE ⟨h,g,dr,tk,o⟩:=by
 exact de (BE (gR (iK hk E f.F.ns y (gR (iK hk D f.F.ns w (f.aj5 B p u q)) G)) H) hs)
theorem AK{A:cT}{g:Array dQ}{dr:dT}{tk:Nat}{o:df}{Q:dM->aT->Prop}{e:Addr}{fd:bI}{a b:Str}{p1 p2 p3 j:cC}{rest:List cQ}{v:Value}
  (B:Bs h₀)(f:dW h₀ L m h n x d t c l r s)(p:m "_context"=X)(i:Nat)(u:i<n)(w:m a=W (.ref (x i)))(y:m b=W v)(I:aU k A)
  (q:∀h' C,dW h₀ L m h' n x d t c l (qW r i v) s->aF (MM) A (bg rest (aY fd L e)) Q aE ⟨h',g,dr,C,o⟩)
  (hs:autoParam (mB (.Name b p3) (W (.Attribute (.Name a p1) "_rotated" p2)) j.line (aY fd L e)=bj aw) rf)(hk:autoParam ((aY fd L e).scope.kind= .function) rf)
  (D:autoParam ((aY fd L e).kindOf a=W .local) rf)(E:autoParam ((aY fd L e).kindOf b=W .local) rf)(G:autoParam ((a==("__debug__":Str))=aw) rf)(H:autoParam ((b==("__debug__":Str))=aw) rf):
  aF (MM) A (bg (.Assign [.Attribute (.Name a p1) "_rotated" p2] (.Name b p3) j::rest) (aY fd L e)) Q aE ⟨h,g,dr,tk,o⟩:=by
 exact de (BE (gR (iK hk E f.F.ns y (gR (iK hk D f.F.ns w (f.aj7 B p u q)) G)) H) hs)
def mM(h:Heap)(c:Addr)(s e:Value)(v:Value)(h':Heap):Prop:=
 ∃(x d:Nat->Addr) (t:Nat->Nat×Nat×Nat×Nat),v= .ref (x 0)/\(∀a<4,h'.get? (x a)=W (dy 414 (d a)))/\
  (∀a<4,h'.get? (d a)=W (uX pS (t a) c (x ((4-a)%4)) (x ((a+1)%4)) (if a=0 then s else if a=2 then e else .none)))/\
  (∀a b,a<4->b<4->d a=d b->a=b)/\(∀a b,a<4->b<4->x a=x b->a=b)/\(∀a<4,h.get? (d a)=X)/\(∀a<4,h.get? (x a)=X)
theorem DK{P:Nat->Prop}(a:P 0)(b:P 1)(e:P 2)(f:P 3):∀i<4,P i:=λi h=>by
 cases i with
 |zero=>exact a
 |succ i=>
  cases i with
  |zero=>exact b
  |succ i=>
   cases i with
   |zero=>exact e
   |succ i=>
    cases i with
    |zero=>exact f
    |succ i=>exact absurd h (Nat.not_lt.mpr (Nat.le_add_left ..))
noncomputable abbrev pm:Nat->Nat:=pk 0 2 1 3
theorem qN:∀i<4,pm i<4:=by decide
theorem VF:∀i<4,∀j<4,pm i=pm j->i=j:=by decide
theorem adO{p:Heap}{q:Addr}{a b:Value}(f:dW h₀ L m h 4 x d t (.ref q) l r s)(u:Ext p h₀)(hl:∀i<4,l (pm i)= .ref (x (pm ((4-i)%4))))(hr:∀i<4,r (pm i)= .ref (x (pm ((i+1)%4))))(hs:∀i<4,s (pm i)=if i=0 then a else if i=2 then b else .none):mM p q a b (.ref (x 0)) h:=
 ⟨λi=>x (pm i),λi=>d (pm i),λi=>t (pm i),rfl,λi e=>f.ob _ (qN i e),λi e=>by have:=f.di _ (qN i e);replace this:=(hs i e)▸(hr i e)▸(hl i e)▸this;exact this,λi g e o h=>VF i e g o (f.ij _ _ (qN i e) (qN g o) h),λi g e o h=>VF i e g o (f.ix _ _ (qN i e) (qN g o) h),λi e=>ml u (f.fr _ (qN i e)),λi e=>ml u (f.fx _ (qN i e))⟩
theorem EC{u:Addr}{s e:Value}(B:Bz z h):
  gM 8 h (.call (.ref 293) ⟨[.ref 414,s,e],[("context", .ref u)]⟩) (mM h u s e):=by
 refine mR (k:=7) (fd:=EU) (body:=bodyOf EU) (binds:=[("cls", .ref 414),("start",s),("end",e),("context", .ref u)]) B.bs (tF _) rfl
  (λi i i i i i=>eR rfl) (by nofun) (by nofun) rfl rfl rfl ?_
 intro h₀ L E w G a0 A g dr tk o Q r H;refine mS ?_ rfl;have p:=B.keeps w;have I:dW h₀ L _ E 0 (λi=>0) (λi=>0) (λi=>(0,0,0,0)) (.ref u) (λi=> .none) (λi=> .none) (λi=> .none):=dW.start G;refine NQ (a:="result") (b:="opposite") (k:=7) I rfl (λh' f=>MZ (p.keeps f.keep) (ah f.ns) (ah f.ns) (ah f.ns)) (λh' f=>MZ (p.keeps f.keep) (ah f.ns) (ah f.ns) (ah f.ns)) r λa3 a4 x1 d1 t1 x2 d2 t2 J=>NQ (a:="rotated") (b:="triple_rotated") (k:=7) J rfl (λh' f=>MY (p.keeps f.keep) (ah f.ns) (ah f.ns)) (λh' f=>MY (p.keeps f.keep) (ah f.ns) (ah f.ns)) r λa5 a6 x3 d3 t3 x4 d4 t4 M=>?_;have j:=p.bs;refine AJ (k:=7) j M rfl 0 (RO) rfl rfl r λa7 a8 N=>AJ (k:=7) j N rfl 1 (RP) rfl rfl r λa9 b0 O=>?_;refine AJ (k:=7) j O rfl 2 (RQ) rfl rfl r λb1 b2 P=>AJ (k:=7) j P rfl 3 (RR) rfl rfl r λb3 b4 R=>?_;refine AK (k:=7) j R rfl 0 (RO) rfl rfl r λb5 b6 S=>AK (k:=7) j S rfl 2 (RQ) rfl rfl r λb7 b8 T=>?_;refine AK (k:=7) j T rfl 1 (RP) rfl rfl r λhA b9 V=>AK (k:=7) j V rfl 3 (RR) rfl rfl r λhB c0 C=>?_;refine fL (h₀:=h₀) (L:=L) (m:=λi=>X) (ah C.F.ns) r λv Y Z eC hv=>?_;subst hv;have D:=C.ext eC;exact H _ Y Z D.F.keep (adO D w (DK rfl rfl rfl rfl) (DK rfl rfl rfl rfl) (DK rfl rfl rfl rfl)) (.ret _) rfl
end
theorem acU(B:Bz z h)(R:Rep h Y n on)(N:i<n)(a4:aO k h (aa E env) (.ref (Y.ad i)))(X1:aO k h (aa m env) s)(X2:aO k h (aa c env) e)(X3:aO k h (aa a env) (.ref cx))(pl:dG Bool)
  (he:aa (.Call (.Attribute E "from_endpoints" O) [m,c] [⟨W "context",a,p1⟩] pos) env=(do
   let S<-aa E env
   fB O.atName
   let(f,first)<-fI [S] (ie S "from_endpoints" pl)
   dH pos f first (bG pos (aH [m,c] env)) (bZ pos (cf [⟨W "context",a,p1⟩] env))))(hk:autoParam (8<=k) fW)
  (C:autoParam (aH [m,c] env=(aw,aa m env)::aH [c] env) rf)(D:autoParam (aH [c] env=(aw,aa c env)::aH [] env) rf)
  (a5:autoParam (((bG pos (aH [m,c] env)).any (·.1)||(bZ pos (cf [⟨W "context",a,p1⟩] env)).any (·.1.isNone))=aw) rf)
  (a6:autoParam ((bZ pos (cf [⟨W "context",a,p1⟩] env)).all (·.1.isSome)=af) rf)(hz:∀F:List aq,((bZ pos (cf [⟨W "context",a,p1⟩] env)).filterMap (·.1)).zip F=([("context":aA)].zip F):=by intro F;rfl):
  Ev k h (aa (.Call (.Attribute E "from_endpoints" O) [m,c] [⟨W "context",a,p1⟩] pos) env) (mM h cx s e):=by
 intro A Q b0 g u tk p t v q;refine kT (Ev.at a4 t v λj G a=>?_) he;have H:=B.keeps (v.trans a);have T:=qv Ext.rfl ((R.keeps (v.trans a)).ob i N) ((R.keeps (v.trans a)).di i N);refine method_usual (s:=⟨j,g,u,G,p⟩) (r:=W (.ref 295)) H.bs.k T (by nofun) (by nofun) (by nofun) (by nofun) (NS (s:=⟨j,g,u,G,p⟩) H.bs.k T (by nofun) (findObj_fn (f:=295) (g:= .builtin "classmethod.__get__") (by nofun) (by nofun) (by nofun) (by nofun) (by nofun) rfl) (by nofun) (dq ?_));have J:∃V,jQ (kf pS) 295 "classmethod"=W (.ref 293::V):=by
  have h:((jQ (kf pS) 295 "classmethod").bind rA)=W (.ref 293):=by nofun
  obtain⟨L,C,D⟩:=wH.mp h;cases L with
  |nil=>cases D
  |cons x L=>cases D;exact⟨L,C⟩
 obtain⟨V,J⟩:=J;refine Aj (s:=⟨j,g,u,G+1,p⟩) H.bs.k J (sf rfl ?_);have Z:Ext j (j.push (sA (.ref 293) (.ref 414))):=λb p e=>eP _ e;have hq:(j.push (sA (.ref 293) (.ref 414))).get? j.objs.size=W (sA (.ref 293) (.ref 414)):=by heap_get
 have w:=(v.trans a).trans Z;refine Ad (P:=rB (kf pS) j.objs.size 293 (.ref 414)) a5 (xA (by nofun)) (Nm a6 (cF (Ev.at X1 t w λb1 b2 M=>?_) C) C);refine cF (Ev.at X2 t (w.trans M) λb3 b4 e5=>(eQ (xB (Ev.at X3 t ((w.trans M).trans e5) λa0 a3 e6=>?_)))) D;have y:=(M.trans e5).trans e6;refine xC ⟨⟨y _ _ hq,(B.bs.keeps (w.trans y)).k⟩,?_⟩;simp only[hz];exact dq (xI (s:=⟨a0,g,u,a3,p⟩) (y _ _ hq) (EC B A _ a0 g u a3 p (t.le hk) (w.trans y) λa7 a8 a9 e7 hn=>q a7 a8 a9 ((a.trans Z).trans (y.trans e7)) hn))
noncomputable def Lay.grow(Y:Lay)(n:Nat)(x d:Nat->az)(t:Nat->Nat×Nat×Nat×Nat)(s e:aq):Lay:=
 ⟨λa=>if a<n then Y.ad a else x (a-n),λa=>if a<n then Y.dd a else d (a-n),λa=>if a<n then Y.tq a else t (a-n),Y.ctx,λa=>if a<n then Y.st a else if a-n=0 then s else if a-n=2 then e else .none⟩
structure gy(n:Nat)(Y a:Lay):Prop where
 ad:∀i<n,a.ad i=Y.ad i
 st:∀i<n,a.st i=Y.st i
 ctx:a.ctx=Y.ctx
theorem gy.refl(n:Nat)(Y:Lay):gy n Y Y:=⟨λa a=>rfl,λa a=>rfl,rfl⟩
theorem gy.trans(a:gy n Y e)(b:gy f e g)(h:n<=f):gy n Y g:=
 ⟨λc d=>(b.ad c (vk h d)).trans (a.ad c d),λc d=>(b.st c (vk h d)).trans (a.st c d),b.ctx.trans a.ctx⟩
theorem ajN(a:n%4=0)(b:j<4):bp (n+j)=n+(j+1)%4:=by unfold bp;exact ahp a b
theorem Rz.grow(R:Rz z h Y n on)(E:Ext z h)(D:Ext h h')(N:mM h Y.ctx s e v h')(hs:ik s=af)(F:ik e=af):
  ∃u,gy n Y u/\v= .ref (u.ad n)/\u.st n=s/\u.st (n+2)=e/\Rz z h' u (n+4) (cS on n):=by
 obtain⟨x,d,t,rfl,o1,o2,G,H,f1,f2⟩:=N;refine⟨Y.grow n x d t s e,⟨λf m=>if_pos m,λf m=>if_pos m,rfl⟩,?_,?_,?_,⟨⟨?_,?_,?_,?_,?_,?_,?_⟩,?_⟩⟩
 .show cM (x 0)= .ref (if n<n then Y.ad n else x (n-n));rw[if_neg (ui n),wC]
 .show(if n<n then Y.st n else if n-n=0 then s else if n-n=2 then e else .none)=s;rw[if_neg (ui n),wC,if_pos rfl]
 .show(if n+2<n then Y.st (n+2) else if n+2-n=0 then s else if n+2-n=2 then e else .none)=e;rw[if_neg (by exact QN),rC,if_neg (by decide),if_pos rfl]
 .intro f m;show h'.get? (if f<n then Y.ad f else x (f-n))=W (dy 414 (if f<n then Y.dd f else d (f-n)));by_cases l:f<n
  .rw[if_pos l,if_pos l];exact D _ _ (R.ob f l)
  .rw[if_neg l,if_neg l];exact o1 _ (by exact mY m)
 .intro f m;by_cases l:f<n
  .have w:(Y.grow n x d t s e).dd f=Y.dd f:=if_pos l;have y:(Y.grow n x d t s e).tq f=Y.tq f:=if_pos l;have A:(Y.grow n x d t s e).st f=Y.st f:=if_pos l;have B:(Y.grow n x d t s e).ad (cS on n f)=Y.ad (on f):=by have:cS on n f=on f:=if_pos l;rw[this];exact if_pos (R.on f l)
   have C:(Y.grow n x d t s e).ad (bp f)=Y.ad (bp f):=if_pos (cw R.n4 l);simp only[w,y,A,B,C];exact D _ _ (R.di f l)
  .obtain⟨g,rfl⟩:∃g,f=n+g:=⟨f-n,(fq 0x29224112812909429c8 0x4610800100461000200940120420004610802108421).2 rfl l⟩;have r:g<4:=aao m;have w:(Y.grow n x d t s e).dd (n+g)=d g:=by show(if n+g<n then _ else d (n+g-n))=_;rw[if_neg l,rC]
   have y:(Y.grow n x d t s e).tq (n+g)=t g:=by show(if n+g<n then _ else t (n+g-n))=_;rw[if_neg l,rC]
   have A:(Y.grow n x d t s e).st (n+g)=(if g=0 then s else if g=2 then e else .none):=by show(if n+g<n then _ else if n+g-n=0 then s else if n+g-n=2 then e else .none)=_;rw[if_neg l,rC]
   have B:(Y.grow n x d t s e).ad (cS on n (n+g))=x ((4-g)%4):=by
    have:cS on n (n+g)=n+(4-g)%4:=by show(if n+g<n then _ else n+(4-(n+g-n))%4)=_;rw[if_neg l,rC]
    rw[this];show(if n+(4-g)%4<n then _ else x (n+(4-g)%4-n))=_;rw[if_neg (by exact ahq),rC]
   have C:(Y.grow n x d t s e).ad (bp (n+g))=x ((g+1)%4):=by rw[ajN R.n4 r];show(if n+(g+1)%4<n then _ else x (n+(g+1)%4-n))=_;rw[if_neg (by exact ahr),rC]
   simp only[w,y,A,B,C];exact o2 g r
 .intro f m;unfold cS;split
  .have:=R.on f (by assumption);exact o0 this
  .exact GY
 .have:=R.n4;exact oK this
 .intro f g m r k;replace k:(if f<n then Y.ad f else x (f-n))=(if g<n then Y.ad g else x (g-n)):=k;by_cases o:f<n<;>by_cases p:g<n
  .replace k:=(if_pos p)▸(if_pos o)▸k;exact R.ia f g o p k
  .replace k:=(if_neg p)▸(if_pos o)▸k;have:=R.ob f o;replace this:=(f2 _ (mY r))▸(k)▸this;cases this
  .replace k:=(if_pos p)▸(if_neg o)▸k;have:=R.ob g p;replace this:=(f2 _ (mY m))▸(k)▸this;cases this
  .replace k:=(if_neg p)▸(if_neg o)▸k;have:=H _ _ (mY m) (mY r) k;exact QO o p this
 .intro f g m r k;replace k:(if f<n then Y.dd f else d (f-n))=(if g<n then Y.dd g else d (g-n)):=k;by_cases o:f<n<;>by_cases p:g<n
  .replace k:=(if_pos p)▸(if_pos o)▸k;exact R.id f g o p k
  .replace k:=(if_neg p)▸(if_pos o)▸k;have:=R.di f o;replace this:=(f1 _ (by exact mY r))▸(k)▸this;cases this
  .replace k:=(if_pos p)▸(if_neg o)▸k;have:=R.di g p;replace this:=(f1 _ (by exact mY m))▸(k)▸this;cases this
  .replace k:=(if_neg p)▸(if_neg o)▸k;have:=G _ _ (by exact mY m) (by exact mY r) k;exact QO o p this
 .intro f;show ik (if f<n then Y.st f else if f-n=0 then s else if f-n=2 then e else .none)=af;split
  .exact R.hs f
  .split
   .exact hs
   .split
    .exact F
    .rfl
 .intro f m;show z.get? (if f<n then Y.dd f else d (f-n))=X;by_cases l:f<n
  .rw[if_pos l];exact R.fl f l
  .rw[if_neg l];exact ml E (f1 _ (by exact mY m))
def dY(k:Nat)(h:aK)(t:dG a)(P:a->aK->Prop):Prop:=
 ∀(b:cT) (c:a->aT->Prop) (g:Array dQ) (e:dT) (l:Nat) (f:df),aU k b->
  (∀i j m,P i j->c i ⟨j,g,e,m,f⟩)->aF (MM) b t c aE ⟨h,g,e,l,f⟩
theorem WL(B:Bs h)(F:aO k h (aa b env) (.ref x))
  (G:h.get? x=W (dy C H))(I:h.get? H=W (gQ m n))(hl:uK name m=W X)(Y:gT k h env (e::rest) (λp=>p=vs))(J:∀h',Ext h h'->eJ k h' (.call (.ref f) ⟨.ref x::vs,[]⟩) R)
  (t:xY (kf pS) C name=af)(hf:jK (kf pS) (.ref C) name=W (W (.ref f)))(L:isFn (kf pS) (.ref f)=af)(hk:xy (kf pS) (.ref f)=af)
  (pl:dG Bool)(M:aa (.Call (.Attribute b name u) (e::rest) [] pos) env=(do
   let w<-aa b env
   fB u.atName
   let(f,first)<-fI [w] (ie w name pl)
   dH pos f first (bG pos (aH (e::rest) env)) (bZ pos (cf [] env))))
  (N:aH (e::rest) env=(aw,aa e env)::aH rest env)(O:(bG pos (aH rest env)).any (·.1)=aw):
  dY k h (aa (.Call (.Attribute b name u) (e::rest) [] pos) env) R:=by
 intro y Q g c tk i j P;refine kT (Ev.at F j Ext.rfl λz D a=>?_) M;have l:=B.keeps a;refine OX (s:=⟨z,g,c,D,i⟩) l.k (qv a G I) (qM t).1 (qM t).2 hf (beq_iff_eq.mp L) (by show(FZ name (gQ m n)).map _=_;simp only[OK,hl];rfl) ?_;refine mQ l.k hk (Y pos y _ z g c D i j a λp S T E V=>⟨(l.keeps E).k,dq ?_⟩) N O;subst V;exact J S (a.trans E) y _ g c T i j λv a0 a3 hr=>P v a0 a3 hr
theorem lK{Q:dM->aT->Prop}{P:aq->aK->Prop}(c:dY k h (aa e env) (λv h'=>v= .none/\P v h'))(r:aU k A)
  (q:∀v h' a,P v h'->aF (MM) A (bg rest env) Q aE ⟨h',g,d,a,o⟩)(f:autoParam (FK env=aw) rf)(hs:autoParam (mB e X p.line env=bj aw) rf):
  aF (MM) A (bg (.Expr e p::rest) env) Q aE ⟨h,g,d,tk,o⟩:=
 de (wpAny_Expr (c A _ g d tk o r λv h' a b=>by obtain⟨rfl,b⟩:=b;exact q _ h' a b) f hs)
theorem ym(B:Bz z h)(R:Rz z h Y n on)(a:i<n)(s:j<n)(t:aO k h (aa b env) (.ref (Y.ad i)))(u:aO k h (aa e env) (.ref (Y.ad j)))(pl:dG Bool)
  (w:aa (.Call (.Attribute b "splice" l) [e] [] pos) env=(do
   let m<-aa b env
   fB l.atName
   let(f,first)<-fI [m] (ie m "splice" pl)
   dH pos f first (bG pos (aH [e] env)) (bZ pos (cf [] env))))(hk:autoParam (6<=k) fW)
  (p:autoParam (aH [e] env=(aw,aa e env)::aH [] env) rf):
  dY k h (aa (.Call (.Attribute b "splice" l) [e] [] pos) env) (λv h'=>v= .none/\Mx z h h'/\Rz z h' Y n (dU on i j)):=by
 exact WL (f:=404) B.bs t (R.ob i a) (R.di i a) rfl (kb u p) (λh' e x y g C D E F G=>(akg (B.keeps e) (R.keeps e) a s x y g C D E (F.le hk) λv H I c=>G v H I ⟨c.1,e.mx.trans c.2.1,c.2.2⟩)) (by nofun) (by nofun) (by nofun) (by nofun) pl w p rfl
theorem Im.bz(a:Im z h₀ L m h):Bz z h:=a.b0.mx a.keep
theorem oh(B:Bs h)(R:Rep h Y n on)(a:i<n)(x:aO k h (aa e env) (.ref (Y.ad i)))(hk:autoParam (7<=k) fW)(b:kB e "right_from_start" p env:=by with_unfolding_all rfl):aO k h (aa (.Attribute e "right_from_start" p) env) (.ref (Y.ad (aZ on i))):=
 cG x (aO.le (aiS B R a) hk) b
theorem Af(B:Bs h)(R:Rep h Y n on)(a:i<n)(x:aO k h (aa e env) (.ref (Y.ad i)))(hk:autoParam (7<=k) fW)(b:kB e "left_from_end" p env:=by with_unfolding_all rfl):aO k h (aa (.Attribute e "left_from_end" p) env) (.ref (Y.ad (gh on i))):=
 cG x (aO.le (afa B R a) hk) b
theorem Ec(B:Bs h)(R:Rep h Y n on)(a:i<n)(x:aO k h (aa e env) (.ref (Y.ad i)))(hk:autoParam (7<=k) fW)(b:kB e "right_from_end" p env:=by with_unfolding_all rfl):aO k h (aa (.Attribute e "right_from_end" p) env) (.ref (Y.ad (jz on i))):=
 cG x (aO.le (ajR B R a) hk) b
theorem Rep.iH{on:Nat->Nat}(R:Rep h Y n on)(a:i<n):aZ on i<n:=cw R.n4 (R.on _ (cw R.n4 a))
theorem Rep.OF{on:Nat->Nat}(R:Rep h Y n on)(a:i<n):gh on i<n:=cw R.n4 (R.on _ (bK R.n4 (cw R.n4 a)))
theorem Rep.ajS{on:Nat->Nat}(R:Rep h Y n on)(a:i<n):jz on i<n:=R.on _ (bK R.n4 a)
theorem Rep.bK{on:Nat->Nat}(R:Rep h Y n on)(a:i<n):U i<n:=bY.bK R.n4 a
theorem acA(B:Bz z h)(R:Rz z h Y n on)(b:i<n):
  eJ 8 h (.call (.ref 390) ⟨[.ref (Y.ad i)],[]⟩) (λv h'=>v= .none/\Mx z h h'/\Rz z h' Y n (del on i)):=by
 refine jj (k:=7) (fd:=EX) (body:=bodyOf EX) (binds:=[("self", .ref (Y.ad i))]) B.bs (tF _) rfl
  (λd d d d d d=>eR rfl) (by nofun) (by nofun) rfl rfl rfl ?_
 intro u a w g dr x C D j l;refine mS (lK (ym (Im.start B a).bz (R.keeps a.keep) b ((R.keeps a.keep).iH b) (ah (Im.start B a).ns) (oh (Im.start B a).bs (R.keeps a.keep).toRep b (ah (Im.start B a).ns)) _ rfl) j λv E G f=>?_) rfl;obtain⟨c,e⟩:=f;refine lK (ym ((Im.start B a).mx c rfl).bz e (R.bK b) (e.iH (R.bK b)) (fG ((Im.start B a).mx c rfl).bs e.toRep b (ah ((Im.start B a).mx c rfl).ns)) (oh ((Im.start B a).mx c rfl).bs e.toRep (R.bK b) (fG ((Im.start B a).mx c rfl).bs e.toRep b (ah ((Im.start B a).mx c rfl).ns))) _ rfl) j λv m p f=>?_;obtain⟨s,t⟩:=f;exact cA (l .none m p ⟨rfl,(((Im.start B a).mx c rfl).mx s rfl).keep,t⟩ .next rfl)
inductive nK(z h:aK)(Y:Lay)(n:Nat)(on:Nat->Nat)(i j:Nat)(v:aq)(h':aK):Prop
 |mk (a:Lay) (b:gy n Y a) (e:v= .ref (a.ad n)) (c:a.st n=Y.st (U i)) (d:a.st (n+2)=Y.st j) (M:Mx z h h') (R:Rz z h' a (n+4) (conn on n i j))
theorem acq(B:Bz z h)(R:Rz z h Y n on)(l:i<n)(u:j<n):
  eJ 9 h (.call (.ref 383) ⟨[.ref (Y.ad i), .ref (Y.ad j)],[]⟩) (nK z h Y n on i j):=by
 refine jj (k:=8) (fd:=EW) (body:=bodyOf EW) (binds:=[("self", .ref (Y.ad i)),("other", .ref (Y.ad j))]) B.bs (tF _) rfl
  (λd d d d d d=>eR rfl) (by nofun) (by nofun) rfl rfl rfl ?_
 intro a5 f A g dr tk o Q t J;have a:=Im.start B f;refine mS (lJ a.ns (acU a.bz (R.keeps f.keep).toRep l (ah a.ns) (gc a.bs (R.keeps f.keep).toRep l (ah a.ns)) (hQ a.bs (R.keeps f.keep).toRep u (ah a.ns)) (Mu a.bs (R.keeps f.keep).toRep l (ah a.ns)) _ rfl) t λw a6 a7 a8 p c E M=>?_) rfl;obtain⟨N,a1,rfl,a2,O,P⟩:=(R.keeps f.keep).grow a.bz.e p c (R.hs _) (R.hs _);have x:=P.set (a.ext p).ns rfl E;have b:=(a.ext p).set E M;have G:i<n+4:=o0 l;have S:j<n+4:=o0 u;have C:n<n+4:=mv;have T:=(a1.ad i l).symm;have p:=(a1.ad j u).symm;refine lK (ym b.bz x C (x.OF G) (ah b.ns) (Af b.bs x.toRep G (T▸ah b.ns)) _ rfl) t λw a9 b0 c=>?_;obtain⟨s,D⟩:=c;refine lK (ym (b.mx s rfl).bz D (D.bK C) S (fG (b.mx s rfl).bs D.toRep C (ah (b.mx s rfl).ns)) (p▸ah (b.mx s rfl).ns) _ rfl) t λw b1 b2 c=>?_;obtain⟨V,Z⟩:=c;have H:=(b.mx s rfl).mx V rfl;refine fL (h₀:=h) (L:=0) (m:=λd=>X) (ah H.ns) t λw a0 a4 I c=>?_;subst c;exact J _ a0 a4 ⟨N,a1,rfl,a2,O,(H.ext I).keep,Z.keeps I⟩ (.ret _) rfl
theorem DQ(k:Nat->aK->Prop)(x:k n₀ h)
  (B:∀n a e,k n a->aF (MM) A (isTrue u env (aa u env)) (λb q=>
   if b=af then aF (MM) A (bg body env) (λf l=>match f with
    | .next| .cont=>∃h' i c,l=⟨h',g,d,i,o⟩/\c<n/\k c h'
    | .brk=>aF (MM) A (bg rest env) Q aE l
    | .ret v=>Q (.ret v) l) aE q
   else aF (MM) A (bg rest env) Q aE q) aE ⟨a,g,d,e,o⟩):
  aF (MM) A (bg (.While u body [] pos::rest) env) Q aE ⟨h,g,d,tk,o⟩:=by
 refine de (wpAny_While (codeAny_whileLoop (λn w=>∃a e,w=⟨a,g,d,e,o⟩/\k n a) ?_ n₀ ⟨h,tk,rfl,x⟩));rintro n w ⟨a,e,rfl,C⟩;refine bJ (B n a e C) (λb q m=>?_) λr r s=>s.elim;cases b with
 |false=>simp only[if_false] at m⊢;exact cA m
 |true=>
  simp only[if_true] at m⊢;refine bJ m (λf l p=>?_) λr r s=>s.elim;cases f with
  |next=>obtain⟨h',i,c,rfl,t,j⟩:=p;exact⟨c,t,h',i,rfl,j⟩
  |cont=>obtain⟨h',i,c,rfl,t,j⟩:=p;exact⟨c,t,h',i,rfl,j⟩
  |brk=>exact p
  |ret v=>exact p
theorem abG(a:Nat->aK->Prop)(k:a n₀ h)
  (m:∀n b e (R:dM->aT->Prop),a n b->(∀h' f c,c<n->a c h'->R .next ⟨h',g,d,f,o⟩)->(∀s,aF (MM) A (bg rest env) Q aE s->R .brk s)->(∀v s,Q (.ret v) s->R (.ret v) s)->aF (MM) A (bg body env) R aE ⟨b,g,d,e,o⟩):
  aF (MM) A (bg (.While (.Constant (.bool af) q p2) body [] pos::rest) env) Q aE ⟨h,g,d,tk,o⟩:=
 DQ a k λn b e i=>FN (JA (gH ((if_pos rfl).mpr (m n b e _ i (λh' f c p i=>⟨h',f,c,rfl,p,i⟩) (λs x=>x) λv s x=>x))))
theorem LU(b:Nat->aK->Prop)(q:b n₀ h)
  (r:∀n e i (K:Bool->aT->Prop) (R:dM->aT->Prop),b n e->(∀h' c a,a<n->b a h'->R .next ⟨h',g,d,c,o⟩)->(∀s,aF (MM) A (bg rest env) Q aE s->R .brk s)->(∀v s,Q (.ret v) s->R (.ret v) s)->
   (∀s,aF (MM) A (bg body env) R aE s->K af s)->(∀s,aF (MM) A (bg rest env) Q aE s->K aw s)->aF (MM) A (isTrue p env (aa p env)) K aE ⟨e,g,d,i,o⟩):
  aF (MM) A (bg (.While p body [] pos::rest) env) Q aE ⟨h,g,d,tk,o⟩:=
 DQ b q λn e i k=>r n e i _ (λf m=>match f with
    | .next| .cont=>∃h' c a,m=⟨h',g,d,c,o⟩/\a<n/\b a h'
    | .brk=>aF (MM) A (bg rest env) Q aE m
    | .ret v=>Q (.ret v) m) k (λh' c a t k=>⟨h',c,a,rfl,t,k⟩) (λs x=>x) (λv s x=>x) (λs x=>(if_pos rfl).mpr x) λs x=>x
theorem mO[Decidable c](u:Ev k h (isTrue t env (aa t env)) (λb w=>b=decide c))(r:aU k A)
  (y:c->∀h' a (R:dM->aT->Prop),Ext h h'->(∀s,aF (MM) A (bg rest env) Q aE s->R .next s)->(∀f s,f≠ .next->Q f s->R f s)->aF (MM) A (bg v env) R aE ⟨h',g,d,a,o⟩)
  (n:¬c->∀h' a (R:dM->aT->Prop),Ext h h'->(∀s,aF (MM) A (bg rest env) Q aE s->R .next s)->(∀f s,f≠ .next->Q f s->R f s)->aF (MM) A (bg B env) R aE ⟨h',g,d,a,o⟩):
  aF (MM) A (bg (.If t v B p::rest) env) Q aE ⟨h,g,d,tk,o⟩:=by
 have j:∀f s,f≠ .next->Q f s->(λf l=>match f with| .next=>aF (MM) A (bg rest env) Q aE l|_=>Q f l) f s:=λf s hf C=>by cases f<;>first|exact absurd rfl hf|exact C
 refine oe (c:=decide c) u r λh' a m=>?_;by_cases i:c
 .rw[if_pos (decide_eq_true i)];exact y i h' a _ m (λs x=>x) j
 .rw[if_neg (λD=>i (of_decide_eq_true D))];exact n i h' a _ m (λs x=>x) j
noncomputable def yo(l:List cQ):Expr×List cQ:=(nj (l.getD 0 (.Pass ⟨0,0,0,0⟩)) 0,ou (l.getD 0 (.Pass ⟨0,0,0,0⟩)))
structure iS(h:aK)(q c:az):Prop where
 ex:h.get? q=W (sA (.ref 258) (.ref c))
theorem iS.keeps(x:iS h q c)(e:Ext h h'):iS h' q c:=⟨e _ _ x.ex⟩
theorem iS.mx(x:iS h q c)(e:Mx z h h'):iS h' q c:=⟨e _ _ (.inr (by rintro⟨a,c,l,r,s,e⟩;have:=congrArg pQ e;injection this with this;exact absurd this (by decide))) x.ex⟩
theorem EN(B:Bs h)(Lc:iS h q c)(J:aO k h (aa n env) (.ref q))(L:bN h M N O)(R:bN h pa S T)(V:bN h pb Y a0)(hc:bN h pc cx cy)
  (X1:aO k h (aa f env) (.ref M))(X2:aO k h (aa e env) (.ref pa))(X3:aO k h (aa b env) (.ref pb))(X4:aO k h (aa a env) (.ref pc))(hk:autoParam (9<=k) fW)
  (he:autoParam (aa (.Call n [f,e,b,a] [] pos) env=(do dH pos (<-aa n env) [] (bG pos (aH [f,e,b,a] env)) (bZ pos (cf [] env)))) rf)
  (x:autoParam (aH [f,e,b,a] env=(aw,aa f env)::aH [e,b,a] env) rf)(h2:autoParam (aH [e,b,a] env=(aw,aa e env)::aH [b,a] env) rf)(h3:autoParam (aH [b,a] env=(aw,aa b env)::aH [a] env) rf)(h4:autoParam (aH [a] env=(aw,aa a env)::aH [] env) rf)
  (a3:autoParam (((bG pos (aH [f,e,b,a] env)).any (·.1)||(bZ pos (cf [] env)).any (·.1.isNone))=aw) rf):
  aO k h (aa (.Call n [f,e,b,a] [] pos) env) (uS (FG N O S T Y a0 cx cy)):=by
 intro i Q a6 g j tk l p t qq;rw[he];refine aB (Ev.at J p t λy z u=>(Ad (P:=rB (kf pS) q 258 (.ref c)) a3 (xA (by nofun)) ?_));suffices C:aF (MM) i (yf (bG pos (aH [f,e,b,a] env))) (λD E=>rB (kf pS) q 258 (.ref c) E.heap/\aF (MM) i (eU (.ref q) ([]++D) []) Q aE E) aE ⟨y,g,j,z,l⟩ by rw[x] at C⊢;exact CK C
 refine Aq X1 X2 X3 X4 x h2 h3 h4 pos i _ y g j z l p (t.trans u) λD G H I w=>?_;subst w;have m:=(t.trans u).trans I;exact⟨⟨(Lc.keeps m).ex,(B.keeps m).k⟩,dq (xI (s:=⟨G,g,j,H,l⟩) (Lc.keeps m).ex (locate B L R V hc i _ G g j H l (p.le hk) m λv a4 a5 e5 w=>qq v a4 a5 ((u.trans I).trans e5) w))⟩
structure gY(h:aK)(Y:Lay)(n:Nat)(P:Nat->Pt):Prop where
 pt:∀i<n,i%2=0->∃a,Y.st i= .ref a/\bN h a (P i).1 (P i).2
theorem gY.keeps(d:gY h Y n P)(e:Ext h h'):gY h' Y n P:=⟨λf g j=>let⟨k,b,c⟩:=d.pt f g j;⟨k,b,c.keeps e⟩⟩
theorem gY.mx(d:gY h Y n P)(e:Mx z h h'):gY h' Y n P:=⟨λf g j=>let⟨k,b,c⟩:=d.pt f g j;⟨k,b,c.mx e⟩⟩
theorem Cc(B:Bs h)(e:((kf pS).lookup N).map pQ=W (.ref C)):∃o,h.get? N=W o/\o.cls≠ .type "tuple":=by obtain⟨o,h1,h2⟩:=kK.mp e;exact⟨o,B.k _ _ h1,by rw[h2];intro a;cases a⟩
theorem oz(B:Bs s.heap)(d:((kf pS).lookup N).map pQ=W (.ref C))(e:((kf pS).lookup a).map pQ=W (.ref D))(q:Q (.bool (decide (N=a))) s):
  aF (MM) A (fP .Is (.ref N) (.ref a)) Q aE s:=by
 by_cases b:N=a
 .subst b;rw[decide_eq_true rfl] at q;exact ak6 q
 .rw[decide_eq_false b] at q;obtain⟨o1,h1,h2⟩:=Cc B d;obtain⟨o2,f,_⟩:=Cc B e;exact ak5 b h1 f h2 q
theorem FP(B:Bs s.heap)(d:((kf pS).lookup N).map pQ=W (.ref C))(e:((kf pS).lookup a).map pQ=W (.ref D))(q:Q (.bool (decide (N≠a))) s):
  aF (MM) A (fP .IsNot (.ref N) (.ref a)) Q aE s:=by
 by_cases b:N=a
 .subst b;rw[decide_eq_false (λf=>f rfl)] at q;exact wpAny_isNot_ref_self q
 .rw[decide_eq_true b] at q;obtain⟨o1,h1,h2⟩:=Cc B d;obtain⟨o2,g,_⟩:=Cc B e;exact wpAny_isNot_ref_other b h1 g h2 q
theorem AQ(B:Bs s.heap)(q:Q (.bool (decide (c<0))) s):aF (MM) A (fP .Is (mw c) (.ref 172)) Q aE s:=by
 unfold mw;by_cases b:0<c
 .rw[if_pos b];refine oz (C:=159) (D:=159) B (by nofun) (by nofun) ?_;rw[decide_eq_false (Qt b)] at q;exact q
 .rw[if_neg b];by_cases a:c<0
  .rw[if_pos a];refine oz (C:=159) (D:=159) B (by nofun) (by nofun) ?_;rw[decide_eq_true a] at q;exact q
  .rw[if_neg a];refine oz (C:=159) (D:=159) B (by nofun) (by nofun) ?_;rw[decide_eq_false a] at q;exact q
theorem Ot(B:Bs s.heap)(q:Q (.bool (decide (¬c<0))) s):aF (MM) A (fP .IsNot (mw c) (.ref 172)) Q aE s:=by
 unfold mw;by_cases b:0<c
 .rw[if_pos b];refine FP (C:=159) (D:=159) B (by nofun) (by nofun) ?_;rw[decide_eq_true (Qt b)] at q;exact q
 .rw[if_neg b];by_cases a:c<0
  .rw[if_pos a];refine FP (C:=159) (D:=159) B (by nofun) (by nofun) ?_;rw[decide_eq_false (ahf a)] at q;exact q
  .rw[if_neg a];refine FP (C:=159) (D:=159) B (by nofun) (by nofun) ?_;rw[decide_eq_true a] at q;exact q
theorem Oq(B:Bs s.heap)(q:Q (.bool (decide (0<c))) s):aF (MM) A (fP .Is (mw c) (.ref 178)) Q aE s:=by
 unfold mw;by_cases a:0<c
 .rw[if_pos a];refine oz (C:=159) (D:=159) B (by nofun) (by nofun) ?_;rw[decide_eq_true a] at q;exact q
 .rw[if_neg a];rw[decide_eq_false a] at q;by_cases b:c<0
  .rw[if_pos b];exact oz (C:=159) (D:=159) B (by nofun) (by nofun) q
  .rw[if_neg b];exact oz (C:=159) (D:=159) B (by nofun) (by nofun) q
theorem FO(B:Bs s.heap)(q:Q (.bool (decide (0<c))) s):aF (MM) A (fP .Is (uS c) (.ref 201)) Q aE s:=by
 unfold uS;by_cases a:0<c
 .rw[if_pos a];refine oz (C:=159) (D:=159) B (by nofun) (by nofun) ?_;rw[decide_eq_true a] at q;exact q
 .rw[if_neg a];rw[decide_eq_false a] at q;by_cases b:c<0
  .rw[if_pos b];exact oz (C:=159) (D:=159) B (by nofun) (by nofun) q
  .rw[if_neg b];exact oz (C:=159) (D:=159) B (by nofun) (by nofun) q
theorem kc(m:aO k h (aa l env) v1)(Y:aO k h (aa r env) v2)
  (n:∀A (Q:aq->aT->Prop) (s:aT),Ext h s.heap->Q (.bool b) s->aF (MM) A (fP op v1 v2) Q aE s)(p:lO op r=aw:=by with_unfolding_all rfl):
  Ev k h (isTrue (.Compare l [op] [r] pos) env w) (λc z=>c=b):=by
 intro A Q x g dr y t f a u;refine ti (Ev.at m f a λB C d=>(Ev.at Y f (a.trans d) λi v j=>?_)) p;exact n A _ ⟨i,g,dr,v,t⟩ ((a.trans d).trans j) (gH (u _ i _ (d.trans j) rfl))
theorem rR(B:Bs h)(R:Rep h Y n on)(C:Ctx h Y.ctx)(i:gY h Y n P)(a:b<n)(l:b%2=0)(u:x<n)(v:x%2=0)(w:aO k h (aa j env) (.ref (Y.ad b)))(m:aO k h (aa c env) (Y.st x))(pl:dG Bool)
  (y:aa (.Call (.Attribute j "orientation_of" p) [c] [] pos) env=(do
   let s<-aa j env
   fB p.atName
   let(f,first)<-fI [s] (ie s "orientation_of" pl)
   dH pos f first (bG pos (aH [c] env)) (bZ pos (cf [] env))))(hk:autoParam (10<=k) fW)
  (t:autoParam (aH [c] env=(aw,aa c env)::aH [] env) rf):
  aO k h (aa (.Call (.Attribute j "orientation_of" p) [c] [] pos) env) (mw (dZ P b (U b) x)):=by
 obtain⟨O,s1,h1⟩:=i.pt b a l;obtain⟨Q,s2,h2⟩:=i.pt (U b) (R.bK a) (by rw[eF];exact l);obtain⟨S,s3,z⟩:=i.pt x u v;rw[s3] at m;refine Ng (f:=397) B w (R.ob b a) (R.di b a) rfl (kb m t) (λV D=>?_) (by nofun) (by nofun) (by nofun) (by nofun) pl y t rfl;subst D;intro E F G g H I J L M N;exact aiU B R C a s1 s2 h1 h2 z E F G g H I J (L.le hk) M N
noncomputable def gD(Y:Lay):Option Nat->aq
 |none=> .none
 |some a=> .ref (Y.ad a)
theorem xe(y:Ev k h (isTrue a env (aa a env)) (λv z=>v=c1))(Y:c1=af->Ev k h (isTrue b env (aa b env)) (λv z=>v=c2)):
  Ev k h (isTrue (.BoolOp .And [a,b] pos) env D) (λv z=>v=(c1&&c2)):=by
 intro j E B g l C m n p f;refine isTrue_and (y j _ B g l C m n p λv s t c i=>?_);subst i;cases v with
 |false=>exact f _ s t c rfl
 |true=>
  refine isTrue_and (Y rfl j _ s g l t m n (p.trans c) λv u w x i=>?_);subst i;cases v with
  |false=>exact f _ u w (c.trans x) rfl
  |true=>exact isTrue_and_nil (f _ u w (c.trans x) rfl)
theorem akC(B:Bs h)(y:aO k h (aa a env) (.ref x))
  (z:h.get? x=W (dy C D))(E:h.get? D=W (gQ l n))(hl:uK name l=W X)(F:∀h',Ext h h'->eJ k h' (.call (.ref f) ⟨[.ref x],[]⟩) R)
  (m:xY (kf pS) C name=af)(hf:jK (kf pS) (.ref C) name=W (W (.ref f)))(G:isFn (kf pS) (.ref f)=af)(hk:xy (kf pS) (.ref f)=af)
  (pl:dG Bool)(H:aa (.Call (.Attribute a name p) [] [] pos) env=(do
   let t<-aa a env
   fB p.atName
   let(f,first)<-fI [t] (ie t name pl)
   dH pos f first (bG pos (aH [] env)) (bZ pos (cf [] env)))):
  dY k h (aa (.Call (.Attribute a name p) [] [] pos) env) R:=by
 intro I O g b P c u J;refine kT (Ev.at y u Ext.rfl λe i j=>?_) H;have w:=B.keeps j;refine OX (s:=⟨e,g,b,i,c⟩) w.k (qv j z E) (qM m).1 (qM m).2 hf (beq_iff_eq.mp G) (by show(FZ name (gQ l n)).map _=_;simp only[OK,hl];rfl) ?_;exact callWith_K0 (s:=⟨e,g,b,i,c⟩) w.k hk (dq (F e j I _ g b i c u λL M N hr=>J L M N hr))
theorem WJ(B:Bz z h)(R:Rz z h Y n on)(a:i<n)(p:aO k h (aa b env) (.ref (Y.ad i)))(pl:dG Bool)
  (s:aa (.Call (.Attribute b "delete" l) [] [] pos) env=(do
   let m<-aa b env
   fB l.atName
   let(f,first)<-fI [m] (ie m "delete" pl)
   dH pos f first (bG pos (aH [] env)) (bZ pos (cf [] env))))(hk:autoParam (8<=k) fW):
  dY k h (aa (.Call (.Attribute b "delete" l) [] [] pos) env) (λv h'=>v= .none/\Mx z h h'/\Rz z h' Y n (del on i)):=by
 exact akC (f:=390) B.bs p (R.ob i a) (R.di i a) rfl (λh' c t u g w x y C D=>(acA (B.keeps c) (R.keeps c) a t u g w x y (C.le hk) λv E F j=>D v E F ⟨j.1,c.mx.trans j.2.1,j.2.2⟩)) (by nofun) (by nofun) (by nofun) (by nofun) pl s
theorem ML(c:∀i<n,on i<n)(a:n%4=0)(b:i<n):∀x<n,del on i x<n:=by have f:=cw a (c _ (cw a b));have d:=ye c a b f;have e:=bK a b;exact ye d a e (cw a (d _ (cw a e)))
structure LS(z h₀:aK)(L:az)(m:aA->Option aq)(Y:Lay)(n:Nat)(on:Nat->Nat)(P:Nat->Pt)(b q r:Nat)(h:aK):Prop where
 I:Im z h₀ L m h
 R:Rz z h Y n on
 C0:Ctx h₀ Y.ctx
 T0:gY h₀ Y n P
 L0:iS h₀ q Y.ctx
 hb:b<n
 eb:b%2=0
 hr:r<n
 er:r%2=0
 pa:eI n on
 m1:m "result"=W (.ref (Y.ad r))
 m2:m "base_edge"=W (.ref (Y.ad b))
 m3:m "point_in_circle_locator"=W (.ref q)
 m4:m "_context"=X
theorem LS.ext(S:LS z h₀ L m Y n on P b q r h)(e:Ext h h'):LS z h₀ L m Y n on P b q r h':={S with I:=S.I.ext e,R:=S.R.keeps e}
theorem ae8(e:kj P b f on r=W (on',a)):∃c,f=c+1/\((oD P b on r=af/\kj P b c (del on r) (on r)=W (on',a))\/(oD P b on r=aw/\on=on'/\r=a)):=by
 cases f with
 |zero=>cases e
 |succ f=>
  dsimp only[kj] at e;split at e
  .exact⟨f,rfl, .inl ⟨‹_›,e⟩⟩
  .cases e;exact⟨f,rfl, .inr ⟨pG.mpr ‹_›,rfl,rfl⟩⟩
theorem OA(e:kS P b f on=W (on',d)):(¬dZ P b (U b) (U (on (U b)))<0->on=on'/\d=X)/\(dZ P b (U b) (U (on (U b)))<0->∃g,d=W g/\kj P b f on (on (U b))=W (on',g)):=by
 unfold kS at e;split at e
 .obtain⟨⟨k,c⟩,el,i⟩:=kK.mp e;cases i;exact⟨λh=>absurd ‹_› h,λj=>⟨_,rfl,el⟩⟩
 .cases e;exact⟨λj=>⟨rfl,rfl⟩,λh=>absurd h ‹_›⟩
noncomputable def lP:Expr×List cQ:=yo ((bodyOf ot).drop 2)
theorem ae2(S:LS z h₀ L m Y n on P b q r h):Ev 11 h (isTrue lP.1 (aY ot L 527) (aa lP.1 (aY ot L 527))) (λv y=>v=oD P b on r):=by
 have a:=S.T0.mx S.I.keep;obtain⟨i,s1,p1⟩:=a.pt (U (on r)) (S.R.bK (S.R.on r S.hr)) (xO S.er (S.pa r S.hr) (eF (on r)));obtain⟨j,s2,p2⟩:=a.pt (U b) (S.R.bK S.hb) (o1 S.eb (eF b));obtain⟨l,s3,p3⟩:=a.pt b S.hb S.eb;obtain⟨o,s4,p4⟩:=a.pt (U r) (S.R.bK S.hr) (o1 S.er (eF r));exact xe (c1:=decide (0<je P (U (on r)) (U b) b (U r))) (c2:=decide (dZ P b (U b) (U (on r))<0)) (k:=11)
  (kc (EN S.I.bs (S.L0.mx S.I.keep) (ah S.I.ns S.m3) p1 p2 p3 p4 (s1▸gc S.I.bs S.R.toRep (S.R.on r S.hr) (iX S.I.bs S.R.toRep S.hr (ah S.I.ns S.m1))) (s2▸gc S.I.bs S.R.toRep S.hb (ah S.I.ns S.m2)) (s3▸hQ S.I.bs S.R.toRep S.hb (ah S.I.ns S.m2)) (s4▸gc S.I.bs S.R.toRep S.hr (ah S.I.ns S.m1)))
   (cG (cB S.I.bs (v:= .ref 205) (by nofun)) (iD S.I.bs (v:= .ref 201) (by nofun) (by nofun) rfl)) λd f g c q=>FO (S.I.bs.keeps c) q)
  (λy=>kc (rR S.I.bs S.R.toRep (S.C0.mx S.I.keep) a S.hb S.eb (S.R.bK (S.R.on r S.hr)) (xO S.er (S.pa r S.hr) (eF (on r))) (ah S.I.ns S.m2) (gc S.I.bs S.R.toRep (S.R.on r S.hr) (iX S.I.bs S.R.toRep S.hr (ah S.I.ns S.m1))) _ rfl)
   (cG (cB S.I.bs (v:= .ref 182) (by nofun)) (iD S.I.bs (v:= .ref 172) (by nofun) (by nofun) rfl)) λd f g c q=>AQ (S.I.bs.keeps c) q)
theorem aeY(S:LS z h₀ L m Y n on P b q r h)(c:aU 11 A)
  (f:∀i h' j,LS z h₀ L i Y n (del on r) P b q (on r) h'->R .next ⟨h',g,d,j,o⟩):
  aF (MM) A (bg lP.2 (aY ot L 527)) R aE ⟨h,g,d,tk,o⟩:=by
 refine qt S.I S.R S.m4 (iX S.I.bs S.R.toRep S.hr (ah S.I.ns S.m1)) c λu w a k=>lK (WJ a.bz k S.hr (ah a.ns S.m1) _ rfl) c λx y B e=>?_;exact qt (a.mx e.1 S.m4) e.2 S.m4 (ah (a.mx e.1 S.m4).ns rfl) c λl p s t=>cA (f _ l p ⟨s,t,S.C0,S.T0,S.L0,S.hb,S.eb,S.R.on r S.hr,o1 S.er (S.pa r S.hr),S.pa.del S.R.on S.R.n4 S.hr,rfl,S.m2,S.m3,S.m4⟩)
inductive LT(z h:aK)(L:az)(Y:Lay)(n:Nat)(P:Nat->Pt)(b q:Nat)(on':Nat->Nat)(a:Nat)(f:Nat)(h':aK):Prop
 |mk (m:aA->Option aq) (on:Nat->Nat) (r:Nat) (e:kj P b f on r=W (on',a)) (c:LS z h L m Y n on P b q r h')
theorem aeZ(S:LS z h₀ L m Y n on P b q r h)(j:aU 11 A)(e:kj P b f on r=W (on',s))
  (u:∀h' w,Mx z h₀ h'->Rz z h' Y n on'->Q (.ret (.ref (Y.ad s))) ⟨h',g,d,w,o⟩):
  aF (MM) A (bg ((bodyOf ot).drop 2) (aY ot L 527)) Q aE ⟨h,g,d,tk,o⟩:=by
 refine LU (LT z h₀ L Y n P b q on' s) (n₀:=f) ⟨m,on,r,e,S⟩ ?_;rintro N x B O T ⟨m,V,Z,e1,S⟩ C _ rt kt kf;obtain⟨D,hf,a⟩:=ae8 e1;refine ae2 S A _ x g d B o j Ext.rfl λE a0 a3 F i=>?_;have c:=S.ext F;rcases a with⟨k,a⟩|⟨k,a,G⟩
 .simp only[i,k];exact kt _ (aeY c j λH l p J=>C l p D (hf▸pN _) ⟨H,_,_,a,J⟩)
 .simp only[i,k];exact kf _ (fL (h₀:=h) (L:=0) (m:=λy=>X) (ah c.I.ns c.m1) j λE l p t i=>i▸G▸u l p (c.I.ext t).keep (a▸c.R.keeps t))
structure zj(z h:aK)(Y:Lay)(n:Nat)(on:Nat->Nat)(a:Option Nat)(v:aq)(h':aK):Prop where
 e:v=gD Y a
 M:Mx z h h'
 R:Rz z h' Y n on
theorem ae1(B:Bz z h)(R:Rz z h Y n on)(C:Ctx h Y.ctx)(G:gY h Y n P)(Lc:iS h q Y.ctx)(l:b<n)(m:b%2=0)(pa:eI n on)(e:kS P b f on=W (on',L)):
  eJ 12 h (.call (.ref 527) ⟨[.ref (Y.ad b), .ref q],[]⟩) (zj z h Y n on' L):=by
 refine jj (k:=11) (fd:=ot) (body:=bodyOf ot) (binds:=[("base_edge", .ref (Y.ad b)),("point_in_circle_locator", .ref q)]) B.bs (tF _) rfl
  (λd d d d d d=>eR rfl) (by nofun) (by nofun) rfl rfl rfl ?_
 intro a3 i N g dr tk o O u H;have p:=R.bK l;have w:=R.on _ p;refine qt (Im.start B i) (R.keeps i.keep) rfl (iX (Im.start B i).bs (R.keeps i.keep).toRep p (fG (Im.start B i).bs (R.keeps i.keep).toRep l (ah (Im.start B i).ns))) u λa4 a5 a t=>?_;refine mO (c:=¬dZ P b (U b) (U (on (U b)))<0) (kc (rR a.bs t.toRep (C.mx a.keep) (G.mx a.keep) l m (R.bK w) (ahu m (pa _ p) (eF b) (eF (on (U b)))) (ah a.ns) (gc a.bs t.toRep w (ah a.ns)) _ rfl)
  (cG (cB a.bs (v:= .ref 182) (by nofun)) (iD a.bs (v:= .ref 172) (by nofun) (by nofun) rfl)) λN O s e q=>Ot (a.bs.keeps e) q) u (λx I J D j d S=>?_) λx I J D j V d=>?_
 .obtain⟨E,e2⟩:=(OA e).1 x;exact de (qY (WX (S _ _ (λh=>nomatch h) (H .none I J ⟨e2▸rfl,(a.ext j).keep,E▸t.keeps j⟩ (.ret _) rfl))))
 .obtain⟨r2,E,el⟩:=(OA e).2 (JB.mp x);exact cA (V _ (aeZ ⟨a.ext j,t.keeps j,C,G,Lc,l,m,w,vi m (pa _ p) (eF b),pa,rfl,rfl,rfl,rfl⟩ u el λZ a0 M D=>H _ Z a0 ⟨E▸rfl,M,D⟩ (.ret _) rfl))
theorem ajK(e:ku P b f on r=W (on',a)):∃c,f=c+1/\((oQ P b on r=af/\ku P b c (del on r) (aZ on r)=W (on',a))\/(oQ P b on r=aw/\on=on'/\r=a)):=by
 cases f with
 |zero=>cases e
 |succ f=>
  dsimp only[ku] at e;split at e
  .exact⟨f,rfl, .inl ⟨‹_›,e⟩⟩
  .cases e;exact⟨f,rfl, .inr ⟨pG.mpr ‹_›,rfl,rfl⟩⟩
theorem VW(e:kW P b f on=W (on',d)):(¬dZ P b (U b) (U (aZ on b))<0->on=on'/\d=X)/\(dZ P b (U b) (U (aZ on b))<0->∃g,d=W g/\ku P b f on (aZ on b)=W (on',g)):=by
 unfold kW at e;split at e
 .obtain⟨⟨k,c⟩,el,i⟩:=kK.mp e;cases i;exact⟨λh=>absurd ‹_› h,λj=>⟨_,rfl,el⟩⟩
 .cases e;exact⟨λj=>⟨rfl,rfl⟩,λh=>absurd h ‹_›⟩
noncomputable def rP:Expr×List cQ:=yo ((bodyOf om).drop 2)
theorem ajJ(S:LS z h₀ L m Y n on P b q r h):Ev 11 h (isTrue rP.1 (aY om L 534) (aa rP.1 (aY om L 534))) (λv y=>v=oQ P b on r):=by
 have a:=S.T0.mx S.I.keep;obtain⟨i,s1,p1⟩:=a.pt (U (aZ on r)) (S.R.bK (S.R.iH S.hr)) (xO S.er (iI S.pa S.R.n4 S.hr) (eF (aZ on r)));obtain⟨j,s2,p2⟩:=a.pt (U b) (S.R.bK S.hb) (o1 S.eb (eF b));obtain⟨l,s3,p3⟩:=a.pt b S.hb S.eb;obtain⟨o,s4,p4⟩:=a.pt (U r) (S.R.bK S.hr) (o1 S.er (eF r));exact xe (c1:=decide (0<je P (U (aZ on r)) (U b) b (U r))) (c2:=decide (dZ P b (U b) (U (aZ on r))<0)) (k:=11)
  (kc (EN S.I.bs (S.L0.mx S.I.keep) (ah S.I.ns S.m3) p1 p2 p3 p4 (s1▸gc S.I.bs S.R.toRep (S.R.iH S.hr) (oh S.I.bs S.R.toRep S.hr (ah S.I.ns S.m1))) (s2▸gc S.I.bs S.R.toRep S.hb (ah S.I.ns S.m2)) (s3▸hQ S.I.bs S.R.toRep S.hb (ah S.I.ns S.m2)) (s4▸gc S.I.bs S.R.toRep S.hr (ah S.I.ns S.m1)))
   (cG (cB S.I.bs (v:= .ref 205) (by nofun)) (iD S.I.bs (v:= .ref 201) (by nofun) (by nofun) rfl)) λd f g c q=>FO (S.I.bs.keeps c) q)
  (λy=>kc (rR S.I.bs S.R.toRep (S.C0.mx S.I.keep) a S.hb S.eb (S.R.bK (S.R.iH S.hr)) (xO S.er (iI S.pa S.R.n4 S.hr) (eF (aZ on r))) (ah S.I.ns S.m2) (gc S.I.bs S.R.toRep (S.R.iH S.hr) (oh S.I.bs S.R.toRep S.hr (ah S.I.ns S.m1))) _ rfl)
   (cG (cB S.I.bs (v:= .ref 182) (by nofun)) (iD S.I.bs (v:= .ref 172) (by nofun) (by nofun) rfl)) λd f g c q=>AQ (S.I.bs.keeps c) q)
theorem ajF(S:LS z h₀ L m Y n on P b q r h)(c:aU 11 A)
  (f:∀i h' j,LS z h₀ L i Y n (del on r) P b q (aZ on r) h'->R .next ⟨h',g,d,j,o⟩):
  aF (MM) A (bg rP.2 (aY om L 534)) R aE ⟨h,g,d,tk,o⟩:=by
 refine qt S.I S.R S.m4 (oh S.I.bs S.R.toRep S.hr (ah S.I.ns S.m1)) c λu w a k=>lK (WJ a.bz k S.hr (ah a.ns S.m1) _ rfl) c λx y B e=>?_;exact qt (a.mx e.1 S.m4) e.2 S.m4 (ah (a.mx e.1 S.m4).ns rfl) c λl p s t=>cA (f _ l p ⟨s,t,S.C0,S.T0,S.L0,S.hb,S.eb,S.R.iH S.hr,o1 S.er (iI S.pa S.R.n4 S.hr),S.pa.del S.R.on S.R.n4 S.hr,rfl,S.m2,S.m3,S.m4⟩)
inductive RT(z h:aK)(L:az)(Y:Lay)(n:Nat)(P:Nat->Pt)(b q:Nat)(on':Nat->Nat)(a:Nat)(f:Nat)(h':aK):Prop
 |mk (m:aA->Option aq) (on:Nat->Nat) (r:Nat) (e:ku P b f on r=W (on',a)) (c:LS z h L m Y n on P b q r h')
theorem ajG(S:LS z h₀ L m Y n on P b q r h)(j:aU 11 A)(e:ku P b f on r=W (on',s))
  (u:∀h' w,Mx z h₀ h'->Rz z h' Y n on'->Q (.ret (.ref (Y.ad s))) ⟨h',g,d,w,o⟩):
  aF (MM) A (bg ((bodyOf om).drop 2) (aY om L 534)) Q aE ⟨h,g,d,tk,o⟩:=by
 refine LU (RT z h₀ L Y n P b q on' s) (n₀:=f) ⟨m,on,r,e,S⟩ ?_;rintro N x B O T ⟨m,V,Z,e1,S⟩ C _ rt kt kf;obtain⟨D,hf,a⟩:=ajK e1;refine ajJ S A _ x g d B o j Ext.rfl λE a0 a3 F i=>?_;have c:=S.ext F;rcases a with⟨k,a⟩|⟨k,a,G⟩
 .simp only[i,k];exact kt _ (ajF c j λH l p J=>C l p D (hf▸pN _) ⟨H,_,_,a,J⟩)
 .simp only[i,k];exact kf _ (fL (h₀:=h) (L:=0) (m:=λy=>X) (ah c.I.ns c.m1) j λE l p t i=>i▸G▸u l p (c.I.ext t).keep (a▸c.R.keeps t))
theorem ajI(B:Bz z h)(R:Rz z h Y n on)(C:Ctx h Y.ctx)(E:gY h Y n P)(Lc:iS h q Y.ctx)(i:b<n)(m:b%2=0)(pa:eI n on)(e:kW P b f on=W (on',L)):
  eJ 12 h (.call (.ref 534) ⟨[.ref (Y.ad b), .ref q],[]⟩) (zj z h Y n on' L):=by
 refine jj (k:=11) (fd:=om) (body:=bodyOf om) (binds:=[("base_edge", .ref (Y.ad b)),("point_in_circle_locator", .ref q)]) B.bs (tF _) rfl
  (λd d d d d d=>eR rfl) (by nofun) (by nofun) rfl rfl rfl ?_
 intro a3 j N g dr tk o O t G;have u:=R.iH i;have H:=iI pa R.n4 i;refine qt (Im.start B j) (R.keeps j.keep) rfl (oh (Im.start B j).bs (R.keeps j.keep).toRep i (ah (Im.start B j).ns)) t λa4 a5 a p=>?_;refine mO (c:=¬dZ P b (U b) (U (aZ on b))<0) (kc (rR a.bs p.toRep (C.mx a.keep) (E.mx a.keep) i m (R.bK u) (xO m H (eF (aZ on b))) (ah a.ns) (gc a.bs p.toRep u (ah a.ns)) _ rfl)
  (cG (cB a.bs (v:= .ref 182) (by nofun)) (iD a.bs (v:= .ref 172) (by nofun) (by nofun) rfl)) λN O s e q=>Ot (a.bs.keeps e) q) t (λw I J x l d S=>?_) λw I J x l V d=>?_
 .obtain⟨D,e2⟩:=(VW e).1 w;exact de (qY (WX (S _ _ (λh=>nomatch h) (G .none I J ⟨e2▸rfl,(a.ext l).keep,D▸p.keeps l⟩ (.ret _) rfl))))
 .obtain⟨r2,D,el⟩:=(VW e).2 (JB.mp w);exact cA (V _ (ajG ⟨a.ext l,p.keeps l,C,E,Lc,i,m,u,o1 m H,pa,rfl,rfl,rfl,rfl⟩ t el λZ a0 M x=>G _ Z a0 ⟨D▸rfl,M,x⟩ (.ret _) rfl))
theorem aei(R:Rep s.heap Y n on)(g:∀x,a=W x->x<n)(h:∀x,b=W x->x<n)(q:Q (.bool (decide (a=b))) s):aF (MM) A (fP .Is (gD Y a) (gD Y b)) Q aE s:=by
 cases a with
 |none=>cases b with
  |none=>exact wpAny_is_self rfl q
  |some e=>exact HQ rfl (by intro d;cases d) q
 |some x=>cases b with
  |none=>exact HQ rfl (by intro d;cases d) q
  |some e=>
   by_cases f:x=e
   .subst f;rw[decide_eq_true rfl] at q;exact ak6 q
   .rw[decide_eq_false (by intro d;cases d;exact f rfl)] at q;exact ak5 (λd=>f (R.ia _ _ (g x rfl) (h e rfl) d)) (R.ob x (g x rfl)) (R.ob e (h e rfl)) (by intro d;cases d) q
theorem is_none(q:Q (.bool a.isNone) s):aF (MM) A (fP .Is (gD Y a) .none) Q aE s:=by
 cases a with
 |none=>exact wpAny_is_self rfl q
 |some c=>exact HQ rfl (by intro b;cases b) q
theorem aek(q:Q (.bool a.isSome) s):aF (MM) A (fP .IsNot (gD Y a) .none) Q aE s:=by
 cases a with
 |none=>exact wpAny_isNot_self rfl q
 |some c=>exact wpAny_isNot_other rfl (by intro b;cases b) q
theorem Nh:aO k h (aa (.Constant .none f pos) env) .none:=λi j a g l b m n p c=>YG (c _ a b Ext.rfl rfl)
theorem acS(R:Rep h Y n on)(B:∀x,a=W x->x<n)(C:∀x,b=W x->x<n)(D:aO k h (aa l env) (gD Y a))(E:aO k h (aa r env) (gD Y b))
  (F:isTrue (.Compare l [.Is, .Is] [r, .Constant .none i cp] pos) env G=(do testChain pos (<-aa l env) [.Is, .Is] [aa r env,aa (.Constant .none i cp) env]):=by with_unfolding_all rfl):
  Ev k h (isTrue (.Compare l [.Is, .Is] [r, .Constant .none i cp] pos) env G) (λc y=>c=(decide (a=b)&&b.isNone)):=by
 intro L M N g H O I v m w;rw[F];refine aB (Ev.at D v m λP S j=>?_);show aF _ _ (do
  let f<-fI [gD Y a] (aa r env)
  fB pos
  let c<-fI [gD Y a,f] (fP .Is (gD Y a) f)
  release [gD Y a,f] [c]
  if<-fI [c,f] (HM c) then testChain pos f [.Is] [aa (.Constant .none i cp) env] else bj aw) _ _ _
 refine aB (eH (Ev.at E v (m.trans j) λp t u=>aB (gG (aB (eH (aei (s:=⟨p,g,H,t,I⟩) (R.keeps ((m.trans j).trans u)) B C (aB (wpAny_release (aB (eH (gH ?_)))))))))));by_cases c:a=b
 .rw[if_pos (decide_eq_true c)];show aF _ _ (do
   let f<-fI [gD Y b] (aa (.Constant .none i cp) env)
   fB pos
   let c<-vu [gD Y b,f] (fP .Is (gD Y b) f)
   fI [c] (HM c)) _ _ _
  refine aB (eH (YG (aB (gG (aB (wpAny_operateT (is_none (Y:=Y) (a:=b) (eH (gH (w _ p t (j.trans u) ?_))))))))));simp only[decide_eq_true c,Bool.true_and]
 .refine cW (decide_eq_false (λJ=>c (of_decide_eq_true J))) ?_;exact aV (w _ p t (j.trans u) (by simp only[decide_eq_false c];rfl))
theorem vH(B:Bs h)(p:aO k h (aa b env) (.ref f))(Y:gT k h env (e::rest) (λi=>i=vs))(s:∀h',Ext h h'->eJ k h' (.call (.ref f) ⟨vs,[]⟩) P)
  (hk:xy (kf pS) (.ref f)=af)(t:autoParam (aa (.Call b (e::rest) [] pos) env=(do dH pos (<-aa b env) [] (bG pos (aH (e::rest) env)) (bZ pos (cf [] env)))) rf)
  (u:autoParam (aH (e::rest) env=(aw,aa e env)::aH rest env) rf)(w:autoParam ((bG pos (aH rest env)).any (·.1)=aw) rf):dY k h (aa (.Call b (e::rest) [] pos) env) P:=by
 intro j I g l J m c x;rw[t];refine aB (Ev.at p c Ext.rfl λy z a=>(mQ (B.keeps a).k hk ?_ u w));refine Y pos j _ y g l z m c a λi C D n E=>⟨(B.keeps (a.trans n)).k,dq ?_⟩;subst E;exact s C (a.trans n) j _ g l D m c λF G H hr=>x F G H hr
theorem LJ{m:aA->Option aq}{Q:dM->aT->Prop}{P1:aq->aK->Prop}{P2:aq->aK->aq->aK->Prop}
  (D:dY k h (aa e env) P1)(Y:∀v1 a,P1 v1 a->dY k a (aa c env) (P2 v1 a))(N:∀v1 a v2 f,P1 v1 a->P2 v1 a v2 f->f.Ns env.locals m)(r:aU k A)
  (q:∀v1 a v2 f p j E,P1 v1 a->P2 v1 a v2 f->Ext f p->dE env.locals p j->j.Ns env.locals (λz=>if z=x then W v1 else if z=y then W v2 else m z)->aF (MM) A (bg rest env) Q aE ⟨j,g,d,E,o⟩)
  (F:autoParam (aH [e,c] env=(aw,aa e env)::aH [c] env) rf)(G:autoParam (aH [c] env=(aw,aa c env)::aH [] env) rf)
  (hs:autoParam (yj [.Tuple s t u] (.Tuple [e,c] v p2) pos.line env=bj aw) rf)
  (H:autoParam (yi [.Tuple s t u] (.Tuple [e,c] v p2) env=bj (W [x,y])) rf)(I:autoParam (env.kindOf x=W .local) rf)(J:autoParam (env.kindOf y=W .local) rf)
  (w:autoParam ((env.scope.kind== .class||(env.scope.kind== .module&&env.locals !=env.globals))=aw) rf):
  aF (MM) A (bg (.Assign [.Tuple s t u] (.Tuple [e,c] v p2) pos::rest) env) Q aE ⟨h,g,d,tk,o⟩:=by
 refine de (Jr (zW (cF (D A _ g d tk o r λv1 l L n=>?_) F)) hs H);refine cF (Y v1 l n A _ g d L o r λv2 i V p2=>(eQ (yr ?_ (show 2<=fv by decide)))) G;have B:Ext i (i.push {cls:= .type "tuple",data:= .seq [v1,v2].toArray}):=λZ o x=>eP _ x;refine Ce r.h (CW i [v1,v2].toArray) rfl λM C=>gP (mP (fw J ((N v1 l v2 i n p2).keeps (B.trans C)) (λa0 O P=>?_) w));exact gP (mP (fw I O (λR S T=>(rN (q v1 l v2 i M R _ n p2 (B.trans C) (vC P T) S))) w))
set_option tactic.hygienic true in
theorem eI.conn(p:eI n on)(g:∀i<n,on i<n)(k:n%4=0)(c:i<n)(l:j<n)(m:i%2=0)(o:j%2=0):eI (n+4) (conn on n i j):=by
 have b:∀x,x<n+4->cS on n x<n+4:=by
  intro x d;unfold cS;split
  .rename_i h;have:=g x h;exact o0 this
  .exact GY
 have e:eI (n+4) (cS on n):=by
  intro x d;unfold cS;split
  .rename_i h;exact p x h
  .exact GZ d ‹_›
 have a:(n+4)%4=0:=oK k;have f:=cw a (b _ (bK a (cw a (o0 c))));have o1:U n<n+4:=by unfold U;exact ag4
 exact(e.dU b a (i:=n) (j:=gh (cS on n) i) (mv) f (ag3 m a (OG e a (o0 c)))).dU (ye b a (i:=n) (j:=gh (cS on n) i) (mv) f) a o1 (o0 l) (ag5 o a (eF n))
structure Gx(z h:aK)(Y:Lay)(q:Qd):Prop where
 R:Rz z h Y q.n q.on
 T:gY h Y q.n q.P
 C:Ctx h Y.ctx
 pa:eI q.n q.on
theorem Gx.keeps(G:Gx z h Y q)(e:Ext h h'):Gx z h' Y q:=⟨G.R.keeps e,G.T.keeps e,G.C.keeps e,G.pa⟩
theorem tc(B:Bz z h)(G:Gx z h Y q)(a:i<q.n)(p:j<q.n)(s:aO k h (aa b env) (.ref (Y.ad i)))(t:aO k h (aa e env) (.ref (Y.ad j)))(pl:dG Bool)
  (u:aa (.Call (.Attribute b "connect" c) [e] [] pos) env=(do
   let l<-aa b env
   fB c.atName
   let(f,first)<-fI [l] (ie l "connect" pl)
   dH pos f first (bG pos (aH [e] env)) (bZ pos (cf [] env))))(hk:autoParam (9<=k) fW)
  (m:autoParam (aH [e] env=(aw,aa e env)::aH [] env) rf):
  dY k h (aa (.Call (.Attribute b "connect" c) [e] [] pos) env) (nK z h Y q.n q.on i j):=by
 refine WL (f:=383) B.bs s (G.R.ob i a) (G.R.di i a) rfl (kb t m) (λS e w x g y C D E F=>?_) (by nofun) (by nofun) (by nofun) (by nofun) pl u m rfl;exact acq (B.keeps e) (G.R.keeps e) a p w x g y C D (E.le hk) λH I J L=>by obtain⟨M,a1,a2,N,O,P,Q⟩:=L;exact F H I J ⟨M,a1,a2,N,O,e.mx.trans P,Q⟩
theorem Gx.conn(G:Gx z h Y q)(l:i<q.n)(m:j<q.n)(o:i%2=0)(p:j%2=0)(c:nK z h Y q.n q.on i j v h'):
  ∃d,gy q.n Y d/\v= .ref (d.ad q.n)/\Mx z h h'/\Gx z h' d (q.conn i j):=by
 obtain⟨d,a1,a2,u,w,e,y⟩:=c;have r:=G.R.n4;refine⟨d,a1,a2,e,⟨y,⟨λx k s=>?_⟩,by simp only[a1.ctx];exact G.C.mx e,G.pa.conn G.R.on r l m o p⟩⟩;replace k:x<q.n+4:=k;show∃b,d.st x= .ref b/\bN h' b (bu q.P q.n (q.P (U i)) (q.P j) x).1 (bu q.P q.n (q.P (U i)) (q.P j) x).2;unfold bu;by_cases f:x=q.n
 .rw[if_pos f,f,u];obtain⟨b,b1,b2⟩:=G.T.pt (U i) (G.R.bK l) (by rw[eF];exact o);exact⟨b,b1,b2.mx e⟩
 .rw[if_neg f];by_cases g:x=q.n+2
  .rw[if_pos g,g,w];obtain⟨b,b1,b2⟩:=G.T.pt j m p;exact⟨b,b1,b2.mx e⟩
  .rw[if_neg g];have t:x<q.n:=ag6 r s k f g;rw[a1.st x t];obtain⟨b,b1,b2⟩:=G.T.pt x t s;exact⟨b,b1,b2.mx e⟩
theorem DO(i:dY k h (aa b env) P)(N:∀v c,P v c->c.Ns env.locals m)(r:aU k A)
  (q:∀v h' a e,P v h'->dE env.locals h' a->a.Ns env.locals (λy=>if y=x then W v else m y)->aF (MM) A (bg rest env) Q aE ⟨a,g,d,e,o⟩)
  (hs:autoParam (mB b (W (.Name x j)) pos.line env=bj aw) rf)(hl:autoParam (env.kindOf x=W .local) rf)
  (l:autoParam ((env.scope.kind== .class||(env.scope.kind== .module&&env.locals !=env.globals))=aw) rf):
  aF (MM) A (bg (.Assign [.Name x j] b pos::rest) env) Q aE ⟨h,g,d,tk,o⟩:=by
 exact de (oU (i A _ g d tk o r λv h' e f=>(fw hl (N v h' f) (λa n p=>q v h' a _ f p n) l)) hs)
theorem HJ(s:Ev k h (isTrue t env (aa t env)) (λv z=>v=c))(Y:∀h',Ext h h'->dY k h' (aa (if c=af then b else e) env) P):dY k h (aa (.IfExp t b e pos) env) P:=by
 intro a l g f u i j m;refine IfExp_ (s a _ h g f u i j Ext.rfl λv h' n p w=>?_);subst w;cases v
 .exact(Y h' p a l g f n i j m)
 .exact(Y h' p a l g f n i j m)
theorem xk(y:Ev k h (isTrue a env (aa a env)) (λv z=>v=c1))(Y:c1=aw->Ev k h (isTrue b env (aa b env)) (λv z=>v=c2)):
  Ev k h (isTrue (.BoolOp .Or [a,b] pos) env D) (λv z=>v=(c1||c2)):=by
 intro j E B g l C m n p f;refine AO (y j _ B g l C m n p λv s t c i=>?_);subst i;cases v with
 |true=>exact f _ s t c rfl
 |false=>
  refine AO (Y rfl j _ s g l t m n (p.trans c) λv u w x i=>?_);subst i;cases v with
  |true=>exact f _ u w (c.trans x) rfl
  |false=>exact isTrue_or_nil (f _ u w (c.trans x) rfl)
theorem EM(b:aO k h (aa e env) (gD Y a))(d:lO .Is (.Constant .none f cp)=aw:=by with_unfolding_all rfl):
  Ev k h (isTrue (.Compare e [.Is] [.Constant .none f cp] pos) env i) (λc z=>c=a.isNone):=
 kc b Nh (λj l m z g=>is_none (Y:=Y) (a:=a) g) d
theorem Nb(b:aO k h (aa e env) (gD Y a))(d:lO .IsNot (.Constant .none f cp)=aw:=by with_unfolding_all rfl):
  Ev k h (isTrue (.Compare e [.IsNot] [.Constant .none f cp] pos) env i) (λc z=>c=a.isSome):=
 kc b Nh (λj l m z g=>aek (Y:=Y) (a:=a) g) d
theorem OC(g:n%4=0):∀f on r on' c,eI n on->(∀i<n,on i<n)->r<n->r%2=0->kj P b f on r=W (on',c)->eI n on'/\(∀i<n,on' i<n)/\c<n/\c%2=0
 |0,_,_,_,_,_,_,_,_,a=>by cases a
 |f+1,on,r,on',c,h,d,hr,j,a=>by
  dsimp only[kj] at a;split at a
  .exact OC g f _ _ _ _ (h.del d g hr) (ML d g hr) (d r hr) (by have:=h r hr;exact o1 j this) a
  .cases a;exact⟨h,d,hr,j⟩
theorem Wa(a:n%4=0):∀f on r on' d,eI n on->(∀i<n,on i<n)->r<n->r%2=0->ku P b f on r=W (on',d)->eI n on'/\(∀i<n,on' i<n)/\d<n/\d%2=0
 |0,_,_,_,_,_,_,_,_,c=>by cases c
 |f+1,on,r,on',d,h,g,hr,j,c=>by
  dsimp only[ku] at c;split at c
  .exact Wa a f _ _ _ _ (h.del g a hr) (ML g a hr) (cw a (g _ (cw a hr))) (by have:=iI h a hr;exact o1 j this) c
  .cases c;exact⟨h,g,hr,j⟩
theorem aeU(h:n%4=0)(p:eI n on)(d:∀i<n,on i<n)(k:b<n)(l:b%2=0)(e:kS P b f on=W (on',m)):eI n on'/\(∀i<n,on' i<n)/\∀x,m=W x->x<n/\x%2=0:=by
 unfold kS at e;split at e
 .obtain⟨⟨q,c⟩,h1,h2⟩:=kK.mp e;cases h2;have j:=bK h k;have:=OC h _ _ _ _ _ p d (d _ j) (by have:=p _ j;have:=eF b;exact vi l ‹_› this) h1;exact⟨this.1,this.2.1,λx g=>by cases g;exact this.2.2⟩
 .cases e;exact⟨p,d,λx g=>by cases g⟩
theorem ajx(d:n%4=0)(p:eI n on)(g:∀i<n,on i<n)(j:b<n)(k:b%2=0)(e:kW P b f on=W (on',l)):eI n on'/\(∀i<n,on' i<n)/\∀x,l=W x->x<n/\x%2=0:=by
 unfold kW at e;split at e
 .obtain⟨⟨m,c⟩,h1,h2⟩:=kK.mp e;cases h2;have:=Wa d _ _ _ _ _ p g (cw d (g _ (cw d j))) (by have:=iI p d j;exact o1 k this) h1;exact⟨this.1,this.2.1,λx h=>by cases h;exact this.2.2⟩
 .cases e;exact⟨p,g,λx h=>by cases h⟩
inductive Jw(k:Nat)(q:Qd)(b:Nat)(q':Qd):Prop
 |mk (f1 f2:Nat) (c a:Nat->Nat) (l r:Option Nat) (e1:kS q.P b f1 q.on=W (c,l)) (e2:kW q.P b f2 c=W (a,r))
  (g:pick q.P b l r=X->⟨q.n,a,q.P⟩=q') (h1:∀d e,pick q.P b l r=W (d,e)->∃f,f+1=k/\iN f (Qd.conn ⟨q.n,a,q.P⟩ d e) q.n q')
theorem ru.nx(s:ru q b c d)(m:d=X->c=q')(n:∀f,d=W f->∃g,g+1=k/\iN g c f q'):Jw k q b q':=by
 obtain⟨o,f2,p,t,l,r,e1,e2,h⟩:=s;refine⟨o,f2,p,t,l,r,e1,e2,λa=>?_,λu v a=>?_⟩<;>rw[a] at h<;>obtain⟨rfl,a⟩:=h
 .exact m a
 .exact n _ a
theorem iN.nx(c:iN k q b q'):Jw k q b q':=by
 induction c with
 |stop h=>exact h.nx (λd=>rfl) λd a=>nomatch a
 |step h f=>exact h.nx (λa=>nomatch a) λd a=>⟨_,rfl,aaG a▸f⟩
theorem adk:Ev k h (isTrue (.Constant (.bool af) a pos) env (aa (.Constant (.bool af) a pos) env)) (λv z=>v=af):=by intro i j b g l c m n p f;exact FN (JA (gH (f af b c Ext.rfl rfl)))
theorem bN.set(p:bN h a x y)(N:h.Ns L m)(b:dE L h h'):bN h' a x y:=by obtain⟨c,v,n,q⟩:=p.ex;refine⟨⟨c,v,n,(b.2 a ?_).trans q⟩,p.bx,p.bX⟩;rintro rfl;obtain⟨f,g,i,d,e,_⟩:=N;rw[d] at q;cases q;cases e
theorem gY.set(d:gY h Y n P)(N:h.Ns L m)(e:dE L h h'):gY h' Y n P:=⟨λf g j=>let⟨k,b,c⟩:=d.pt f g j;⟨k,b,c.set N e⟩⟩
theorem dY.imp(x:dY k h t P)(q:∀v h',P v h'->R v h'):dY k h t R:=
 λa b g c e f i j=>x a b g c e f i λv h' l m=>j v h' l (q v h' m)
theorem nK.ext(e:Ext h h')(c:nK z h' Y n on i j v a):nK z h Y n on i j v a:=by obtain⟨b,a1,a2,d,f,g,k⟩:=c;exact⟨b,a1,a2,d,f,e.mx.trans g,k⟩
inductive CJ(z h:aK)(q:Qd)(Y:Lay)(q':Qd)(c L:az)(n:Nat)(h':aK):Prop
 |mk (m:aA->Option aq) (b:Lay) (a:Qd) (b1:Nat) (cr:iN n a b1 q') (d:gy q.n Y b) (hb:b1<a.n) (eb:b1%2=0) (e:q.n<=a.n) (I:Im z h L m h') (m1:m "base_edge"=W (.ref (b.ad b1))) (m2:m "point_in_circle_locator"=W (.ref c)) (m3:m "_context"=X) (G:Gx z h' b a)
theorem ai8(c:l=rr->¬rr=X):∃d,pick P b l rr=W d:=by
 cases l with
 |none=>cases rr with
  |none=>exact absurd rfl (c rfl)
  |some a=>exact⟨_,rfl⟩
 |some x=>cases rr with
  |none=>exact⟨_,rfl⟩
  |some a=>
   have e:pick P b (W x) (W a)=if 0<je P (U a) (U x) (U b) b then W (a,U b) else W (U b,U x):=rfl;simp only[e];split
   .exact⟨_,rfl⟩
   .exact⟨_,rfl⟩
theorem ai7(n:Nat)(f:n%4=0)(g:b<n)(h:b%2=0)(hl:∀x,l=W x->x<n/\x%2=0)(hr:∀x,rr=W x->x<n/\x%2=0)(a:pick P b l rr=W (i,j)):i<n/\j<n/\i%2=0/\j%2=0:=by
 have c:=bK f g;have d:=o1 h (eF b);cases l with
 |none=>cases rr with
  |none=>cases a
  |some e=>cases a;exact⟨(hr _ rfl).1,c,(hr _ rfl).2,d⟩
 |some x=>
  obtain⟨lx,ex⟩:=hl x rfl;cases rr with
  |none=>cases a;exact⟨c,bK f lx,d,(o1 ex (eF x))⟩
  |some e=>
   have k:pick P b (W x) (W e)=if 0<je P (U e) (U x) (U b) b then W (e,U b) else W (U b,U x):=rfl;rw[k] at a;split at a
   .cases a;exact⟨(hr _ rfl).1,c,(hr _ rfl).2,d⟩
   .cases a;exact⟨c,bK f lx,d,(o1 ex (eF x))⟩
noncomputable def abT:Expr:=nj ((yo (bodyOf rY)).2.getD 2 (.Pass ⟨0,0,0,0⟩)) 0
theorem acn(d:Im z h₀ L m C)(G:Gx z C Y ⟨n,on,P⟩)(Lc:iS C a0 Y.ctx)(o:b<n)(O:b%2=0)(hl:∀x,l=W x->x<n/\x%2=0)(hr:∀x,rr=W x->x<n/\x%2=0)
  (D:m "left_candidate"=W (gD Y l))(E:m "right_candidate"=W (gD Y rr))(u:m "base_edge"=W (.ref (Y.ad b)))(n2:m "point_in_circle_locator"=W (.ref a0))(r:pick P b l rr=W (i,j))(p:i<n/\j<n/\i%2=0/\j%2=0):
  dY 12 C (aa abT (aY rY L 499)) (nK z C Y n on i j):=by
 cases l with
 |none=>cases rr with
  |none=>cases r
  |some g=>have F:=E;cases r;refine HJ (c:=af) (xk (c1:=af) (c2:=af) (EM (Y:=Y) (a:=X) (ah d.ns D)) (λh=>nomatch h)) λS f=>?_;rw[if_pos rfl];exact(tc (d.bz.keeps f) (G.keeps f) p.1 p.2.1 (ah (d.ns.keeps f) F) (fG (d.bs.keeps f) (G.keeps f).R.toRep o (ah (d.ns.keeps f) u)) _ rfl).imp λB M k=>k.ext f
 |some x=>
  have N:=D;cases rr with
  |none=>cases r;refine HJ (c:=aw) (xk (c1:=aw) (c2:=aw) (EM (Y:=Y) (a:=W x) (ah d.ns D)) (λV=>xe (c1:=aw) (c2:=aw) (Nb (Y:=Y) (a:=X) (ah d.ns E)) (λh=>nomatch h))) λS f=>?_;rw[if_neg (by decide)];exact(tc (d.bz.keeps f) (G.keeps f) p.1 p.2.1 (fG (d.bs.keeps f) (G.keeps f).R.toRep o (ah (d.ns.keeps f) u)) (fG (d.bs.keeps f) (G.keeps f).R.toRep (hl x rfl).1 (ah (d.ns.keeps f) N)) _ rfl).imp λB M k=>k.ext f
  |some g=>
   have F:=E;have Z:=(hl x rfl).1;have hy:=(hr g rfl).1;have ex:=(hl x rfl).2;have ey:=(hr g rfl).2;have H:=G.T;obtain⟨a1,a5,p1⟩:=H.pt (U g) (G.R.bK hy) (by rw[eF];exact ey);obtain⟨a2,a6,p2⟩:=H.pt (U x) (G.R.bK Z) (by rw[eF];exact ex);obtain⟨a3,a7,p3⟩:=H.pt (U b) (G.R.bK o) (o1 O (eF b));obtain⟨a4,a8,p4⟩:=H.pt b o O;have e2:pick P b (W x) (W g)=if 0<je P (U g) (U x) (U b) b then W (g,U b) else W (U b,U x):=rfl;refine HJ (c:=decide (0<je P (U g) (U x) (U b) b)) (xk (c1:=aw) (c2:=decide (0<je P (U g) (U x) (U b) b)) (EM (Y:=Y) (a:=W x) (ah d.ns D)) (λV=>(xe (c1:=af) (c2:=decide (0<je P (U g) (U x) (U b) b)) (Nb (Y:=Y) (a:=W g) (ah d.ns E))
    (λV=>kc (EN d.bs Lc (ah d.ns n2) p1 p2 p3 p4 (a5▸gc d.bs G.R.toRep hy (ah d.ns F)) (a6▸gc d.bs G.R.toRep Z (ah d.ns N)) (a7▸gc d.bs G.R.toRep o (ah d.ns u)) (a8▸hQ d.bs G.R.toRep o (ah d.ns u)))
     (cG (cB d.bs (v:= .ref 205) (by nofun)) (iD d.bs (v:= .ref 201) (by nofun) (by nofun) rfl)) λA Q s f q=>FO (d.bs.keeps f) q)))) λS f=>?_
   by_cases J:0<je P (U g) (U x) (U b) b
   .rw[e2,if_pos J] at r;cases r;rw[if_pos (decide_eq_true J)];exact(tc (d.bz.keeps f) (G.keeps f) p.1 p.2.1 (ah (d.ns.keeps f) F) (fG (d.bs.keeps f) (G.keeps f).R.toRep o (ah (d.ns.keeps f) u)) _ rfl).imp λB M k=>k.ext f
   .rw[e2,if_neg J] at r;cases r;rw[if_neg (λz=>J (of_decide_eq_true z))];exact(tc (d.bz.keeps f) (G.keeps f) p.1 p.2.1 (fG (d.bs.keeps f) (G.keeps f).R.toRep o (ah (d.ns.keeps f) u)) (fG (d.bs.keeps f) (G.keeps f).R.toRep (hl x rfl).1 (ah (d.ns.keeps f) N)) _ rfl).imp λB M k=>k.ext f
noncomputable def abS:List cQ:=(yo (bodyOf rY)).2
theorem acr(B:Im z h₀ L m h)(G:Gx z h Y ⟨n,on,P⟩)(Cx:Ctx h₀ Y.ctx)(Lc:iS h J Y.ctx)(M:b<n)(N:b%2=0)(hl:∀x,l=W x->x<n/\x%2=0)(hr:∀x,rr=W x->x<n/\x%2=0)
  (O:m "left_candidate"=W (gD Y l))(S:m "right_candidate"=W (gD Y rr))(n1:m "base_edge"=W (.ref (Y.ad b)))(V:m "point_in_circle_locator"=W (.ref J))(a:m "_context"=X)(r:aU 12 A)
  (qb:∀h' C,Ext h h'->l=X->rr=X->Q .brk ⟨h',g,d,C,o⟩)
  (qn:∀i j,pick P b l rr=W (i,j)->∀f h' C s,gy n Y f->Im z h₀ L s h'->s "base_edge"=W (.ref (f.ad n))->s "point_in_circle_locator"=W (.ref J)->s "_context"=X->Gx z h' f (Qd.conn ⟨n,on,P⟩ i j)->Q .next ⟨h',g,d,C,o⟩):
  aF (MM) A (bg (abS.drop 1) (aY rY L 499)) Q aE ⟨h,g,d,tk,o⟩:=by
 refine oe (c:=decide (l=rr)&&rr.isNone) (k:=12) (acS G.R.toRep (λx D=>(hl x D).1) (λx D=>(hr x D).1) (ah B.ns O) (ah B.ns S)) r λZ a4 p=>?_;have e:=B.ext p;by_cases t:(decide (l=rr)&&rr.isNone)=af
 .rw[if_pos t];obtain⟨c1,u⟩:=(vV _ _).mp t;have u:=aaE.mp u;exact de (wpAny_Break (qb Z a4 p ((of_decide_eq_true c1).trans u) u))
 .rw[if_neg t];refine cA ?_;obtain⟨⟨i,j⟩,E⟩:=ai8 (P:=P) (b:=b) (l:=l) (rr:=rr) (by simpa using t);have q:=ai7 n G.R.n4 M N hl hr E;refine DO (k:=12) (m:=m) (P:=nK z Z Y n on i j) (acn e (G.keeps p) (Lc.keeps p) M N hl hr O S n1 V E q) (λv h1 F=>by obtain⟨_,_,_,_,_,a5,_⟩:=F;exact(e.mx a5 a).ns) r λv a8 a6 a7 F w a0=>?_;obtain⟨f,a3,rfl,y,H⟩:=(G.keeps p).conn q.1 q.2.1 q.2.2.1 q.2.2.2 F;exact cA (qn i j E f a6 a7 _ a3 ((e.mx y a).set w a0) rfl V a ⟨H.R.set (e.mx y a).ns a w,H.T.set (e.mx y a).ns w,by simp only[a3.ctx];exact Cx.mx ((e.mx y a).set w a0).keep,H.pa⟩)
theorem acp(B:Bz z h)(G:Gx z h Y q)(Lc:iS h D Y.ctx)(hb:b<q.n)(eb:b%2=0)(c:iN n q b q'):
  eJ 13 h (.call (.ref 499) ⟨[.ref (Y.ad b), .ref D],[]⟩) (λv h'=>v= .none/\Mx z h h'/\∃Y',gy q.n Y Y'/\Gx z h' Y' q'):=by
 refine jj (k:=12) (fd:=rY) (body:=bodyOf rY) (binds:=[("base_edge", .ref (Y.ad b)),("point_in_circle_locator", .ref D)]) B.bs (tF _) rfl
  (λI I I I I I=>eR rfl) (by nofun) (by nofun) rfl rfl rfl ?_
 intro d3 F A g dr tk o Q r qq;refine DQ (CJ z h q Y q' D h.objs.size)
  (n₀:=n) ⟨_,Y,q,b,c,gy.refl _ _,hb,eb,bT _,(Im.start B F),rfl,rfl,rfl,G.keeps F.keep⟩ ?_
 rintro d5 d6 d7 ⟨m,u,J,b1,cr,L,N,O,a6,b5,m1,m2,m3,b6⟩;refine Ev.at adk r Ext.rfl λa7 d8 e3=>(if_pos rfl).mpr ?_;have d:=b5.ext e3;have t:=b6.keeps e3;have h4:=t.R.n4;have a8:iS a7 D u.ctx:=by simp only[L.ctx];exact Lc.mx d.keep
 obtain⟨f1,f2,b7,a9,l,rr,s1,s2,n0,nx⟩:=cr.nx;have S:=aeU h4 t.pa t.R.on N O s1;have P2:=ajx h4 S.1 S.2.1 N O s2;refine LJ (x:="left_candidate") (y:="right_candidate") (k:=12) (m:=m) (P1:=zj z a7 u J.n b7 l) (P2:=λI h1=>zj z h1 u J.n a9 rr)
  (vH (f:=527) (vs:=[.ref (u.ad b1), .ref D]) d.bs (cB d.bs (by nofun)) ((eM (ah d.ns m1) (kb (ah d.ns m2))).imp λvs=>by rintro⟨a,b,rfl,rfl,rfl⟩;rfl) (λh' p=>?_) (by nofun))
  (λv1 h1 s=>vH (f:=534) (vs:=[.ref (u.ad b1), .ref D]) (d.mx s.M m3).bs (cB (d.mx s.M m3).bs (by nofun)) ((eM (ah (d.mx s.M m3).ns m1) (kb (ah (d.mx s.M m3).ns m2))).imp λvs=>by rintro⟨a,b,rfl,rfl,rfl⟩;rfl) (λh' p=>?_) (by nofun))
  (λv1 h1 v2 h2 s b8=>((d.mx s.M m3).mx b8.M m3).ns) r ?_
 .intro A' R' g' d' t' o' r' V;exact ae1 (d.bz.keeps p) (t.R.keeps p) (t.C.keeps p) (t.T.keeps p) (a8.keeps p) N O t.pa s1 A' R' g' d' t' o' (r'.le (QX)) λv a0 a4 E=>V v a0 a4 ⟨E.e,p.mx.trans E.M,E.R⟩
 .have b9:=d.mx s.M m3;intro A' R' g' d' t' o' r' V;exact ajI (b9.bz.keeps p) (s.R.keeps p) ((t.C.mx s.M).keeps p) ((t.T.mx s.M).keeps p) ((a8.mx s.M).keeps p) N O S.1 s2 A' R' g' d' t' o' (r'.le (QX)) λv a0 a4 E=>V v a0 a4 ⟨E.e,p.mx.trans E.M,E.R⟩
 rintro v1 d9 v2 e0 e1 c0 e2 ⟨rfl,b0,e4⟩ ⟨rfl,b2,c3⟩ e6 sb Z;have H:=((d.mx b0 m3).mx b2 m3).ext e6;have b3:=(c3.keeps e6).set H.ns m3 sb;have b4:=(t.T.mx (b0.trans (b2.trans e6.mx))).set H.ns sb;have a5:Ctx h u.ctx:=by simp only[L.ctx];exact G.C
 have c4:iS c0 D u.ctx:=by simp only[L.ctx];exact Lc.mx (H.set sb Z).keep
 refine acr (n:=J.n) (on:=a9) (P:=J.P) (H.set sb Z) ⟨b3,b4,a5.mx (H.set sb Z).keep,P2.1⟩ a5 c4 N O S.2.2 P2.2.2 rfl rfl (m1) (m2) (m3) r (λc5 c6 e8 c1 c2=>?_) λi j hp Y' c7 c8 m' c9 d0 a1 a2 a3 d1=>?_
 .exact cA (qq .none c5 c6 ⟨rfl,((H.set sb Z).ext e8).keep,u,L,n0 (by rw[c1,c2];rfl)▸⟨b3.keeps e8,b4.keeps e8,(a5.mx (H.set sb Z).keep).keeps e8,P2.1⟩⟩ .next rfl)
 .obtain⟨V,hk,d2⟩:=nx i j hp;exact⟨c7,c8,V,rfl,Nat.lt_of_succ_le (rD hk),m',Y',_,J.n,d2,L.trans c9 a6,rF (by decide),kU h4,eT a6 (fF _ _),d0,a1,a2,a3,d1⟩
section
variable {k:Nat} {h:Heap} {A:Around} {g:Array GenState} {d:Drawn} {tk:Nat} {o:OsState}
theorem aU.u9{k:Nat}{A:Around}(r:aU k A):A.units<cLine:=by have:=r.u;show A.units<9900;exact Nat.lt_of_add_right_lt this
theorem BH{a:az}{x y:aq}(p:fC h a x y):eS (MM) h (kY (.ref a)) (.ref 132):=by obtain⟨c,b⟩:=p.ex;exact(pI b).andThen .now
theorem aem{c:Prop}[Decidable c]{p q:Prop}(a:p)(b:q):if c then p else q:=by
 by_cases h:c
 .rw[if_pos h];exact a
 .rw[if_neg h];exact b
theorem VM{a:az}{x y u:aq}{nm:aA}{id:String}{r:Bool}(B:Bs h)(p:fC h a x y)
  (hs:jK (kf pS) (.ref 132) nm=W (W (.builtin id)))(e:∀v,DW (.builtin id) v=bj (.builtin id,[v]))
  (f:aF (MM) A (eU (.builtin id) [.ref a,u]) (λv b=>v= .bool r/\b=⟨h,g,d,tk,o⟩) aE ⟨h,g,d,tk,o⟩):
  aF (MM) A (DZ (.ref a) nm [u]) (λv b=>v=W (.bool r)/\b=⟨h,g,d,tk,o⟩) aE ⟨h,g,d,tk,o⟩:=
 have fin:aF (MM) A (eU (.builtin id) ([.ref a]++[u])>>=λv=>bj (W v)) (λv b=>v=W (.bool r)/\b=⟨h,g,d,tk,o⟩) aE ⟨h,g,d,tk,o⟩:=aB (bJ f (λv b c=>aV ⟨congrArg _ c.1,c.2⟩) λi i c=>c)
 eH (aB (aB (aB ((BH p).at ((su (M:=MM) B.k hs).at (aB (ak3 (Xe (aem (aB (oV (e _) (aV fin))) (wpAny_tryCatch (aB (oV (e _) (aV fin)))))))))))))
theorem ajp{c:CmpOp}{a b:az}{x y f i:aq}{id:String}{r:Bool}{Q:aq->aT->Prop}(B:Bs h)(p:fC h a x y)(j:fC h b f i)(l:aU k A)
  (hs:jK (kf pS) (.ref 132) (cmpInfo c).2.1=W (W (.builtin id)))(n:∀v,DW (.builtin id) v=bj (.builtin id,[v]))
  (s:aF (MM) A (eU (.builtin id) [.ref a, .ref b]) (λv e=>v= .bool r/\e=⟨h,g,d,tk,o⟩) aE ⟨h,g,d,tk,o⟩)(q:Q (.bool r) ⟨h,g,d,tk,o⟩):
  aF (MM) A (BJ c (.ref a) (.ref b)) Q aE ⟨h,g,d,tk,o⟩:=by
 refine eH (aB (Xa l.u9 ?_));rw[oneThing_ref];refine aB ((BH p).at (aB ((BH j).at (aB (aV ?_)))));refine aB (aB (m:=DZ (.ref a) (cmpInfo c).2.1 [.ref b]) (bJ (VM B p hs n s) (λv e t=>?_) λu u C=>C));obtain⟨rfl,rfl⟩:=t;exact aV (aV q)
theorem jw{M:Model}{E:aq->aT->Prop}{s:aT}{f:l->e->dG (ForInStep e)}{Q:e->aT->Prop}(i:aF M A (f x b) (λr a=>ForInStep.rec (motive:=λy=>Prop) (λc=>Q c a) (λc=>aF M A (mT xs c f) Q E a) r) E s):aF M A (mT (x::xs) b f) Q E s:=by
 rw[List.forIn_cons];refine aB (bJ i (λr a h=>?_) λy y j=>j);cases r
 .exact aV h
 .exact h
theorem qo{M:Model}{E:aq->aT->Prop}{s:aT}{f:c->a->dG (ForInStep a)}{Q:a->aT->Prop}(q:Q b s):aF M A (mT [] b f) Q E s:=by rw[List.forIn_nil];exact aV q
section
variable {s:Shared} {r r':Addr} {x y x' y':Value} {b1 b2 c1 c2:Bool} (I:∀{Q},Q true s->wpAny (MM) A (isInstance (.ref r') (.type "tuple")) Q aE s) (T:∀{Q},Q #[x,y] s->wpAny (MM) A (Builtin.Tuple.tupleItemsOf (.ref r)) Q aE s) (T':∀{Q},Q #[x',y'] s->wpAny (MM) A (Builtin.Tuple.tupleItemsOf (.ref r')) Q aE s)
 (E1:∀{Q},Q b1 s->wpAny (MM) A (eqBool x x') Q aE s) (E2:∀{Q},Q b2 s->wpAny (MM) A (eqBool y y') Q aE s)
include I T T' E1 E2
theorem HG{Q:Fin->Shared->Prop}(q:Q (.done (.ret (.bool (b1&&b2)))) s):wpAny (MM) A (Builtin.«tuple.__eq__» ⟨[.ref r, .ref r'],[]⟩) Q aE s:=by
 show wpAny _ _ (isInstance (.ref r') (.type "tuple")>>=_) _ _ s;refine aB (I (cW rfl (aB (T (aB (T' ?_))))));show wpAny _ _ (mT [(x,x'),(y,y')] _ _>>=_) _ _ _;refine aB (jw (aB (E1 ?_)));cases b1
 .exact jA rfl (aB (aV (aV (aV q))))
 refine cW rfl (aV (jw (aB (E2 ?_))));cases b2
 .exact jA rfl (aB (aV (aV (aV q))))
 exact cW rfl (aV (qo (aV q)))
theorem tne{Q:Fin->Shared->Prop}(q:Q (.done (.ret (.bool !(b1&&b2)))) s):wpAny (MM) A (Builtin.«tuple.__ne__» ⟨[.ref r, .ref r'],[]⟩) Q aE s:=by
 show wpAny _ _ (isInstance (.ref r') (.type "tuple")>>=_) _ _ s;refine aB (I (cW rfl (aB (T (aB (T' ?_))))));show wpAny _ _ (mT [(x,x'),(y,y')] _ _>>=_) _ _ _;refine aB (jw (aB (E1 ?_)));cases b1
 .exact jA rfl (aB (aV (aV (aV q))))
 refine cW rfl (aV (jw (aB (E2 ?_))));cases b2
 .exact jA rfl (aB (aV (aV (aV q))))
 exact cW rfl (aV (qo (aV q)))
theorem tlt(a:∀{Q},Q (.bool c1) s->wpAny (MM) A (BJ .Lt x x') Q aE s)(b:∀{Q},Q (.bool c2) s->wpAny (MM) A (BJ .Lt y y') Q aE s){Q:Fin->Shared->Prop}(q:Q (.done (.ret (.bool (bif b1 then bif b2 then aw else c2 else c1)))) s):wpAny (MM) A (Builtin.«tuple.__lt__» ⟨[.ref r, .ref r'],[]⟩) Q aE s:=by
 show wpAny _ _ (isInstance (.ref r') (.type "tuple")>>=_) _ _ s;refine aB (I (cW rfl (aB (T (aB (T' ?_))))));show wpAny _ _ (mT [(x,x'),(y,y')] _ _>>=_) _ _ _;refine aB (jw (aB (E1 ?_)));cases b1
 .exact jA rfl (aB (oW (aB (a (aB (aV (aV (aV q))))))))
 refine cW rfl (aV (jw (aB (E2 ?_))));cases b2
 .exact jA rfl (aB (oW (aB (b (aB (aV (aV (aV q))))))))
 exact cW rfl (aV (qo (aV q)))
end
theorem BG{a:az}{x y:aq}{E:aq->aT->Prop}{Q:Array aq->aT->Prop}(p:fC h a x y)(q:Q #[x,y] ⟨h,g,d,tk,o⟩):aF (MM) A (zg (.ref a)) Q E ⟨h,g,d,tk,o⟩:=by obtain⟨c,b⟩:=p.ex;unfold zg;exact aB (Cn (s:=⟨h,g,d,tk,o⟩) b rfl (aV q))
theorem VI{a b:az}{x y e f:Int}{Q:aq->aT->Prop}(B:Bs h)(p:bN h a x y)(j:bN h b e f)(l:aU k A)(q:Q (.bool (decide (x=e/\y=f))) ⟨h,g,d,tk,o⟩):
  aF (MM) A (BJ .Eq (.ref a) (.ref b)) Q aE ⟨h,g,d,tk,o⟩:=by
 obtain⟨m,v,i⟩:=p.ex;obtain⟨n,r,c⟩:=j.ex;refine ajp (id:="tuple.__eq__") B i c l (by nofun) YL.bind (dq (oi YL.plain F.entry_tuple_eq ?_)) q;rw[Js];exact Ag (A:=A.in1) (id:="tuple.__eq__") (nm:="__eq__") B i (by decide+kernel) (by decide+kernel) (F.args_tuple_eq_2 _ _) (HG (FH B c).at (BG i) (BG c) Cj Cj ⟨rfl,rfl⟩)
theorem aji{a b:az}{x y f j:Int}(B:Bs h)(p:bN h a x y)(n:bN h b f j):
  aF (MM) A (eU (.builtin "tuple.__lt__") [.ref a, .ref b]) (λv q=>v= .bool (decide (x<f\/(x=f/\y<j)))/\q=⟨h,g,d,tk,o⟩) aE ⟨h,g,d,tk,o⟩:=by
 obtain⟨t,v,i⟩:=p.ex;obtain⟨w,C,l⟩:=n.ex;have r:decide (x<f\/(x=f/\y<j))=bif decide (x=f) then bif decide (y=j) then aw else decide (y<j) else decide (x<f):=by
  by_cases m:x=f
  .by_cases s:y=j<;>simp[m,s]
  .simp[m]
 rw[r];exact dq (oi YN.plain F.entry_tuple_lt (Ag (A:=A.in1) (id:="tuple.__lt__") (nm:="__lt__") B i (by decide+kernel) (by decide+kernel) (F.args_tuple_lt_2 _ _) (tlt (FH B l).at (BG i) (BG l) Cj Cj HR HR ⟨rfl,rfl⟩)))
end
noncomputable def mD(P:bF)(t:Nat×Nat×Nat×Nat)(c l r s:aq):aI:=
 gQ [⟨dX P "context", .str "context" t.1,c⟩,⟨dX P "left_side", .str "left_side" t.2.1,l⟩,
  ⟨dX P "right_side", .str "right_side" t.2.2.1,r⟩,⟨dX P "_triangular_holes_vertices", .str "_triangular_holes_vertices" t.2.2.2,s⟩] 4
theorem ac7(B:Bs h)(c:nsIn (kf pS) qB "set"=W X:=by nofun)(f:autoParam (env.globals=qB) rf)(i:autoParam (env.builtins=Mo) rf)
  (hk:autoParam (env.scope.kind= .function) rf)(j:autoParam (env.kindOf "set"=W .globalImplicit) rf)
  (l:autoParam (aa (.Call (.Name "set" p1) [] [] pos) env=(do dH pos (<-aa (.Name "set" p1) env) [] (bG pos (aH [] env)) (bZ pos (cf [] env)))) rf):
  Ev k h (aa (.Call (.Name "set" p1) [] [] pos) env) (λv z=>True):=by
 intro m E n g p s a t u w;refine mE (eY (k:=k) (v:= .type "set") (B.keeps u) c (by boot_by_name) (by decide) f i hk j rfl m _ n g p s a t Ext.rfl λv F y C D=>?_) l;subst D;exact callWith_type0 (call_set_0 λG=>(w _ _ y (C.trans λH a x=>eP _ x) trivial))
theorem akv(B:Bz z h)(hz:z.get? dx=X)(j:h.get? x=W (dy 488 dx))(m:h.get? dx=W lW):
  eJ 6 h (.call (.ref 461) ⟨[.ref x,l,r,c],[]⟩) (λv h'=>v= .none/\(∃t s,h'.get? dx=W (mD pS t c l r s))/\∀b o,b≠dx->h.get? b=W o->h'.get? b=W o):=by
 refine jj (k:=5) (fd:=Ff) (body:=bodyOf Ff) (binds:=[("self", .ref x),("left_side",l),("right_side",r),("context",c)]) B.bs (tF _) rfl
  (λd d d d d d=>eR rfl) (by nofun) (by nofun) rfl rfl rfl ?_
 intro P n A g dr tk o Q E q;have b5:=B.bs.keeps n.keep;have p:dx≠h.objs.size:=cJ (dA m);refine de (CE (qm (Ap (ah n.ns) (ah n.ns) (ah n.ns)) ?_ A _ P g dr tk o E Ext.rfl λv a0 a3 R hv=>?_) rfl rfl)
 .rintro vs rfl;show 3<=fv;decide
 obtain⟨a,vs,rfl,rfl,ht⟩:=hv;refine LH (s:=⟨a0,g,dr,a3,o⟩) E.h ht rfl rfl λa4 e3=>?_;have a5:Ext P a4:=λb o x=>e3 b o (cJ (dA (R b o x))) (R b o x);have i:=eZ n a5;have a6:=B.bs.keeps i.keep;have a7:=i.keep _ _ j;have a8:=i.keep _ _ m;refine gP (nZ (gR (iK rfl rfl i.ns (show _=W (.ref x) from rfl) (kz (od':=λt=>gQ [⟨dX pS "context", .str "context" t,c⟩] 1) a6 i.ns a7 a8 p (by nofun) (by nofun) (by nofun) (by nofun) rfl (λd=>rfl) (λd=>rfl) (λd=>show 1<=1000 by decide) λa9 b6 H u=>?_)) rfl));have I:∀b o,b≠dx->h.get? b=W o->a9.get? b=W o:=λb o z f=>u.keep b o z (cJ (dA f)) (i.keep b o f);have J:x≠dx:=by rintro rfl;replace m:=(j)▸m;cases m
 have C:∀{h'},(∀b o,b≠dx->h.get? b=W o->h'.get? b=W o)->Bs h':=λK=>B.b.keeps λb o f=>K b o (eg f hz) (B.e b o f);refine gP (nZ (gR (iK rfl rfl u.ns (show _=W (.ref x) from rfl) (kz (od':=λt=>gQ [⟨dX pS "context", .str "context" H,c⟩,⟨dX pS "left_side", .str "left_side" t,l⟩] 2) (C I) u.ns (I _ _ J j) u.at_ p (by nofun) (by nofun) (by nofun) (by nofun) rfl (λd=>rfl) (λd=>rfl) (λd=>show 2<=1000 by decide) λb0 b7 S D=>?_)) rfl));have L:∀b o,b≠dx->h.get? b=W o->b0.get? b=W o:=λb o z f=>D.keep b o z (cJ (dA f)) (I b o z f);refine gP (nZ (gR (iK rfl rfl D.ns (show _=W (.ref x) from rfl) (kz (od':=λt=>gQ [⟨dX pS "context", .str "context" H,c⟩,⟨dX pS "left_side", .str "left_side" S,l⟩,⟨dX pS "right_side", .str "right_side" t,r⟩] 3) (C L) D.ns (L _ _ J j) D.at_ p (by nofun) (by nofun) (by nofun) (by nofun) rfl (λd=>rfl) (λd=>rfl) (λd=>show 3<=1000 by decide) λb1 b8 t3 M=>?_)) rfl));have T:∀b o,b≠dx->h.get? b=W o->b1.get? b=W o:=λb o z f=>M.keep b o z (cJ (dA f)) (L b o z f);refine rN ?_;refine de (BE (hY (ac7 (C T)) E Ext.rfl λs b2 b9 N d=>?_) rfl);have V:=M.ns.keeps N;have O:∀b o,b≠dx->h.get? b=W o->b2.get? b=W o:=λb o z f=>N _ _ (T b o z f);refine gR (iK rfl rfl V (show _=W (.ref x) from rfl) (kz (od':=λt=>mD pS (H,S,t3,t) c l r s) (C O) V (O _ _ J j) (N _ _ M.at_) p (by nofun) (by nofun) (by nofun) (by nofun) rfl (λd=>rfl) (λd=>rfl) (λd=>show 4<=1000 by decide) λY b3 t4 Z=>?_)) rfl;have b4:∀b o,b≠dx->h.get? b=W o->Y.get? b=W o:=λb o z f=>Z.keep b o z (cJ (dA f)) (O b o z f);exact cA (q .none Y b3 ⟨rfl,⟨_,s,Z.at_⟩,b4⟩ .next rfl)
structure cX(h:aK)(a d:az)(c l r:aq):Prop where
 ob:h.get? a=W (dy 488 d)
 di:∃t s,h.get? d=W (mD pS t c l r s)
theorem cX.keeps(x:cX h a d c l r)(e:Ext h h'):cX h' a d c l r:=⟨e _ _ x.ob,let⟨b,s,y⟩:=x.di;⟨b,s,e _ _ y⟩⟩
inductive Dt(h:aK)(c l r:aq)(v:aq)(h':aK):Prop
 |mk (x a:az) (e:v= .ref x) (T:cX h' x a c l r) (n:h.get? x=X) (m:h.get? a=X)
theorem alf(C:az)(rest:List aq)(kw:List (aA×aq)):(Jy "type.__call__" ⟨.ref C::rest,kw⟩).weight<=1:=rD (show _=1 by nofun)
theorem afs(B:Bz z h):gM 7 h (.call (.ref 488) ⟨[l,r,c],[]⟩) (Dt h c l r):=by intro N O a g C D f E i F;have j:=B.keeps i;have m:=j.bs.k;refine OT (OV m (by nofun)) (su m (name:="__init__") (r:=W (.ref 461)) (by nofun)) (λG=>bind_fn m G (by nofun)) (.inl rfl) ?_;have u:Ext a ((a.push lW).push (dy 488 a.objs.size)):=λn f i=>eP _ (eP _ i);have p:a.get? a.objs.size=X:=jq (bT _);have H:a.get? (a.objs.size+1)=X:=jq (KC _);refine akv (z:=z) (x:=a.objs.size+1) (dx:=a.objs.size) (j.keeps u) (ml j.e p) (by heap_get) (by heap_get) _ _ g C D f (E.HP (alf _ _ _) (Er _ _ _)) λQ I J L=>?_;obtain⟨rfl,⟨t,s,M⟩,K⟩:=L;refine⟨rfl,F _ I J (λn f w=>K n f (eg w p) (u n f w)) ⟨_,_,rfl,⟨K _ _ (by intro z;exact absurd z (KR _)) (by heap_get),t,s,M⟩,ml i H,ml i p⟩⟩
theorem xi(B:Bz z h)(v:aO k h (aa j env) (.ref 488))(w:aO k h (aa f env) l)(x:aO k h (aa b env) r)(y:aO k h (aa a env) c)(hk:autoParam (7<=k) fW)
  (C:autoParam (aa (.Call j [f,b,a] [] pos) env=(do dH pos (<-aa j env) [] (bG pos (aH [f,b,a] env)) (bZ pos (cf [] env)))) rf)
  (p:autoParam (aH [f,b,a] env=(aw,aa f env)::aH [b,a] env) rf)(D:autoParam (aH [b,a] env=(aw,aa b env)::aH [a] env) rf)(E:autoParam (aH [a] env=(aw,aa a env)::aH [] env) rf)
  (G:autoParam ((bG pos (aH [b,a] env)).any (·.1)=aw) rf):
  Ev k h (aa (.Call j [f,b,a] [] pos) env) (Dt h c l r):=by
 intro s V Y g t Z u m i H;refine(C)▸(aB (Ev.at v m i λI J a=>(mQ (h₀:=h) (K:=kf pS) B.bs.k (by nofun) ?_ p G)));refine Ap w x y p D E pos s _ I g t J u m (i.trans a) λvs L M n N=>⟨(B.bs.keeps ((i.trans a).trans n)).k,?_⟩;subst N;refine dq (afs B s _ L g t M u (m.le hk) ((i.trans a).trans n) λO P R S T=>H O P R ((a.trans n).trans S) T)
def gV(o:aI):Prop:=∃a b d e f,o=mD pS a b d e f
theorem yk(h:gV o):¬gz o:=by rintro⟨i,c,l,r,s,e⟩;obtain⟨j,k,m,n,p,a⟩:=h;simp only[a] at e;have b:=(congrArg (λo:aI=>match o.data with| .dict d _=>(d.toList.head?.map DictEntry.key)|_=>X) e);injection b with f;injection f with g;exact absurd g (by decide)
theorem cX.mx(x:cX h a d c l r)(e:Mx z h h'):cX h' a d c l r:=
 ⟨e _ _ (.inr BF) x.ob,let⟨b,s,y⟩:=x.di;⟨b,s,e _ _ (.inr (yk ⟨_,_,_,_,_,rfl⟩)) y⟩⟩
theorem WM(B:Bs h)(e:cX h a d c l r)(f:ik c=af):aO k h (fc (.ref a) "context" b) c:=by obtain⟨g,s,y⟩:=e.di;exact aO.le (ql B (by nofun) (by nofun) (by nofun) e.ob y rfl f) (dN _)
theorem qU(B:Bs h)(e:cX h a d c l r)(f:ik l=af):aO k h (fc (.ref a) "left_side" b) l:=by obtain⟨g,s,y⟩:=e.di;exact aO.le (ql B (by nofun) (by nofun) (by nofun) e.ob y rfl f) (dN _)
theorem qV(B:Bs h)(e:cX h a d c l r)(f:ik r=af):aO k h (fc (.ref a) "right_side" b) r:=by obtain⟨g,s,y⟩:=e.di;exact aO.le (ql B (by nofun) (by nofun) (by nofun) e.ob y rfl f) (dN _)
structure Jm(z:aK)(h₀:aK)(L a c:az)(m:aA->Option aq)(h:aK):Prop where
 ns:h.Ns L m
 b0:Bz z h₀
 keep:∀b o,b≠a->b≠c->(z.get? b=W o\/¬gz o)->h₀.get? b=W o->h.get? b=W o
 z1:z.get? a=X
 z2:z.get? c=X
 above:h₀.objs.size<=L
 n1:a≠L
 n2:c≠L
theorem Jm.bz(a:Jm z h₀ L g i m h):Bz z h:=
 ⟨a.b0.b,λd f c=>a.keep d f (eg c a.z1) (eg c a.z2) (.inl c) (a.b0.e d f c)⟩
theorem Jm.bs(a:Jm z h₀ L b c m h):Bs h:=a.bz.bs
theorem Jm.ext(a:Jm z h₀ L f g m h)(e:Ext h h'):Jm z h₀ L f g m h':={a with ns:=a.ns.keeps e,keep:=λc d i j k l=>e c d (a.keep c d i j k l)}
theorem Jm.set(a:Jm z h₀ L e f m h)(g:dE L h h')(i:h'.Ns L j):Jm z h₀ L e f j h':=
 {a with ns:=i,keep:=λc k l n q d=>(g.2 c (cJ (fj (dA d) a.above))).trans (a.keep c k l n q d)}
theorem Jm.mx(c:Jm z h₀ L l n m h)(e:Mx z h h')(q:m "_context"=X):Jm z h₀ L l n m h':=by refine{c with ns:=?_,keep:=λd a r s f t=>e d a f (c.keep d a r s f t)};obtain⟨a,g,i,h1,h2,j,k⟩:=c.ns;exact⟨a,g,i,e _ _ (.inr (jg ⟨a,g,i,h1,h2,j,k⟩ q h1)) h1,h2,j,k⟩
theorem Jm.upd(a:Jm z h₀ L c d m h)(l:dx=c\/dx=d)(e:Upd L m dx od' h h'):Jm z h₀ L c d m h':=by
 refine{a with ns:=e.ns,keep:=λf g i j n k=>e.keep f g ?_ (cJ (fj (dA k) a.above)) (a.keep f g i j n k)};rintro rfl;rcases l with rfl|rfl
 .exact i rfl
 .exact j rfl
theorem Jm.ctx(g:Jm z h₀ L u v m h)(C:Ctx h₀ c)(i:∃o,h₀.get? u=W o/\gV o)(j:∃o,h₀.get? v=W o/\gV o):Ctx h c:=by
 obtain⟨f,n,a,b⟩:=C.ex;have k:∀{x:az} {o:aI},(∃o,h₀.get? x=W o/\gV o)->h₀.get? c=W (dy 261 f)->c≠x:=by rintro x o ⟨w,e,p,y,l,r,s,rfl⟩ A rfl;replace e:=(A)▸e;cases e
 have q:∀{x:az},(∃o,h₀.get? x=W o/\gV o)->f≠x:=by rintro x ⟨w,e,p,y,l,r,s,rfl⟩ rfl;replace e:=(b)▸e;exact absurd (show(0:Nat)=4 from(congrArg (λo:Option aI=>match o with|some o=>(match o.data with| .dict B _=>B.size|_=>9)|none=>8) e)) (by decide)
 exact⟨f,n,g.keep _ _ (k (o:=lW) i a) (k (o:=lW) j a) (.inr BF) a,g.keep _ _ (q i) (q j) (.inr (by rintro⟨p,c,l,r,s,e⟩;cases e)) b⟩
theorem WV(G:Gx z h Y q)(N:h.Ns L m)(j:m "_context"=X)(d:h.get? dx=W k)(f:gV k)(g:Upd L m dx od' h h'):Rz z h' Y q.n q.on/\gY h' Y q.n q.P:=by
 refine⟨⟨{G.R.toRep with ob:=λe b=>g.keep _ _ ?_ (G.R.sH N b) (G.R.ob e b),di:=λe b=>g.keep _ _ ?_ (G.R.mh N j b) (G.R.di e b)},G.R.fl⟩,⟨λe b w=>?_⟩⟩
 .rintro rfl;replace d:=(G.R.ob e b)▸d;obtain⟨y,c,l,r,s,rfl⟩:=f;cases d
 .rintro rfl;rw[G.R.di e b] at d;have:=aaG d;exact yk f (by simp only[<-this];exact xK)
 .obtain⟨A,e1,p⟩:=G.T.pt e b w;refine⟨A,e1,?_,p.bx,p.bX⟩;obtain⟨B,v,n,x⟩:=p.ex;refine⟨B,v,n,g.keep _ _ ?_ ?_ x⟩
  .rintro rfl;rw[x] at d;obtain⟨y,c,l,r,s,rfl⟩:=f;cases d
  .rintro rfl;obtain⟨E,F,H,C,D,_⟩:=N;replace x:=(C)▸x;cases x;cases D
theorem akX(b:cX h a d c l r)(N:h.Ns L m)(j:d≠dx)(k:d≠L)(e:h.get? dx=W n)(p:gV n)(g:Upd L m dx od' h h'):cX h' a d c l r:=by
 obtain⟨i,s,y⟩:=b.di;refine⟨g.keep _ _ ?_ ?_ b.ob,i,s,g.keep _ _ j k y⟩
 .rintro rfl;replace e:=(b.ob)▸e;obtain⟨i,c,l,r,s,rfl⟩:=p;cases e
 .rintro rfl;have f:=b.ob;obtain⟨v,w,x,q,u,_⟩:=N;replace f:=(q)▸f;cases f;cases u
theorem akY(b:cX h a d c l r)(N:h.Ns L m)(f:Upd L m d (mD pS t c g i s) h h'):cX h' a d c g i:=by
 obtain⟨n,s0,y⟩:=b.di;refine⟨f.keep _ _ ?_ ?_ b.ob,t,s,f.at_⟩
 .rintro rfl;replace y:=(b.ob)▸y;cases y
 .rintro rfl;have e:=b.ob;obtain⟨p,q,u,j,k,_⟩:=N;replace e:=(j)▸e;cases e;cases k
theorem cX.set(b:cX h a d c l r)(N:h.Ns L m)(g:d≠L)(f:dE L h h'):cX h' a d c l r:=by obtain⟨i,s,y⟩:=b.di;refine⟨(f.2 _ ?_).trans b.ob,i,s,(f.2 _ g).trans y⟩;rintro rfl;have e:=b.ob;obtain⟨n,p,q,j,k,_⟩:=N;replace e:=(j)▸e;cases e;cases k
theorem aj8(B:Bs h)(N:h.Ns L m)(f:cX h a i c l r)(j:i≠L)
  (k:∀h' e t s,Upd L m i (mD pS t c l v s) h h'->Q () ⟨h',g,d,e,o⟩):aF (MM) A (vD (.ref a) "right_side" v) Q aE ⟨h,g,d,tk,o⟩:=by
 obtain⟨t,s,y⟩:=f.di;exact kz (od':=λb=>mD pS t c l v s) B N f.ob y j (by nofun) (by nofun) (by nofun) (by nofun) rfl (λb=>rfl) (λb=>rfl) (λb=>show 4<=1000 by decide) λh' e b n=>k h' e t s n
theorem aj6(B:Bs h)(N:h.Ns L m)(f:cX h a i c l r)(j:i≠L)
  (k:∀h' e t s,Upd L m i (mD pS t c v r s) h h'->Q () ⟨h',g,d,e,o⟩):aF (MM) A (vD (.ref a) "left_side" v) Q aE ⟨h,g,d,tk,o⟩:=by
 obtain⟨t,s,y⟩:=f.di;exact kz (od':=λb=>mD pS t c v r s) B N f.ob y j (by nofun) (by nofun) (by nofun) (by nofun) rfl (λb=>rfl) (λb=>rfl) (λb=>show 4<=1000 by decide) λh' e b n=>k h' e t s n
theorem EF(m:aO k h (aa l env) v1)(Y:aO k h (aa r env) v2)
  (n:∀A (Q:aq->aT->Prop) (s:aT),aU k A->Ext h s.heap->Q (.bool b) s->aF (MM) A (fP op v1 v2) Q aE s)(p:lO op r=aw:=by with_unfolding_all rfl):
  Ev k h (isTrue (.Compare l [op] [r] pos) env w) (λc z=>c=b):=by
 intro A Q x g dr y t a d u;refine ti (Ev.at m a d λB C f=>(Ev.at Y a (d.trans f) λi v j=>?_)) p;exact n A _ ⟨i,g,dr,v,t⟩ a ((d.trans f).trans j) (gH (u _ i _ (f.trans j) rfl))
theorem iu.inv(c:iu P on k x y f g):
  (¬0<dZ P x (U x) y/\¬dZ P y (U y) x<0/\x=f/\y=g)\/
  (∃d,k=d+1/\0<dZ P x (U x) y/\iu P on d (gh on x) y f g)\/
  (∃d,k=d+1/\¬0<dZ P x (U x) y/\dZ P y (U y) x<0/\iu P on d x (jz on y) f g):=by
 induction c with
 |stop e h=>exact .inl ⟨e,h,rfl,rfl⟩
 |left e i=>exact .inr (.inl ⟨_,rfl,e,i⟩)
 |right e h i=>exact .inr (.inr ⟨_,rfl,e,h,i⟩)
inductive Based(z h:aK)(Y:Lay)(q:Qd)(j d k f:az)(g i x y:Nat)(v:aq)(h':aK):Prop
 |mk (a:Lay) (l:gy q.n Y a) (e:v= .ref (a.ad q.n)) (B:Bz z h') (G:Gx z h' a (q.conn (U y) x))
  (T1:cX h' j d (.ref Y.ctx) (.ref (a.ad (if q.P x=q.P g then q.n+2 else g))) (.ref (a.ad x))) (T2:cX h' k f (.ref Y.ctx) (.ref (a.ad y)) (.ref (a.ad (if q.P y=q.P i then q.n else i))))
  (kp:∀b c,b≠d->b≠f->(z.get? b=W c\/¬gz c)->h.get? b=W c->h'.get? b=W c)
theorem Jm.swap(d:Jm z h₀ L e f m h):Jm z h₀ L f e m h:=
 ⟨d.ns,d.b0,λg i j k=>d.keep g i k j,d.z2,d.z1,d.above,d.n2,d.n1⟩
structure FJ(z h:aK)(L:az)(m:aA->Option aq)(Y:Lay)(q:Qd)(c a d b:az)(l x y r:Nat)(h':aK):Prop where
 J:Jm z h L a b m h'
 G:Gx z h' Y q
 T1:cX h' c a (.ref Y.ctx) (.ref (Y.ad l)) (.ref (Y.ad x))
 T2:cX h' d b (.ref Y.ctx) (.ref (Y.ad y)) (.ref (Y.ad r))
 hd:a≠b
 c0:Ctx h Y.ctx
 e1:∃o,h.get? a=W o/\gV o
 e2:∃o,h.get? b=W o/\gV o
 m3:m "_context"=X
theorem FJ.ext(a:FJ z h₀ L m Y q b c d f l x y r h)(e:Ext h h'):FJ z h₀ L m Y q b c d f l x y r h':=
 {a with J:=a.J.ext e,G:=a.G.keeps e,T1:=a.T1.keeps e,T2:=a.T2.keeps e}
theorem FJ.swap(a:FJ z h₀ L m Y q b c d e l x y r h):FJ z h₀ L m Y q d e b c y r l x h:=
 ⟨a.J.swap,a.G,a.T2,a.T1,a.hd.symm,a.c0,a.e2,a.e1,a.m3⟩
theorem FJ.up(a:FJ z h₀ L m Y q e d f g l x y r h)(b:Upd L m d (mD pS t (.ref Y.ctx) (.ref (Y.ad i)) (.ref (Y.ad j)) s) h h'):FJ z h₀ L m Y q e d f g i j y r h':=by obtain⟨k,s0,y0⟩:=a.T1.di;have c:gV (mD pS k (.ref Y.ctx) (.ref (Y.ad l)) (.ref (Y.ad x)) s0):=⟨_,_,_,_,_,rfl⟩;exact{a with J:=(a.J.upd (.inl rfl) b),G:=⟨(WV a.G a.J.ns a.m3 y0 c b).1,(WV a.G a.J.ns a.m3 y0 c b).2,(a.J.upd (.inl rfl) b).ctx a.c0 a.e1 a.e2,a.G.pa⟩,T1:=akY a.T1 a.J.ns b,T2:=akX a.T2 a.J.ns a.hd.symm a.J.n2 y0 c b}
theorem LQ(f:FJ z h₀ env.locals m Y q b n p u l i y r h)(v:aO k h (aa c env) (.ref (Y.ad j)))(w:aU k A)(B:m x=W (.ref b))
  (C:∀h' D,FJ z h₀ env.locals m Y q b n p u l j y r h'->aF (MM) A (bg rest env) Q aE ⟨h',g,d,D,o⟩)
  (hs:autoParam (mB c (W (.Attribute (.Name x p1) "right_side" p2)) pos.line env=bj aw) rf)(hl:autoParam (env.kindOf x=W .local) rf)(hf:autoParam (env.scope.kind= .function) rf)(E:autoParam ((x==aa4 "__debug__")=aw) rf):
  aF (MM) A (bg (.Assign [.Attribute (.Name x p1) "right_side" p2] c pos::rest) env) Q aE ⟨h,g,d,tk,o⟩:=by
 refine de (BE (Ev.at v w Ext.rfl λM N G=>?_) hs);have a:=f.ext G;exact gR (iK hf hl a.J.ns B (aj8 a.J.bs a.J.ns a.T1 a.J.n1 λH I O P L=>C H I (a.up L))) E
theorem LP(f:FJ z h₀ env.locals m Y q b n p u l i y r h)(v:aO k h (aa c env) (.ref (Y.ad j)))(w:aU k A)(B:m x=W (.ref b))
  (C:∀h' D,FJ z h₀ env.locals m Y q b n p u j i y r h'->aF (MM) A (bg rest env) Q aE ⟨h',g,d,D,o⟩)
  (hs:autoParam (mB c (W (.Attribute (.Name x p1) "left_side" p2)) pos.line env=bj aw) rf)(hl:autoParam (env.kindOf x=W .local) rf)(hf:autoParam (env.scope.kind= .function) rf)(E:autoParam ((x==aa4 "__debug__")=aw) rf):
  aF (MM) A (bg (.Assign [.Attribute (.Name x p1) "left_side" p2] c pos::rest) env) Q aE ⟨h,g,d,tk,o⟩:=by
 refine de (BE (Ev.at v w Ext.rfl λM N G=>?_) hs);have a:=f.ext G;exact gR (iK hf hl a.J.ns B (aj6 a.J.bs a.J.ns a.T1 a.J.n1 λH I O P L=>C H I (a.up L))) E
noncomputable def fbB:List cQ:=(yo (bodyOf lY)).2
theorem adL(b:FJ z h₀ L m Y q u O B S l x y i h)(D:m "first"=W (.ref u))(E:m "second"=W (.ref B))(H:x<q.n)(I:y<q.n)(ex:x%2=0)(ey:y%2=0)(r:aU 12 A)
  (q1:0<dZ q.P x (U x) y->∀h' t,FJ z h₀ L m Y q u O B S l (gh q.on x) y i h'->Q .next ⟨h',g,d,t,o⟩)
  (q2:¬0<dZ q.P x (U x) y->dZ q.P y (U y) x<0->∀h' t,FJ z h₀ L m Y q u O B S l x (jz q.on y) i h'->Q .next ⟨h',g,d,t,o⟩)
  (q3:¬0<dZ q.P x (U x) y->¬dZ q.P y (U y) x<0->∀h' t,FJ z h₀ L m Y q u O B S l x y i h'->Q .brk ⟨h',g,d,t,o⟩):
  aF (MM) A (bg fbB (aY lY L 506)) Q aE ⟨h,g,d,tk,o⟩:=by
 refine mO (k:=12) (c:=0<dZ q.P x (U x) y) (kc (rR b.J.bs b.G.R.toRep b.G.C b.G.T H ex I ey (cG (ah b.J.ns D) (qV b.J.bs b.T1 rfl)) (hQ b.J.bs b.G.R.toRep I (cG (ah b.J.ns E) (qU b.J.bs b.T2 rfl))) _ rfl)
  (cG (cB b.J.bs (v:= .ref 182) (by nofun)) (iD b.J.bs (v:= .ref 178) (by nofun) (by nofun) rfl)) λA Q s f q=>Oq (b.J.bs.keeps f) q) r (λp a0 a3 V f Z w=>?_) λp a0 a3 V f Z br=>?_
 .have a:=b.ext f;exact LQ a (Af a.J.bs a.G.R.toRep H (cG (ah a.J.ns D) (qV a.J.bs a.T1 rfl))) r D λM N j=>cA (Z _ (cA (q1 p M N j)))
 .have a:=b.ext f;refine mO (k:=12) (c:=dZ q.P y (U y) x<0) (kc (rR a.J.bs a.G.R.toRep a.G.C a.G.T I ey H ex (cG (ah a.J.ns E) (qU a.J.bs a.T2 rfl)) (hQ a.J.bs a.G.R.toRep H (cG (ah a.J.ns D) (qV a.J.bs a.T1 rfl))) _ rfl)
   (cG (cB a.J.bs (v:= .ref 182) (by nofun)) (iD a.J.bs (v:= .ref 172) (by nofun) (by nofun) rfl)) λA Q s f q=>AQ (a.J.bs.keeps f) q) r (λc2 M N V f a4 w=>?_) λc2 M N V f w a5=>?_
  .have j:=(a.ext f).swap;exact LP j (Ec j.J.bs j.G.R.toRep I (cG (ah j.J.ns E) (qU j.J.bs j.T1 rfl))) r E λa6 a7 a8=>cA (a4 _ (cA (Z _ (cA (q2 p c2 a6 a7 a8.swap)))))
  .exact de (wpAny_Break (a5 _ _ (λh=>nomatch h) (br _ _ (λh=>nomatch h) (q3 p c2 M N (a.ext f)))))
theorem Nj(B:Bs h)(G:Gx z h Y q)(l:i<q.n)(m:j<q.n)(o:i%2=0)(p:j%2=0)(f:aO 12 h (aa t env) (Y.st i))(g:aO 12 h (aa k env) (Y.st j))(u:lO .Eq k=aw:=by with_unfolding_all rfl):
  Ev 12 h (isTrue (.Compare t [.Eq] [k] pos) env E) (λc y=>c=decide (q.P i=q.P j)):=by
 obtain⟨F,v,ia⟩:=G.T.pt i l o;obtain⟨H,sb,w⟩:=G.T.pt j m p;simp only[v] at f;simp only[sb] at g;refine EF f g (λI J x C d D=>?_) u;obtain⟨L,M,dd,tt,N⟩:=x;refine VI (B.keeps d) (ia.keeps d) (w.keeps d) C ?_;exact(show(decide ((q.P i).1=(q.P j).1/\(q.P i).2=(q.P j).2))=decide (q.P i=q.P j) from decide_eq_decide.mpr ⟨λh=>kL h.1 h.2,λh=>by rw[h];exact⟨rfl,rfl⟩⟩)▸D
theorem ND(a:FJ z h₀ L m Y q O S H T l x y i h)(m0:m "base_edge"=W (.ref (Y.ad n)))(p:m "second"=W (.ref H))(I:y<q.n)(M:i<q.n)(V:y%2=0)(Z:i%2=0)(r:aU 12 A)
  (f:∀h' a0,FJ z h₀ L m Y q O S H T l x y (if q.P y=q.P i then n else i) h'->Q (.ret (.ref (Y.ad n))) ⟨h',g,d,a0,o⟩):
  aF (MM) A (bg ((bodyOf lY).drop 3) (aY lY L 506)) Q aE ⟨h,g,d,tk,o⟩:=by
 refine mO (k:=12) (c:=q.P y=q.P i) (Nj a.J.bs a.G I M V Z (hQ a.J.bs a.G.R.toRep I (cG (ah a.J.ns p) (qU a.J.bs a.T2 rfl))) (hQ a.J.bs a.G.R.toRep M (cG (ah a.J.ns p) (qV a.J.bs a.T2 rfl)))) r (λj a3 a4 R s t u=>?_) λj a3 a4 R s t u=>?_
 .rw[if_pos j] at f;have b:=(a.ext s).swap;exact LQ b (ah b.J.ns m0) r p λa5 a6 N=>cA (t _ (fL (h₀:=h) (L:=0) (m:=λu=>X) (ah N.J.ns m0 (k:=12)) r λv B C D E=>E▸f B C (N.swap.ext D)))
 .rw[if_neg j] at f;have b:=a.ext s;exact cA (t _ (fL (h₀:=h) (L:=0) (m:=λu=>X) (ah b.J.ns m0 (k:=12)) r λv B C D E=>E▸f B C (b.ext D)))
theorem adK(a:FJ z h₀ L m Y q t I u M l x y i h)(m0:m "base_edge"=W (.ref (Y.ad n)))(p:m "first"=W (.ref t))(v:m "second"=W (.ref u))(N:n<q.n)(B:x<q.n)(hl:l<q.n)(C:y<q.n)(D:i<q.n)(O:x%2=0)(S:l%2=0)(E:y%2=0)(H:i%2=0)(r:aU 12 A)
  (b:∀h' T,FJ z h₀ L m Y q t I u M (if q.P x=q.P l then U n else l) x y (if q.P y=q.P i then n else i) h'->Q (.ret (.ref (Y.ad n))) ⟨h',g,d,T,o⟩):
  aF (MM) A (bg ((bodyOf lY).drop 2) (aY lY L 506)) Q aE ⟨h,g,d,tk,o⟩:=by
 refine mO (k:=12) (c:=q.P x=q.P l) (Nj a.J.bs a.G B hl O S (hQ a.J.bs a.G.R.toRep B (cG (ah a.J.ns p) (qV a.J.bs a.T1 rfl))) (hQ a.J.bs a.G.R.toRep hl (cG (ah a.J.ns p) (qU a.J.bs a.T1 rfl)))) r (λj V Z R f s w=>?_) λj V Z R f s w=>?_
 .replace b:=(if_pos j)▸b;exact LP (a.ext f) (fG (a.ext f).J.bs (a.ext f).G.R.toRep N (ah (a.ext f).J.ns m0)) r p λa3 a4 a0=>cA (s _ (ND a0 m0 v C D E H r b))
 .replace b:=(if_neg j)▸b;exact cA (s _ (ND (a.ext f) m0 v C D E H r b))
inductive FI(z h:aK)(L:az)(m:aA->Option aq)(Y:Lay)(q:Qd)(b d e f:az)(l i g j:Nat)(n:Nat)(h':aK):Prop
 |mk (x a:Nat) (c:iu q.P q.on n x a g j) (hx:x<q.n) (hy:a<q.n) (ex:x%2=0) (k:a%2=0) (F:FJ z h L m Y q b d e f l x a i h')
theorem adJ(c:FJ z h₀ L m Y q O d1 S d2 l x y i h)(V:m "first"=W (.ref O))(Z:m "second"=W (.ref S))(w:x<q.n)(hl:l<q.n)(p:y<q.n)(E:i<q.n)(ex:x%2=0)(el:l%2=0)(ey:y%2=0)(ei:i%2=0)(r:aU 12 A)
  (qq:∀v h' H,Based z h₀ Y q O d1 S d2 l i x y v h'->Q (.ret v) ⟨h',g,d,H,o⟩):
  aF (MM) A (bg ((bodyOf lY).drop 1) (aY lY L 506)) Q aE ⟨h,g,d,tk,o⟩:=by
 have a3:U y%2=0:=by rw[eF];exact ey
 refine DO (k:=12) (m:=m) (P:=nK z h Y q.n q.on (U y) x) (tc c.J.bz c.G (c.G.R.bK p) w (fG c.J.bs c.G.R.toRep p (cG (ah c.J.ns Z) (qU c.J.bs c.T2 rfl))) (cG (ah c.J.ns V) (qV c.J.bs c.T1 rfl)) _ rfl)
  (λv h1 I=>by obtain⟨_,_,_,_,_,a5,_⟩:=I;exact(c.J.mx a5 c.m3).ns) r λv a4 a6 a7 I s hn=>?_
 obtain⟨Y',e,rfl,M,N⟩:=c.G.conn (c.G.R.bK p) w a3 ex I;have t:=c.J.mx M c.m3;have a0:Ctx h₀ Y'.ctx:=by simp only[e.ctx];exact c.c0
 have T1:=((c.T1.mx M).set t.ns c.J.n1 s);have T2:=((c.T2.mx M).set t.ns c.J.n2 s);simp only[<-e.ctx,<-e.ad l hl,<-e.ad x w] at T1;simp only[<-e.ctx,<-e.ad y p,<-e.ad i E] at T2;have B:∀f<q.n,f<(q.conn (U y) x).n:=λf C=>fj C (fF _ _);have D:∀f<q.n,(q.conn (U y) x).P f=q.P f:=λf C=>by show bu q.P q.n _ _ f=_;unfold bu;rw[if_neg (by exact sN C),if_neg (by exact qG C)]
 refine adK (n:=q.n) ⟨(t.set s hn),⟨N.R.set t.ns c.m3 s,N.T.set t.ns s,(t.set s hn).ctx a0 c.e1 c.e2,N.pa⟩,T1,T2,c.hd,a0,c.e1,c.e2,c.m3⟩ rfl V Z (rF (by decide)) (B _ w) (B _ hl) (B _ p) (B _ E) ex el ey ei r λh' H u=>?_;simp only[D x w,D l hl,D y p,D i E,gE c.G.R.n4] at u;have a:=u.T1;have b:=u.T2;simp only[e.ctx] at a b;exact qq _ h' H ⟨Y',e,rfl,u.J.bz,u.G,a,b,u.J.keep⟩
theorem adI(B:Bz z h)(G:Gx z h Y q)(T1:cX h a p (.ref Y.ctx) (.ref (Y.ad H)) (.ref (Y.ad I)))(T2:cX h d u (.ref Y.ctx) (.ref (Y.ad J)) (.ref (Y.ad L)))
  (hd:p≠u)(z1:z.get? p=X)(z2:z.get? u=X)(a8:H<q.n)(a9:I<q.n)(b0:J<q.n)(b1:L<q.n)(b2:H%2=0)(b3:I%2=0)(b4:J%2=0)(b5:L%2=0)(c:iu q.P q.on n I J x' y'):
  eJ 13 h (.call (.ref 506) ⟨[.ref a, .ref d],[]⟩) (Based z h Y q a p d u H L x' y'):=by
 refine jj (k:=12) (fd:=lY) (body:=bodyOf lY) (binds:=[("first", .ref a),("second", .ref d)]) B.bs (tF _) rfl
  (λl l l l l l=>eR rfl) (by nofun) (by nofun) rfl rfl rfl ?_
 intro a4 D A g dr tk i Q r V;have a5:∃i,h.get? p=W i/\gV i:=let⟨t,s,j⟩:=T1.di;⟨_,j,_,_,_,_,_,rfl⟩;have a6:∃i,h.get? u=W i/\gV i:=let⟨t,s,j⟩:=T2.di;⟨_,j,_,_,_,_,_,rfl⟩;have a7:Jm z h h.objs.size p u (λx=>[(("first":aA),cM a),("second",cM d)].reverse.lookup x) a4:=
  ⟨D.ns,B,λZ i l l l j=>D.keep Z i j,z1,z2,bT _,let⟨i,e,_⟩:=a5;cJ (dA e),let⟨i,e,_⟩:=a6;cJ (dA e)⟩
 have a0:FJ z h h.objs.size (λx=>[(("first":aA),cM a),("second",cM d)].reverse.lookup x) Y q a p d u H I J L a4:=⟨a7,G.keeps D.keep,T1.keeps D.keep,T2.keeps D.keep,hd,G.C,a5,a6,rfl⟩;have M:(λx=>[(("first":aA),cM a),("second",cM d)].reverse.lookup x) "first"=W (.ref a):=rfl;have N:(λx=>[(("first":aA),cM a),("second",cM d)].reverse.lookup x) "second"=W (.ref d):=rfl;revert a0 M N;clear a7 D;generalize (λx=>[(("first":aA),cM a),("second",cM d)].reverse.lookup x)=m;intro a0 M N;refine abG (FI z h h.objs.size m Y q a p d u H L x' y') (n₀:=n) ⟨I,J,c,a9,b0,b3,b4,a0⟩ ?_;rintro b9 c0 c3 R ⟨x,j,cr,hx,hy,ex,O,b6⟩ nx br-;refine adL b6 M N hx hy ex O r (λE S T f=>?_) (λE c2 S T f=>?_) λE c2 S T f=>?_
 .obtain⟨k',rfl,_,a3⟩:=(cr.inv.resolve_left λh=>h.1 E).resolve_right λ⟨_,_,h,_⟩=>h E;exact nx S T k' (pN _) ⟨_,j,a3,f.G.R.OF hx,hy,o1 ex (OG f.G.pa f.G.R.n4 hx),O,f⟩
 .obtain⟨k',rfl,_,_,a3⟩:=(cr.inv.resolve_left λh=>h.2.1 c2).resolve_left λ⟨_,_,h,_⟩=>E h;exact nx S T k' (pN _) ⟨x,_,a3,hx,f.G.R.ajS hy,ex,by have:=f.G.pa _ (f.G.R.bK hy);have:=eF j;show q.on (U j)%2=0;exact vi O ‹_› this,f⟩
 .have fin:=(cr.inv.resolve_right (λh=>h.elim (λ⟨_,_,h,_⟩=>E h) λ⟨_,_,_,h,_⟩=>c2 h)).2.2;replace V:=(fin.2)▸(fin.1)▸V;exact br _ (adJ f M N hx a8 hy b1 ex b2 O b5 r λv h' b7 Z=>V v h' b7 Z (.ret _) rfl)
theorem afc(B:Bs h)(C:Ctx h c):Ev 2 h (fc (.ref c) "locate_point_in_point_point_point_circle" b) (λv h'=>∃a,v= .ref a/\iS h' a c):=by intro w y i g m p j z l q;obtain⟨t,n,c1,c2⟩:=C.ex;have u:InstAt i c (dy 261 t) 261 (W (gQ [] n)):=qv l c1 c2;exact NS (s:=⟨i,g,m,p,j⟩) (B.keeps l).k u (by nofun) (findObj_fn (f:=258) (g:= .builtin "function.__get__") (by nofun) (by nofun) (by nofun) (by nofun) (by nofun) rfl) (by nofun) (dq (fn_get (s:=⟨i,g,m,p+1,j⟩) (B.keeps l).k (by nofun) (sf rfl (q _ _ _ (λb j x=>eP _ x) ⟨_,rfl,⟨by heap_get⟩⟩))))
theorem Based.ext(e:Ext h h')(b:Based z h' Y q c d f g i j x y v k):Based z h Y q c d f g i j x y v k:=by obtain⟨l,a1,a2,m,n,r,s,t⟩:=b;exact⟨l,a1,a2,m,n,r,s,λb a u w A y=>t b a u w A (e b a y)⟩
theorem Jm.step(a:Jm z h₀ L c d m h)(q:m "_context"=X)(e:∀b o,b≠c->b≠d->(z.get? b=W o\/¬gz o)->h.get? b=W o->h'.get? b=W o):Jm z h₀ L c d m h':=by refine{a with ns:=?_,keep:=λb o f g i r=>e b o f g i (a.keep b o f g i r)};obtain⟨o,j,k,h1,h2,l,n⟩:=a.ns;exact⟨o,j,k,e _ _ a.n1.symm a.n2.symm (.inr (jg ⟨o,j,k,h1,h2,l,n⟩ q h1)) h1,h2,l,n⟩
inductive Kt(z h:aK)(Y:Lay)(q q':Qd)(g i:az)(j k:Nat)(v:aq)(h':aK):Prop
 |mk (c:Lay) (f d:az) (l:gy q.n Y c) (e:v= .ref f) (B:Bz z h') (G:Gx z h' c q') (T:cX h' f d (.ref Y.ctx) (.ref (c.ad j)) (.ref (c.ad k))) (zd:z.get? d=X)
  (m:∀b a,¬gz a->h.get? b=W a->b≠d) (kp:∀b a,b≠g->b≠i->(z.get? b=W a\/¬gz a)->h.get? b=W a->h'.get? b=W a)
theorem afw(B:Bz z h)(G:Gx z h Y q)(T1:cX h O E (.ref Y.ctx) (.ref (Y.ad H)) (.ref (Y.ad r1)))(T2:cX h S I (.ref Y.ctx) (.ref (Y.ad l2)) (.ref (Y.ad J)))
  (hd:E≠I)(z1:z.get? E=X)(z2:z.get? I=X)(b7:H<q.n)(b8:r1<q.n)(b9:l2<q.n)(c0:J<q.n)(c3:H%2=0)(c4:r1%2=0)(c5:l2%2=0)(c6:J%2=0)
  (c:iu q.P q.on n r1 l2 x y)(hx:x<q.n)(hy:y<q.n)(c':iN n' (q.conn (U y) x) q.n q'):
  eJ 15 h (.call (.ref 513) ⟨[.ref O, .ref S],[]⟩) (Kt z h Y q q' E I (if q.P x=q.P H then q.n+2 else H) (if q.P y=q.P J then q.n else J)):=by
 refine jj (k:=14) (fd:=Fh) (body:=bodyOf Fh) (binds:=[("first", .ref O),("second", .ref S)]) B.bs (tF _) rfl
  (λl l l l l l=>eR rfl) (by nofun) (by nofun) rfl rfl rfl ?_
 intro c7 F A g dr tk p Q V qq;have c8:∃p,h.get? E=W p/\gV p:=let⟨t,s,y⟩:=T1.di;⟨_,y,_,_,_,_,_,rfl⟩;have c9:∃p,h.get? I=W p/\gV p:=let⟨t,s,y⟩:=T2.di;⟨_,y,_,_,_,_,_,rfl⟩;have d0:=let⟨p,M,_⟩:=c8;cJ (dA M);have d3:=let⟨p,M,_⟩:=c9;cJ (dA M);have a8:Jm z h h.objs.size E I (λx=>[(("first":aA),cM O),("second",cM S)].reverse.lookup x) c7:=⟨F.ns,B,λZ p l l l y=>F.keep Z p y,z1,z2,bT _,d0,d3⟩;refine lK (k:=14) (P:=λl h'=>∃D,gy q.n Y D/\Gx z h' D q'/\Jm z h h.objs.size E I (λx=>[(("first":aA),cM O),("second",cM S)].reverse.lookup x) h'/\cX h' O E (.ref Y.ctx) (.ref (D.ad (if q.P x=q.P H then q.n+2 else H))) (.ref (D.ad x))/\cX h' S I (.ref Y.ctx) (.ref (D.ad y)) (.ref (D.ad (if q.P y=q.P J then q.n else J)))) ?_ V ?_
 .intro A Q g dr tk p V qq;refine mE (Ev.at (cB a8.bs (v:= .ref 499) (by nofun) (k:=14)) V Ext.rfl λa9 b0 e2=>?_);have j:=a8.ext e2;have a6:=(G.keeps F.keep).keeps e2;have a3:=(T1.keeps F.keep).keeps e2;have a4:=(T2.keeps F.keep).keeps e2;refine mQ j.bs.k (by nofun) (cF ?_);refine vH (k:=14) (f:=506) (vs:=[.ref O, .ref S]) (P:=Based z a9 Y q O E S I H J x y) j.bs (cB j.bs (by nofun)) ((eM (ah j.ns) (kb (ah j.ns))).imp λvs=>by rintro⟨a,Z,rfl,rfl,rfl⟩;rfl)
   (λh' M=>λA' R' g' d' t' o' r' k'=>adI (j.bz.keeps M) (a6.keeps M) (a3.keeps M) (a4.keeps M) hd z1 z2 b7 b8 b9 c0 c3 c4 c5 c6 c A' R' g' d' t' o' (r'.le (by exact PC)) λN d4 d5 u=>k' N d4 d5 (u.ext M)) (by nofun) rfl rfl rfl A _ g dr b0 p V λN b1 b2 u=>?_
  obtain⟨D,ag,rfl,e6,b3,b4,d6,d7⟩:=u;have a0:=j.step rfl d7;refine cF ?_;refine hY (uE (cG (ah a0.ns) (WM a0.bs b4 rfl) (k:=14)) λN h' e' u=>by subst u;exact(afc (a0.bs.keeps e') (by have:=(b3.keeps e').C;simp only[ag.ctx] at this;exact this)).imp (by exact by decide) λl l l h=>h) V Ext.rfl λN e7 d8 e4 u=>?_;obtain⟨la,rfl,Lc⟩:=u;have d9:=d6.keeps e4;refine eQ ⟨(a0.ext e4).bs.k,dq (acp (a0.ext e4).bz (b3.keeps e4) (ag.ctx▸Lc) (rF (by decide)) (by exact kU (G.R.n4)) c' A _ g dr d8 p (V.le (by exact PC)) λN e0 e1 u=>?_)⟩;obtain⟨rfl,a7,b5,b6,e5⟩:=u;have a5:∀i,i<q.n+4->b5.ad i=D.ad i:=b6.ad;refine qq _ e0 e1 ⟨rfl,b5,(ag.trans b6 (fF _ _)),e5,(a0.ext e4).mx a7 rfl,?_,?_⟩
  .simp only[a5 (if q.P x=q.P H then q.n+2 else H) (by split<;>lia),a5 x (by exact o0 hx)];exact(b4.keeps e4).mx a7
  .simp only[a5 y (by exact o0 hy),a5 (if q.P y=q.P J then q.n else J) (by split<;>lia)];exact d9.mx a7
 .rintro N a9 b0 ⟨D,ag,a6,j,a3,a4⟩;refine fL (h₀:=h) (L:=0) (m:=λl=>X) (xi (k:=14) j.bz (cB j.bs (by nofun)) (cG (ah j.ns) (qU j.bs a3 rfl)) (cG (ah j.ns) (qV j.bs a4 rfl)) (cG (ah j.ns) (WM j.bs a3 rfl))) V λN b1 b2 e3 u=>?_;obtain⟨t,d,rfl,T,n1,n2⟩:=u;refine qq _ b1 b2 ⟨D,t,d,ag,rfl,(j.ext e3).bz,a6.keeps e3,T,ml j.bz.e n2,?_,(j.ext e3).keep⟩ (.ret _) rfl;rintro Z ob nb hb rfl;by_cases c1:Z=E
  .obtain⟨_,_,y⟩:=a3.di;replace y:=(n2)▸(c1)▸y;cases y
  .by_cases c2:Z=I
   .obtain⟨_,_,y⟩:=a4.di;replace y:=(n2)▸(c2)▸y;cases y
   .have:=j.keep Z ob c1 c2 (.inr nb) hb;replace this:=(n2)▸this;cases this
theorem ew(l:h.IsList a vs)(e:Ext h h'):h'.IsList a vs:=let⟨d,b,c⟩:=l;⟨d,e _ _ b,c⟩
theorem ab7{E:aq->aT->Prop}{P:aK->Prop}{Q:aq->aT->Prop}
  (hk:∀h,P h->∃k,(k=Keeper.frame\/k=Keeper.machine\/k=Keeper.boundFrame)/\eS M h (keeperOf f) k)(w:i.all (·.1.isSome)=af)
  (h:aF M A x (λv d=>aF M A (evalAll (i.map (·.2))) (λo j=>DB M A E v (λvs l=>P l.heap/\aF M A (eU f (first++vs) ((i.filterMap (·.1)).zip o)) Q E l) j) E d) E s):
  aF M A (dH pos f first [(af,(do let v<-x;fB pos;bj v))] i) Q E s:=by
 unfold dH;refine aB (eH ?_);have ev:aF M A (evalArgs f af [(af,(do let v<-x;fB pos;bj v))] i) (λe d=>P d.heap/\aF M A (eU f (first++e.pos) e.kw) Q E d) E s:=by unfold evalArgs;refine aB (aB (bJ h (λv d g=>aB (gG (aV (eH (jA (decide_eq_true w) (aB (bJ g (λo j p=>?_) λc c x=>x))))))) λc c x=>x));unfold DB at p;refine aB (aB (bJ p (λF l m=>?_) λc c x=>x));obtain⟨rfl,m⟩:=m;refine cW rfl (eH (bJ m (λvs G y=>aV y) λc c x=>x))
 refine bJ ev (λe d g=>aB (gG ?_)) λc c x=>x;obtain⟨k,B,Lk⟩:=hk _ g.1;rw[Zs,Bool.true_or];refine aB (Lk.here ?_);have q:∀{u:dG aq},aF M A u Q E d->aF M A (u>>=λn=>fI [n] point>>=λc=>bj n) Q E d:=
  λC=>aB (bJ C (λn j hr=>aB (eH (wpAny_point (aV hr)))) λc c x=>x)
 have D (mk:aq):aF M A (callMarked mk f (first++e.pos) e.kw) Q E d:=by unfold callMarked;exact Calls.wpAny_keep g.2
 rcases B with rfl|rfl|rfl<;>dsimp only<;>first|exact q (D _)|exact q (wpAny_operating g.2)
theorem akl(hl:h.IsList a vs)(c:vs.size<=fv)(q:∀h',Ext h h'->Q vs.toList ⟨h',g,d,tk,o⟩):
  DB (MM) A aE (.ref a) Q ⟨h,g,d,tk,o⟩:=by
 obtain⟨e,D,b,n,hd⟩:=hl;have f:aF (MM) A (collect (.ref a)) Q aE ⟨h,g,d,tk,o⟩:=ak4 (s:=⟨h,g,d,tk,o⟩) a (.inl rfl) D b hd (λh' hk=>q h' hk) c;delta DB notIterableAtAll;exact aB (oX (s:=⟨h,g,d,tk,o⟩) ⟨e,D,b⟩ PySem.F.slot_list_iter.lookup (aV ⟨rfl,f⟩))
theorem ach(B:Bs h)
  (q:∀a h' m,Ext h h'->h'.get? a=W (sA (.ref 293) (.ref 414))->Q (.ref a,[]) ⟨h',g,d,m,o⟩):aF (MM) A (ie (.ref 414) "from_endpoints" pl) Q aE ⟨h,g,d,tk,o⟩:=by
 refine OW (s:=⟨h,g,d,tk,o⟩) B.k (by nofun) ?_;have f:∃j,jQ (kf pS) 295 "classmethod"=W (.ref 293::j):=by
  have h:((jQ (kf pS) 295 "classmethod").bind rA)=W (.ref 293):=by nofun
  obtain⟨i,h1,h2⟩:=wH.mp h;cases i with
  |nil=>cases h2
  |cons x i=>cases h2;exact⟨i,h1⟩
 obtain⟨j,f⟩:=f;exact bJ (Q:=λn p=>Q (n,[]) p) (E:=λc c=>False) (Ai (s:=⟨h,g,d,tk,o⟩) (mc:= .type "type") (g:= .builtin "classmethod.__get__") (a:= .ref 295) (obj:= .none) (tp:= .ref 414) B.k (by nofun) (by nofun) (dq (Aj (s:=⟨h,g,d,tk+1,o⟩) B.k f (sf rfl (q _ _ _ (λw o r=>eP _ r) (by heap_get)))))) (λc c x=>x) λc c x=>x.elim
theorem acR(B:Bs h):Ev 2 h (fc (.ref 414) "from_endpoints" b) (λv h'=>∃a,v= .ref a/\h'.get? a=W (sA (.ref 293) (.ref 414))):=by
 intro D n p g t u f F i C;have w:=B.keeps i;have j:∃y,jQ (kf pS) 295 "classmethod"=W (.ref 293::y):=by
  have h:((jQ (kf pS) 295 "classmethod").bind rA)=W (.ref 293):=by nofun
  obtain⟨m,h1,h2⟩:=wH.mp h;cases m with
  |nil=>cases h2
  |cons x m=>cases h2;exact⟨m,h1⟩
 obtain⟨y,j⟩:=j;exact bJ (Q:=n) (E:=λc c=>False) (Ai (s:=⟨p,g,t,u,f⟩) (mc:= .type "type") (g:= .builtin "classmethod.__get__") (a:= .ref 295) (obj:= .none) (tp:= .ref 414) w.k (by nofun) (by nofun) (dq (Aj (s:=⟨p,g,t,u+1,f⟩) w.k j (sf rfl (C _ _ _ (λb f i=>eP _ i) ⟨_,rfl,by heap_get⟩))))) (λc c x=>x) λc c x=>x.elim
theorem Nk(B:Bz z h)(I:aO k h (aa n env) (.ref 414))(J:aO k h (aa i env) s)(L:aO k h (aa c env) e)(M:aO k h (aa b env) (.ref N))(pl:dG Bool)
  (O:aa (.Call (.Attribute n "from_endpoints" v) [i,c] [⟨W "context",b,p1⟩] pos) env=(do
   let w<-aa n env
   fB v.atName
   let(f,first)<-fI [w] (ie w "from_endpoints" pl)
   dH pos f first (bG pos (aH [i,c] env)) (bZ pos (cf [⟨W "context",b,p1⟩] env))))(hk:autoParam (8<=k) fW)
  (x:autoParam (aH [i,c] env=(aw,aa i env)::aH [c] env) rf)(R:autoParam (aH [c] env=(aw,aa c env)::aH [] env) rf)
  (S:autoParam (((bG pos (aH [i,c] env)).any (·.1)||(bZ pos (cf [⟨W "context",b,p1⟩] env)).any (·.1.isNone))=aw) rf)
  (T:autoParam ((bZ pos (cf [⟨W "context",b,p1⟩] env)).all (·.1.isSome)=af) rf)(V:∀p:List aq,((bZ pos (cf [⟨W "context",b,p1⟩] env)).filterMap (·.1)).zip p=([("context":aA)].zip p):=by intro p;rfl):
  Ev k h (aa (.Call (.Attribute n "from_endpoints" v) [i,c] [⟨W "context",b,p1⟩] pos) env) (mM h N s e):=by
 intro Y Q a6 g y tk C j t Z;refine kT (Ev.at I j t λa7 a8 b=>?_) O;have a0:=B.keeps (t.trans b);refine ach a0.bs λa h' a9 D E=>?_;have l:=(t.trans b).trans D;refine Ad (P:=rB (kf pS) a 293 (.ref 414)) S (xA (by nofun)) (Nm T (cF (Ev.at J j l λb0 b1 u=>(cF (Ev.at L j (l.trans u) λb2 b3 F=>(eQ (xB (Ev.at M j ((l.trans u).trans F) λG H e6=>?_)))) R)) x) x);have m:=(u.trans F).trans e6;refine xC ⟨⟨m _ _ E,(B.bs.keeps (l.trans m)).k⟩,?_⟩;rw[V];exact dq (xI (s:=⟨G,g,y,H,C⟩) (m _ _ E) (EC B Y _ G g y H C (j.le hk) (l.trans m) λa3 a4 a5 e7 hn=>Z a3 a4 a5 ((b.trans D).trans (m.trans e7)) hn))
theorem ac6(B:Bz z h)(I:aO k h (aa p env) (.ref 414))(J:aO k h (aa c env) (.ref la))(hl:h.IsList la #[s,e])(L:aO k h (aa i env) (.ref M))(hk:autoParam (8<=k) fW)
  (N:autoParam (aa (.Call (.Attribute p "from_endpoints" x) [.Starred c t] [⟨W "context",i,p1⟩] pos) env=(do
   let y<-aa p env
   fB x.atName
   let(f,first)<-fI [y] (do bj (<-fc y "from_endpoints" af,([]:List aq)))
   dH pos f first (bG pos (aH [.Starred c t] env)) (bZ pos (cf [⟨W "context",i,p1⟩] env)))) rf)
  (O:autoParam (bG pos (aH [.Starred c t] env)=[(af,(do let v<-aa c env;fB pos;bj v))]) rf)
  (R:autoParam ((bZ pos (cf [⟨W "context",i,p1⟩] env)).all (·.1.isSome)=af) rf)(S:∀u:List aq,((bZ pos (cf [⟨W "context",i,p1⟩] env)).filterMap (·.1)).zip u=([("context":aA)].zip u):=by intro u;rfl):
  Ev k h (aa (.Call (.Attribute p "from_endpoints" x) [.Starred c t] [⟨W "context",i,p1⟩] pos) env) (mM h M s e):=by
 intro T Q a5 g C tk D l w V;simp only[N];refine aB (Ev.at I l w λa6 a7 c=>aB (gG (aB (eH (aB (hY (acR (b:=af) (B.bs.keeps (w.trans c))) (l.le (wu hk)) Ext.rfl λv a8 a9 Y Z=>aV ?_))))));have i:=c.trans Y;obtain⟨a,rfl,E⟩:=Z;have m:=w.trans i;simp only[O];refine ab7 (P:=rB (kf pS) a 293 (.ref 414)) (xA (by nofun)) R (Ev.at J l m λb0 b1 F=>(xB (Ev.at L l (m.trans F) λb2 G e5=>xC ?_)));have j:=F.trans e5;refine akl (ew hl (m.trans j)) (show 2<=fv by decide) λH n=>⟨⟨(j.trans n) _ _ E,(B.bs.keeps (m.trans (j.trans n))).k⟩,?_⟩;rw[S];exact dq (xI (s:=⟨H,g,C,G,D⟩) ((j.trans n) _ _ E) (EC B T _ H g C G D (l.le hk) (m.trans (j.trans n)) λa0 a3 a4 e7 hn=>V a0 a3 a4 (i.trans ((j.trans n).trans e7)) hn))
set_option tactic.hygienic true in
theorem eI.grow(p:eI n on)(b:n%4=0):eI (n+4) (cS on n):=by
 intro x a;unfold cS;split
 .rename_i h;exact p x h
 .exact GZ a ‹_›
theorem Gx.grow{z h h':aK}{Y:Lay}{q:Qd}{pa pb:az}{a b:Pt}{v:aq}(G:Gx z h Y q)(o:Ext z h)(e:Ext h h')(N:mM h Y.ctx (.ref pa) (.ref pb) v h')(p:bN h pa a.1 a.2)(r:bN h pb b.1 b.2):
  ∃d,gy q.n Y d/\v= .ref (d.ad q.n)/\d.st q.n= .ref pa/\d.st (q.n+2)= .ref pb/\Gx z h' d (q.grow a b):=by
 obtain⟨d,j,rfl,s1,s2,R⟩:=G.R.grow o e N rfl rfl;refine⟨d,j,rfl,s1,s2,⟨R,⟨λx k l=>?_⟩,by simp only[j.ctx];exact G.C.keeps e,G.pa.grow G.R.n4⟩⟩;replace k:x<q.n+4:=k;show∃f,d.st x= .ref f/\bN h' f (bu q.P q.n a b x).1 (bu q.P q.n a b x).2;unfold bu;by_cases g:x=q.n
 .rw[if_pos g,g,s1];exact⟨pa,rfl,p.keeps e⟩
 .rw[if_neg g];by_cases i:x=q.n+2
  .rw[if_pos i,i,s2];exact⟨pb,rfl,r.keeps e⟩
  .rw[if_neg i];have m:x<q.n:=by exact RS l k (G.R.n4) g i
   rw[j.st x m];obtain⟨f,e1,e2⟩:=G.T.pt x m l;exact⟨f,e1,e2.keeps e⟩
inductive Made(z h:aK)(Y:Lay)(q q':Qd)(g i:Nat)(v:aq)(h':aK):Prop
 |mk (a:Lay) (c d:az) (j:gy q.n Y a) (e:v= .ref c) (M:Mx z h h') (G:Gx z h' a q') (T:cX h' c d (.ref Y.ctx) (.ref (a.ad g)) (.ref (a.ad i))) (zd:z.get? d=X) (k:∀b f,¬gz f->h.get? b=W f->b≠d)
theorem akG{z h:aK}{Y:Lay}{q:Qd}{la pa pb:az}{a b:Pt}(B:Bz z h)(G:Gx z h Y q)(hl:h.IsList la #[.ref pa, .ref pb])(I:bN h pa a.1 a.2)(J:bN h pb b.1 b.2):
  eJ 12 h (.call (.ref 549) ⟨[.ref la, .ref Y.ctx],[]⟩) (Made z h Y q (q.grow a b) q.n (q.n+2)):=by
 refine jj (k:=11) (fd:=EP) (body:=bodyOf EP) (binds:=[("sorted_points", .ref la),("context", .ref Y.ctx)]) B.bs (tF _) rfl
  (λi i i i i i=>eR rfl) (by nofun) (by nofun) rfl rfl rfl ?_
 intro a0 j A g dr tk o Q w M;have f:=Im.start B j;refine lJ f.ns (ac6 (k:=11) f.bz (cB f.bs (by nofun)) (ah f.ns) (ew hl j.keep) (ah f.ns)) w λN a3 O a4 l p s P=>?_;obtain⟨x,D,rfl,_,_,u⟩:=(G.keeps j.keep).grow f.bz.e l p (I.keeps j.keep) (J.keeps j.keep);have c:=(f.ext l).set s P;have E:Gx z O x (q.grow a b):=⟨u.R.set (f.ext l).ns rfl s,u.T.set (f.ext l).ns s,by simp only[D.ctx];exact G.C.mx c.keep,u.pa⟩;have S:q.n<(q.grow a b).n:=rF (by decide);refine fL (h₀:=h) (L:=0) (m:=λi=>X) (xi (k:=11) c.bz (cB c.bs (by nofun)) (ah c.ns) (fG c.bs E.R.toRep S (ah c.ns)) (ah c.ns)) w λN V Z H p=>?_;obtain⟨t,d,rfl,T,n1,n2⟩:=p;replace T:=(gE G.R.n4)▸T;refine M _ V Z ⟨x,t,d,D,rfl,(c.ext H).keep,E.keeps H,T,ml c.bz.e n2,?_⟩ (.ret _) rfl;rintro b ob nb hb rfl;have:=c.keep b ob (.inr nb) hb;replace this:=(n2)▸this;cases this
theorem abD(b:dY k h (aa e env) P)(r:aU k A)
  (q:∀v h' a,P v h'->aF (MM) A (bg rest env) Q aE ⟨h',g,d,a,o⟩)(c:autoParam (FK env=aw) rf)(hs:autoParam (mB e X p.line env=bj aw) rf):
  aF (MM) A (bg (.Expr e p::rest) env) Q aE ⟨h,g,d,tk,o⟩:=by
 exact de ((exec_Expr env e p c hs)▸aB (gG (aB (b A _ g d tk o r λv h' a f=>wpAny_dropValue (q v h' a f)))))
theorem dY.BA(x:Ev k h t P):dY k h t (λv h'=>Ext h h'/\P v h'):=
 λa b g c f i j l=>x a b h g c f i j Ext.rfl λv h' m n s=>l v h' m ⟨n,s⟩
theorem abB(N:h.Ns env.locals m)
  (B:aO k h (aa a env) (.ref la))(hl:h.IsList la #[v1,v2,v3])(r:aU k A)
  (q:∀h' c C,Ext h h'->dE env.locals h' c->c.Ns env.locals (λs=>if s=u then W v3 else if s=y then W v2 else if s=x then W v1 else m s)->aF (MM) A (bg rest env) Q aE ⟨c,g,d,C,o⟩)
  (hs:autoParam (yj [.Tuple [.Name x p1, .Name y p2, .Name u p3] l n] a pos.line env=bj aw) rf)
  (D:autoParam (yi [.Tuple [.Name x p1, .Name y p2, .Name u p3] l n] a env=bj X) rf)
  (E:autoParam (env.kindOf x=W .local) rf)(F:autoParam (env.kindOf y=W .local) rf)(G:autoParam (env.kindOf u=W .local) rf)
  (f:autoParam ((env.scope.kind== .class||(env.scope.kind== .module&&env.locals !=env.globals))=aw) rf)
  (H:autoParam ((pX [.Name x p1, .Name y p2, .Name u p3] env).map (·.2)=[λv=>jH (.Name x p1) env v,λv=>jH (.Name y p2) env v,λv=>jH (.Name u p3) env v]) rf)
  (I:autoParam ((pX [.Name x p1, .Name y p2, .Name u p3] env).findIdx? (·.1)=X) rf)(Z:autoParam ((pX [.Name x p1, .Name y p2, .Name u p3] env).length=3) rf)
  (i:∀(s:aA) (p:cC) (v:aq),jH (.Name s p) env v=(do fB p;bindName env s v):=by intro s p v;rfl):
  aF (MM) A (bg (.Assign [.Tuple [.Name x p1, .Name y p2, .Name u p3] l n] a pos::rest) env) Q aE ⟨h,g,d,tk,o⟩:=by
 refine de (CE (Ev.at B r Ext.rfl λt J j=>?_) hs D);simp only[assign_Tuple];refine aB (gG ?_);unfold unpack;refine(I)▸(H)▸(aB (eH (kun_itemsOf (s:=⟨t,g,d,J,o⟩) (items:=#[v1,v2,v3]) r.h (ew hl j) λw L=>?_)));have z:Ext t w:=λM o x=>L M o (cJ (dA x)) x;refine gP ?_;rw[i];refine aB (gG (mP (fw E (N.keeps (j.trans z)) (λa0 O P=>(gP ?_)) f)));rw[i];refine aB (gG (mP (fw F O (λa3 R S=>(gP ?_)) f)));rw[i];exact aB (gG (mP (fw G R (λT V Y=>(rN (q w T _ (j.trans z) (vC (vC P S) Y) V))) f)))
noncomputable def HK(q:Qd)(i j:Nat)(a:Int):Qd×Nat×Nat:=if 0<a then(q.conn j i,i,U j) else if a<0 then(q.conn j i,U q.n,q.n) else(q,i,U j)
theorem akH(q:Qd)(a b c:Pt)(d:q.n%4=0):HK (q.path a b c) q.n (q.n+4) (ju a.1 a.2 b.1 b.2 c.1 c.2)=jk q a b c:=by
 have o4:U (q.n+4)=q.n+6:=by unfold U;exact GA d
 have o8:U (q.path a b c).n=q.n+10:=by show U (q.n+8)=_;unfold U;exact aiq d
 unfold HK jk;rw[aco q a b c d,o4,o8];rfl
theorem akK{z h₀ h:aK}{L:az}{m:aA->Option aq}{Y:Lay}{q:Qd}{A:cT}{g:Array dQ}{d:dT}{tk:Nat}{o:df}{Q:dM->aT->Prop}{Y0:Lay}{i j:Nat}{N:Int}(f:Im z h₀ L m h)(G:Gx z h Y q)(C0:Ctx h₀ Y0.ctx)(ec:Y.ctx=Y0.ctx)(H:i<q.n)(t:j<q.n)(ei:i%2=0)(ej:j%2=0)
  (O:m "first_edge"=W (.ref (Y.ad i)))(P:m "second_edge"=W (.ref (Y.ad j)))(m3:m "orientation"=W (mw N))(m4:m "context"=W (.ref Y0.ctx))(S:m "_context"=X)(r:aU 13 A)
  (fin:∀q' V ls rs C u b2 v mm,HK q i j N=(q',ls,rs)->gy q.n Y V->Im z h₀ L mm C->Gx z C V q'->Ext C u->Dt C (.ref Y0.ctx) (.ref (V.ad ls)) (.ref (V.ad rs)) v u->Q (.ret v) ⟨u,g,d,b2,o⟩):
  aF (MM) A (bg ((bodyOf xn).drop 4) (aY xn L 556)) Q aE ⟨h,g,d,tk,o⟩:=by
 have lo:=G.R.bK t;have nl:∀{x},x<q.n->x<(q.conn j i).n:=λh=>fj h (fF _ _);refine mO (c:=0<N) (k:=13) (kc (ah f.ns m3) (cG (cB f.bs (v:= .ref 182) (by nofun)) (iD f.bs (v:= .ref 178) (by nofun) (by nofun) rfl)) λA Q s e q=>Oq (f.bs.keeps e) q) r (λZ C b3 R b D br=>?_) λZ C b3 R b D br=>?_
 .have a0:=f.ext b;refine abD (k:=13) (tc a0.bz (G.keeps b) t H (ah a0.ns P) (ah a0.ns O) _ rfl) r λv u a9 p=>?_;obtain⟨w,E,_,M,J⟩:=(G.keeps b).conn t H ej ei p;have a:=a0.mx M S;exact fL (h₀:=h) (L:=0) (m:=λD=>X) (xi (k:=13) (l:= .ref (w.ad i)) (r:= .ref (w.ad (U j))) a.bz (cB a.bs (by nofun)) (E.ad _ H▸ah a.ns O) (fG a.bs J.R.toRep (nl t) (E.ad _ t▸ah a.ns P)) (ah a.ns m4)) r λv a3 a4 e3 p=>
   br _ _ (λh=>nomatch h) (fin _ w _ _ u a3 a4 v m (if_pos Z) E a J e3 p)
 .refine mO (c:=N<0) (k:=13) (kc (ah (f.ns.keeps b) m3) (cG (cB (f.bs.keeps b) (v:= .ref 182) (by nofun)) (iD (f.bs.keeps b) (v:= .ref 172) (by nofun) (by nofun) rfl)) λA Q s e q=>AQ ((f.bs.keeps b).keeps e) q) r (λc2 u a9 R' F D a6=>?_) λc2 u a9 R' F D a6=>?_
  .have a:=f.ext (b.trans F);have J:=G.keeps (b.trans F);refine DO (k:=13) (m:=m) (tc a.bz J t H (ah a.ns P) (ah a.ns O) _ rfl) (λv h1 p=>by obtain⟨_,_,_,_,_,a5,_⟩:=p;exact(a.mx a5 S).ns) r λv a3 b0 b6 p sb hn=>?_;obtain⟨w,E,rfl,M,a7⟩:=J.conn t H ej ei p;have a8:=a.mx M S;have B:=a8.set sb hn;have b1:Gx z b0 w (q.conn j i):=⟨a7.R.set a8.ns S sb,a7.T.set a8.ns sb,by rw[E.ctx,ec];exact C0.mx B.keep,a7.pa⟩;exact fL (h₀:=h) (L:=0) (m:=λD=>X) (xi (k:=13) (l:= .ref (w.ad (U q.n))) (r:= .ref (w.ad q.n)) B.bz (cB B.bs (by nofun)) (fG B.bs b1.R.toRep (rF (by decide)) (ah B.ns rfl)) (ah B.ns rfl) (ah B.ns m4)) r λv b4 b5 e5 p=>
    a6 _ _ (λh=>nomatch h) (br _ _ (λh=>nomatch h) (fin _ w _ _ b0 b4 b5 v _ ((if_neg Z).trans (if_pos c2)) E B b1 e5 p))
  .have a:=f.ext (b.trans F);exact fL (h₀:=h) (L:=0) (m:=λD=>X) (xi (k:=13) (l:= .ref (Y.ad i)) (r:= .ref (Y.ad (U j))) a.bz (cB a.bs (by nofun)) (ah a.ns O) (fG a.bs (G.keeps (b.trans F)).R.toRep t (ah a.ns P)) (ah a.ns m4)) r λv a3 a4 e3 p=>
    a6 _ _ (λh=>nomatch h) (br _ _ (λh=>nomatch h) (fin _ Y _ _ u a3 a4 v m ((if_neg Z).trans (if_neg c2)) (gy.refl _ _) a (G.keeps (b.trans F)) e3 p))
theorem akJ{z h:aK}{Y:Lay}{q:Qd}{la pa pb pc:az}{a b c:Pt}(B:Bz z h)(G:Gx z h Y q)(hl:h.IsList la #[.ref pa, .ref pb, .ref pc])(ia:bN h pa a.1 a.2)(ib:bN h pb b.1 b.2)(ic:bN h pc c.1 c.2):
  eJ 14 h (.call (.ref 556) ⟨[.ref la, .ref Y.ctx],[]⟩) (Made z h Y q (jk q a b c).1 (jk q a b c).2.1 (jk q a b c).2.2):=by
 refine jj (k:=13) (fd:=xn) (body:=bodyOf xn) (binds:=[("sorted_points", .ref la),("context", .ref Y.ctx)]) B.bs (tF _) rfl
  (λE E E E E E=>eR rfl) (by nofun) (by nofun) rfl rfl rfl ?_
 intro d2 l A g dr tk o Q L qq;have j:=G.R.n4;refine abB (k:=13) (Im.start B l).ns (ah (Im.start B l).ns) (ew hl l.keep) L λd3 a0 d4 M sb hn=>?_;have f:=((Im.start B l).ext M).set sb hn;have b4:Gx z a0 Y q:=⟨((G.keeps l.keep).keeps M).R.set ((Im.start B l).ext M).ns rfl sb,((G.keeps l.keep).keeps M).T.set ((Im.start B l).ext M).ns sb,G.C.mx f.keep,G.pa⟩;refine LJ (x:="first_edge") (y:="second_edge") (k:=13) (m:=_) (P1:=λH O=>Ext a0 O/\mM a0 Y.ctx (.ref pa) (.ref pb) H O) (P2:=λE S H O=>Ext S O/\mM S Y.ctx (.ref pb) (.ref pc) H O)
  (dY.BA (Nk (k:=13) f.bz (cB f.bs (by nofun)) (ah f.ns) (ah f.ns) (ah f.ns) _ rfl))
  (λv1 S p=>dY.BA (Nk (k:=13) (f.ext p.1).bz (cB (f.ext p.1).bs (by nofun)) (ah (f.ext p.1).ns) (ah (f.ext p.1).ns) (ah (f.ext p.1).ns) _ rfl))
  (λv1 S v2 h2 p b5=>((f.ext p.1).ext b5.1).ns) L ?_
 rintro v1 b6 v2 b7 d5 b8 d6 ⟨s,n1⟩ ⟨V,n2⟩ I a3 b9;obtain⟨Y1,a8,rfl,s1,s2,c0⟩:=b4.grow f.bz.e s n1 ((ia.mx f.keep)) ((ib.mx f.keep));have c1:mM b6 Y1.ctx (.ref pb) (.ref pc) v2 b7:=by rw[a8.ctx];exact n2
 obtain⟨Y2,a9,rfl,s3,s4,a4⟩:=c0.grow (f.ext s).bz.e V c1 (((ib.mx f.keep)).keeps s) (((ic.mx f.keep)).keeps s);have i:=(((f.ext s).ext V).ext I).set a3 b9;have Z:=a8.trans a9 (fF q.n 4);have u:Gx z b8 Y2 ((q.grow a b).grow b c):=⟨(a4.keeps I).R.set (((f.ext s).ext V).ext I).ns rfl a3,(a4.keeps I).T.set (((f.ext s).ext V).ext I).ns a3,by simp only[Z.ctx];exact G.C.mx i.keep,(a4.keeps I).pa⟩;rw[<-a9.ad q.n (rF (by decide))] at i;have l1:=show q.n<q.n+4+4 by exact aik
 have l2:=show q.n+4<q.n+4+4 by exact Hc
 refine lK (k:=13) (ym i.bz u.R (u.R.bK l1) l2 (fG i.bs u.R.toRep l1 (ah i.ns)) (ah i.ns) _ rfl) L λH c2 d7 hv=>?_;obtain⟨D,b0⟩:=hv;simp only[(gE j)] at b0;have J:Gx z c2 Y2 (q.path a b c):=⟨b0,u.T.mx D,u.C.mx D,u.pa.dU u.R.on (ail j) (Hb) l2 (aim)⟩;have lp:(q.path a b c).n=q.n+8:=rfl;have p1:=ain lp;have p2:=aio lp;have p3:=aip lp;have o4:U (q.n+4)=q.n+6:=by unfold U;exact GA j
 have s6:=s4;have c3:(q.path a b c).P q.n=a:=by show bu (bu q.P q.n a b) (q.n+4) b c q.n=a;unfold bu;rw[if_neg (Bq),if_neg (Ha),if_pos rfl]
 have c4:(q.path a b c).P (q.n+2)=b:=by show bu (bu q.P q.n a b) (q.n+4) b c (q.n+2)=b;unfold bu;rw[if_neg (Qp),if_neg (Qq),if_neg (oG),if_pos rfl]
 have c5:(q.path a b c).P (q.n+6)=c:=by show bu (bu q.P q.n a b) (q.n+4) b c (q.n+6)=c;unfold bu;rw[if_neg (Bp),if_pos rfl]
 have c6:dZ (q.path a b c).P q.n (U q.n) (q.n+6)=ju a.1 a.2 b.1 b.2 c.1 c.2:=by rw[(gE j)];unfold dZ;rw[c3,c4,c5]
 refine lJ (i.mx D rfl).ns (rR (k:=13) (i.mx D rfl).bs J.R.toRep J.C J.T p1 (kU j) p3 (Qo j) (ah (i.mx D rfl).ns) (s6▸ah (i.mx D rfl).ns) _ rfl) L λH d8 c7 d9 e9 hv a5 b1=>?_;subst hv;rw[c6] at b1;have a6:=(i.mx D rfl).ext e9;have b2:=a6.set a5 b1;have c8:Gx z c7 Y2 (q.path a b c):=⟨(J.keeps e9).R.set a6.ns rfl a5,(J.keeps e9).T.set a6.ns a5,by simp only[Z.ctx];exact G.C.mx b2.keep,(J.keeps e9).pa⟩;refine akK (Y0:=Y) b2 c8 G.C Z.ctx p1 p2 (kU j) (ve j) rfl rfl rfl rfl rfl L λq' Y' ls rs e0 c9 d0 H mm et ag a7 d1 b3 N=>?_;rw[akH q a b c j] at et;obtain⟨t,d,rfl,T,n1,n2⟩:=N;refine qq _ c9 d0 ⟨Y',t,d,Z.trans ag (afM),rfl,(a7.ext b3).keep,et▸d1.keeps b3,et▸T,ml a7.bz.e n2,?_⟩ (.ret _) rfl;rintro b ob nb hb rfl;have:=a7.keep b ob (.inr nb) hb;rw[n2] at this;cases this
section
variable {k:Nat} {z h₀ h h':Heap} {L:Addr} {m m':Str->Option Value} {env:Env} {Y:Lay} {q:Qd}
theorem qi{b e:Expr}{a:cC}{id:String}{v:Value}{P:Value->Heap->Prop}(p:aO k h (aa b env) (.builtin id))(s:aO k h (aa e env) v)
  (C:∀h',Ext h h'->Ev k h' (eU (.builtin id) [v]) P)(t:autoParam (aa (.Call b [e] [] a) env=(do dH a (<-aa b env) [] (bG a (aH [e] env)) (bZ a (cf [] env)))) rf)
  (j:autoParam (aH [e] env=(aw,aa e env)::aH [] env) rf)(u:autoParam ((bG a (aH [] env)).any (·.1)=aw) rf):
  Ev k h (aa (.Call b [e] [] a) env) P:=by
 intro w J M g x N y c f q;rw[t];refine aB (Ev.at p c f λO R i=>(Dw (cF (Ev.at s c (f.trans i) λl B n=>?_) j) j u));exact eQ (C l ((f.trans i).trans n) w _ l g x B y c Ext.rfl λD E G H I=>q D E G ((i.trans n).trans H) I)
theorem rQ{a:Addr}{vs:Array Value}(hl:h.IsList a vs)(b:vs.size<2^62):Ev k h (eU (.builtin "len") [.ref a]) (λv z=>∃t,v= .int vs.size t):=by intro n p c g f i j u l q;exact Calls.call_len_list (s:=⟨c,g,f,i,j⟩) (ew hl l) (RM b) (q _ _ _ Ext.rfl ⟨_,rfl⟩)
theorem abX{a:Addr}{vs:Array Value}(hl:cU h a vs)(b:vs.size<2^62):Ev k h (eU (.builtin "len") [.ref a]) (λv z=>∃t,v= .int vs.size t):=by intro n p c g f i j u l q;exact len_tuple (s:=⟨c,g,f,i,j⟩) (hl.keeps l) (RM b) (q _ _ _ Ext.rfl ⟨_,rfl⟩)
theorem Av{l r:Expr}{t:cC}{i j:Int}{w:dG Value}(x:aX k h (aa l env) i)(y:aX k h (aa r env) j)(B:lO .Eq r=aw:=by with_unfolding_all rfl):
  Ev k h (isTrue (.Compare l [.Eq] [r] t) env w) (λb z=>b=decide (i=j)):=by
 intro d M C g dr D f n p q;refine ti (x d _ C g dr D f n p λE F G s a=>?_) B;obtain⟨N,rfl⟩:=a;refine y d _ F g dr G f n (p.trans s) λE H O I a=>?_;obtain⟨P,rfl⟩:=a;refine eq_int (gH (q _ H _ (s.trans I) ?_));by_cases J:i=j<;>simp[J]
theorem aci{A:cT}{g:Array dQ}{d:dT}{tk:Nat}{o:df}{pl:dG Bool}{Q:Value×List Value->aT->Prop}(B:Bs h)
  (q:∀a h' j,Ext h h'->h'.get? a=W (sA (.ref 482) (.ref 488))->Q (.ref a,[]) ⟨h',g,d,j,o⟩):aF (MM) A (ie (.ref 488) "_initialize_triangulation" pl) Q aE ⟨h,g,d,tk,o⟩:=by
 refine OW (s:=⟨h,g,d,tk,o⟩) B.k (by nofun) ?_;have c:∃i,jQ (kf pS) 484 "classmethod"=W (.ref 482::i):=by
  have h:((jQ (kf pS) 484 "classmethod").bind rA)=W (.ref 482):=by nofun
  obtain⟨f,h1,h2⟩:=Option.bind_eq_some_iff.mp h;cases f with
  |nil=>cases h2
  |cons x f=>cases h2;exact⟨f,h1⟩
 obtain⟨i,c⟩:=c;exact bJ (Q:=λn p=>Q (n,[]) p) (E:=λz z=>False) (Ai (s:=⟨h,g,d,tk,o⟩) (mc:= .type "type") (g:= .builtin "classmethod.__get__") (a:= .ref 484) (obj:= .none) (tp:= .ref 488) B.k (by nofun) (by nofun) (dq (Aj (s:=⟨h,g,d,tk+1,o⟩) B.k c (sf rfl (q _ _ _ (λw o r=>Heap.get?_push_of_some _ r) (by heap_get)))))) (λz z x=>x) λz z x=>x.elim
theorem LN{A:cT}{g:Array dQ}{d:dT}{tk:Nat}{o:df}{Q:dM->aT->Prop}{e:Expr}{p:cC}{rest:List cQ}{P:Value->Heap->Prop}
  (b:dY k h (aa e env) P)(r:aU k A)(q:∀v h' a,P v h'->Q (.ret v) ⟨h',g,d,a,o⟩):aF (MM) A (bg (.Return (W e) p::rest) env) Q aE ⟨h,g,d,tk,o⟩:=
 de (qY (b A _ g d tk o r λv h' a c=>q v h' a c))
theorem Gg{f g:Heap}{q':Qd}{i j:Nat}{v:Value}(e:Ext h f)(M:Made z f Y q q' i j v g):Made z h Y q q' i j v g:=by obtain⟨l,t,d,a1,a2,n,r,s,u,w⟩:=M;exact⟨l,t,d,a1,a2,(λa c x A=>n a c x (e a c A)),r,s,u,λa c B C=>w a c B (e a c C)⟩
theorem Oi{la:Addr}{vs:Array Value}{q':Qd}{p s:Nat}{f:Addr}(B:Bz z h)(hl:h.IsList la vs)(T:vs.size<4)(hf:f=if vs.size=2 then 549 else 556)
  (R:∀h',Ext h h'->eJ 14 h' (.call (.ref f) ⟨[.ref la, .ref Y.ctx],[]⟩) (Made z h' Y q q' p s)):
  eJ 15 h (.call (.ref 482) ⟨[.ref 488, .ref la, .ref Y.ctx],[]⟩) (Made z h Y q q' p s):=by
 refine jj (k:=14) (fd:=Fg) (body:=bodyOf Fg) (binds:=[("cls", .ref 488),("points", .ref la),("context", .ref Y.ctx)]) B.bs (tF _) rfl
  (λl l l l l l=>eR rfl) (by nofun) (by nofun) rfl rfl rfl ?_
 intro V a Z g dr tk o Q u S;refine oe (c:=decide ((vs.size:Int)=2)) (k:=14) (Av (qi (v:= .ref la) (eY (B.keeps a.keep).bs (by nofun) (by boot_by_name) (by decide)) (ah a.ns) λh' i=>rQ (ew (ew hl a.keep) i) (Nat.le_trans T (by decide))) (ct)) u λa0 a3 d=>?_;have t:=Ext.trans a.keep d;by_cases n:vs.size=2
 .rw[if_pos (decide_eq_true (by exact CT.mp (congrArg Neg.neg (congrArg Nat.cast n))))];rw[if_pos n] at hf;subst hf;refine LN (k:=14) (vH (k:=14) (f:=549) (vs:=[.ref la, .ref Y.ctx]) (P:=Made z h Y q q' p s) ((B.keeps a.keep).keeps d).bs (cB ((B.keeps a.keep).keeps d).bs (by nofun)) ((eM (ah (a.ns.keeps d)) (kb (ah (a.ns.keeps d)))).imp λvs=>by rintro⟨b,rest,rfl,rfl,rfl⟩;rfl)
   (λh' i=>λw x C D E G H I=>R h' (t.trans i) w x C D E G H λb J M j=>I b J M (Gg (t.trans i) j)) (by nofun)) u λb N O j=>?_
  exact S b N O j (.ret b) rfl
 .rw[if_neg (by simp;exact Nat.ToInt.of_diseq rfl rfl n)];rw[if_neg n] at hf;subst hf;refine cA ?_;refine LN (k:=14) (vH (k:=14) (f:=556) (vs:=[.ref la, .ref Y.ctx]) (P:=Made z h Y q q' p s) ((B.keeps a.keep).keeps d).bs (cB ((B.keeps a.keep).keeps d).bs (by nofun)) ((eM (ah (a.ns.keeps d)) (kb (ah (a.ns.keeps d)))).imp λvs=>by rintro⟨b,rest,rfl,rfl,rfl⟩;rfl)
   (λh' i=>λw x C D E G H I=>R h' (t.trans i) w x C D E G H λb J M j=>I b J M (Gg (t.trans i) j)) (by nofun)) u λb N O j=>?_
  exact S b N O j (.ret b) rfl
end
noncomputable def Kp(p:Array Nat)(i:Nat):Nat:=p[i]?.getD 0
structure jE(n:Nat)(lt:Nat->Nat->Bool)(a:Nat->Nat->(Bool->aT->Prop)->aT->Prop)(s:aT):Prop where
 pos:0<n
 HI:∀i j,i<n->j<n->i≠j->lt i j=aw->lt j i=af
 tr:∀i j k,i<n->j<n->k<n->lt i j=af->lt j k=af->lt i k=af
 ask:∀i j C,i<n->j<n->C (lt i j) s->a i j C s
structure Pm(n:Nat)(p:Array Nat):Prop where
 perm:p.Perm (nU (fD n))
def lB(c:Nat->Nat->Bool)(p:Array Nat)(m:Nat):Prop:=∀b a,b<a->a<m->c (Kp p b) (Kp p a)=af
def Dec(c:Nat->Nat->Bool)(p:Array Nat)(m:Nat):Prop:=∀b a,b<a->a<m->c (Kp p a) (Kp p b)=af
theorem Pm.size(P:Pm n p):p.size=n:=by have:=P.perm.size_eq;simpa using this
theorem Pm.rO(P:Pm n p)(a:i<n):p[i]?.getD 0<n:=by
 have b:=P.size;have c:p[i]?=W p[i]:=by simp[b,a]
 rw[c];have:p[i]∈p.toList:=by simp
 have:p[i]∈(nU (fD n)).toList:=P.perm.toList.mem_iff.mp this;simpa using this
theorem Pm.inj(P:Pm n p)(d:i<n)(f:j<n)(e:p[i]?.getD 0=p[j]?.getD 0):i=j:=by
 have b:=P.size;have h:=P.perm.toList.nodup_iff.mpr (by simpa using ZT);have k:p[i]?=W p[i]:=by simp[b,d]
 have l:p[j]?=W p[j]:=by simp[b,f]
 simp only[k,l] at e;have g:p.toList[i]'(by simpa using b▸d)=p.toList[j]'(by simpa using b▸f):=by simpa using e
 have pw:=Dm.mp h;rcases KH i j with a|a|a
 .exact absurd g (pw i j _ _ a)
 .exact a
 .exact absurd g.symm (pw j i _ _ a)
theorem gd(p:Array Nat)(i:Nat):p.getD i 0=p[i]?.getD 0:=by simp[Jn]
theorem jE.wU(S:jE n lt a s)(P:Pm n p)(b:i<n)(c:j<n)(h:C (lt (Kp p i) (Kp p j)) s):a (p.getD i 0) (p.getD j 0) C s:=by rw[gd,gd];exact S.ask _ _ C (P.rO b) (P.rO c) h
theorem jE.tt(S:jE n lt f s)(P:Pm n p)(a:i<n)(b:j<n)(h:i≠j)(c:¬lt (Kp p i) (Kp p j)=af):lt (Kp p j) (Kp p i)=af:=
 S.HI _ _ (P.rO a) (P.rO b) (λd=>h (P.inj a b d)) (pG.mpr c)
theorem jE.t3(S:jE n lt e s)(P:Pm n p)(c:i<n)(d:j<n)(hk:k<n)(a:lt (Kp p i) (Kp p j)=af)(b:lt (Kp p j) (Kp p k)=af):lt (Kp p i) (Kp p k)=af:=
 S.tr _ _ _ (P.rO c) (P.rO d) (P.rO hk) a b
theorem DN(S:jE n lt t s)(P:Pm n p):∀(f m:Nat) (Q:Nat->aT->Prop),1<=m->m+f=n->lB lt p m->
  (∀g,m<=g->g<=n->lB lt p g->(g=n\/(g<n/\lt (Kp p g) (Kp p (g-1))=af))->Q g s)->(kas_asc p f m).kasWp t Q s
 |0,m,Q,u,hf,l,o=>o m (bT _) (by exact Rc hf) l (.inl (by exact Rd hf))
 |f+1,m,Q,u,hf,l,o=>by
  show t (p.getD m 0) (p.getD (m-1) 0) (λh z=>(if h=af then zA m else kas_asc p f (m+1)).kasWp t Q z) s;refine S.wU P (by exact mZ hf) (by exact sU hf) ?_;by_cases h:lt (Kp p m) (Kp p (m-1))=af
  .rw[h,if_pos rfl];exact o m (bT _) (by exact Rf hf) l (.inr ⟨by exact mZ hf,h⟩)
  .rw[pG.mpr h,if_neg (by decide)];have w:lt (Kp p (m-1)) (Kp p m)=af:=by exact S.tt P (i:=m) (j:=m-1) (mZ hf) (sU hf) (Rh u) h
   refine DN S P f (m+1) Q (Ri) (Gn hf) (λr k v A=>?_) λg B C h D=>o g (Rj B) C h D;by_cases x:k<m
   .exact l r k v x
   .have E:k=m:=He A x;subst E;by_cases y:r=k-1
    .rw[y];exact w
    .exact S.t3 P (Rk v hf) (sU hf) (mZ hf) (l r (k-1) (Rm v y) (Rn u)) w
theorem MN(S:jE n lt l s)(P:Pm n p):∀(f m:Nat) (Q:Array Nat×Nat×Nat->aT->Prop),1<=m->m+f=n->Dec lt p m->
  (∀h,m<=h->h<=n->Dec lt p h->Q (p,h,0) s)->(AU f p m 0).kasWp l Q s
 |0,m,Q,u,hf,o,r=>r m (bT _) (Rc hf) o
 |f+1,m,Q,u,hf,o,r=>by
  show l (p.getD m 0) (p.getD (m-1) 0) (λg v=>(if g=af then(if 0>0 then AU f (xx p (m-(0+1)) m) (m+1) 0 else AU f p (m+1) 0)
   else Zn (p.getD (m-1) 0) (p.getD m 0) λw=>if w=af then zA (p,m,0) else AU f p (m+1) (0+1)).kasWp l Q v) s
  refine S.wU P (mZ hf) (sU hf) ?_;by_cases g:lt (Kp p m) (Kp p (m-1))=af
  .rw[g,if_pos rfl,if_neg (by decide)];refine MN S P f (m+1) Q (Ri) (Gn hf) (λt k x A=>?_) λh B C g=>r h (Rj B) C g;by_cases y:k<m
   .exact o t k x y
   .have D:k=m:=He A y;subst D;by_cases z:t=k-1
    .rw[z];exact g
    .exact S.t3 P (mZ hf) (sU hf) (Rk x hf) g (o t (k-1) (Rm x z) (Rn u))
  .rw[pG.mpr g,if_neg (by decide)];have E:lt (Kp p (m-1)) (Kp p m)=af:=by exact S.tt P (i:=m) (j:=m-1) (by exact mZ hf) (by exact sU hf) (by exact Rh u) g
   show l (p.getD (m-1) 0) (p.getD m 0) (λw v=>(if w=af then zA (p,m,0) else AU f p (m+1) (0+1)).kasWp l Q v) s;refine S.wU P (by exact sU hf) (by exact mZ hf) ?_;rw[E,if_pos rfl];exact r m (bT _) (Rf hf) o
theorem Pm.rev(P:Pm n p)(i j:Nat):Pm n (xx p i j):=⟨(mirror_perm _ _ _ _).trans P.perm⟩
theorem Pm.bub(P:Pm n p)(i j:Nat):Pm n (bubble p i j):=⟨(bubble_perm _ _ _).trans P.perm⟩
theorem akp(S:jE n lt v s)(P:Pm n p)(l:1<=m)(o:m<=n)(w:Dec lt p m)
  (q:∀d h,Pm n h->1<=d->d<=n->lB lt h d->Q (d,h) s):(FQ m n p).kasWp v Q s:=by
 unfold FQ;simp only[zy];have x:m<=p.size:=by simp only[P.size];exact o
 have r:∀f<m,Kp (xx p 0 m) f=Kp p (m-1-f):=λf hk=>by delta Kp xx;rw[getElem?_mirror_all (i:=0) x f,if_pos ⟨Ro,hk⟩];congr 3;exact((fq 0x1492042853821400224b8c8 0x4610802408400098210042108400080250048108024084000803300421084200040190024084000a021004410802009820004012002408400088210040130421).2 (au rfl rfl))
 refine DN S (P.rev 0 m) (n-m) m _ l (aae o) (λt y u g=>?_) λd A B C D=>q d _ (P.rev 0 m) (eT l A) B C;simp only[r t (wA u g),r y g];exact w _ _ (ahB u g) (ahC g)
theorem acs(S:jE n lt o s)(P:Pm n p)(q:∀g v,Pm n v->1<=g->g<=n->lB lt v g->Q (g,v) s):(kas_count n p).kasWp o Q s:=by
 unfold kas_count;simp only[zy];refine DN S P (n-1) 1 _ (bT _) (by exact aae (S.pos)) (λx y r t=>by exact((dz 0x1610a4484a048 0x1084200842e).2 r t).elim) λf w k l z=>?_;by_cases u:f=n
 .rw[if_pos (by simp[u])];exact q f p P w k l
 .rw[if_neg (by simp[u])];by_cases h:f>1
  .rw[if_pos h];show o (p.getD 0 0) (p.getD (f-1) 0) (λl A=>(if l=af then zA (f,p) else kas_descPart f n (xx p 0 f)).kasWp o Q A) s;refine S.wU P (by exact fj (KS h) k) (by exact fj (KN h) k) ?_;rw[l 0 (f-1) (by exact Nat.zero_lt_sub_of_lt h) (by exact KN h),if_pos rfl];exact q f p P w k l
  .rw[if_neg h];have B:f=1:=(kl 0x428220211290808408 0x4210800100461).2 w h;subst B;unfold kas_descPart;simp only[zy];refine MN S P (n-2) 2 _ (by decide) ((dz 0x2122088880848a4202102041425c8 0x80230002308420000200880000481080200880008026004a108421).2 rfl k u) (λx y r t=>?_) λg C D E=>?_
   .have F:x=0:=(dz 0xa0820a4484a048 0x88210044108001005e1).2 r t;have G:y=1:=(dz 0x10a0820a04842448 0x8421000200bc0100461).2 r t;simp only[F,G];exact((z.resolve_left u).2)
   .show(if(0:Nat)>0 then FQ g n (xx p (g-(0+1)) g) else FQ g n p).kasWp o Q s;rw[if_neg (by decide)];exact akp S P (iy C) D E q
theorem Hp(S:jE n lt w s)(P:Pm n p)(hk:k<n)(z:lB lt p k):∀(f l r:Nat) (Q:Nat->aT->Prop),r-l<=f->l<=r->r<=k->(∀i<l,lt (Kp p i) (Kp p k)=af)->(∀i,r<=i->i<k->lt (Kp p k) (Kp p i)=af)->
  (∀A,A<=k->(∀i<A,lt (Kp p i) (Kp p k)=af)->(∀i,A<=i->i<k->lt (Kp p k) (Kp p i)=af)->Q A s)->(AV p k f l r).kasWp w Q s
 |0,l,r,Q,hf,C,d,o,B,t=>t l (by exact Rp C d) o λi x m=>B i (by exact ahD hf x) m
 |f+1,l,r,Q,hf,C,d,o,B,t=>by
  show(if l>=r then zA l else Zn (p.getD k 0) (p.getD ((l+r)/2) 0) λg=>if g=af then AV p k f l ((l+r)/2) else AV p k f ((l+r)/2+1) r).kasWp w Q s;by_cases g:l>=r
  .rw[if_pos g];exact t l (Rp C d) o λi x m=>B i (eT g x) m
  .rw[if_neg g];show w (p.getD k 0) (p.getD ((l+r)/2) 0) (λg G=>(if g=af then AV p k f l ((l+r)/2) else AV p k f ((l+r)/2+1) r).kasWp w Q G) s;refine S.wU P hk (ahE hk d g) ?_;generalize D:(l+r)/2=mi;have E:l<=mi:=ahF g D;have h:mi<r:=ahG g D;by_cases u:lt (Kp p k) (Kp p mi)=af
   .rw[u,if_pos rfl];refine Hp S P hk z f l mi Q (ahH hf h) E (eT (aak h) d) o (λi x m=>?_) t;by_cases v:i=mi
    .rw[v];exact u
    .exact S.t3 P (Rq hk) ((gm 0x250252c485a0084a848 0x2009001004a008821).2 hk x m) (wA m hk) u (z mi i (aap x λo=>v o.symm) m)
   .rw[pG.mpr u,if_neg (by decide)];have F:lt (Kp p mi) (Kp p k)=af:=by exact S.tt P (i:=k) (j:=mi) hk (Rr hk d h) ((fq 0x4a08a5244842808 0x11842008024).2 d h) u
    refine Hp S P hk z f (mi+1) r Q (ahI hf E) (QK h) d (λi x=>?_) B t;by_cases v:i=mi
    .rw[v];exact F
    .exact S.t3 P ((oC 0x1281042c120485b04852c084a848 0x4013002009801004c008421).2 hk d h x) (Rr hk d h) (Rq hk) (z i mi (o9 x v) (vk d h)) F
theorem LX(S:jE n lt D s):∀(f k:Nat) (p:Array Nat) (Q:Array Nat->aT->Prop),Pm n p->k+f=n->lB lt p k->(∀z,Pm n z->lB lt z n->Q z s)->(kas_bin f p k).kasWp D Q s
 |0,k,p,Q,m,hf,g,A=>A p m (have:k=n:=Rd hf;by simp only[<-this];exact g)
 |f+1,k,p,Q,m,hf,g,A=>by
  dsimp only[kas_bin];simp only[zy];refine Hp S m (mZ hf) g k 0 k _ (ahJ) (Ro) (ahK) (λe x=>by exact(QJ x).elim) (λe x E=>by exact((dz 0xb424484a008 0x8421).2 x E).elim) λc hl F G=>LX S f (k+1) (bubble p k (k-c)) Q (m.bub _ _) (Gn hf) (λe w d o=>?_) A;have B:∀x,Kp (bubble p k (k-c)) x=if x=k-(k-c) then Kp p k else if k-(k-c)<x/\x<=k then Kp p (x-1) else Kp p x:=λx=>by
   unfold Kp;rw[(λx=>getElem?_bubble (xs:=p) (src:=k) (m.size▸mZ hf) (k-c) (ahL) x) x];split
   .rfl
   .split<;>rfl
  simp only[B e,B w];have C:k-(k-c)=c:=Nat.sub_sub_self hl;rw[C];by_cases h:e=c
  .rw[if_pos h,if_neg (ahM d h),if_pos (by exact by refine⟨?_,?_⟩<;>first|exact lt_of_eq_of_lt h.symm d|exact pK o)];exact G _ (ahN d h) (Rt d o)
  .rw[if_neg h];by_cases r:w=c
   .rw[if_pos r,if_neg (ahO d r)];exact F e (Qg d r)
   .rw[if_neg r];by_cases t:c<e/\e<=k
    .rw[if_pos t,if_pos (ahP d o t)];exact g _ _ ((afj 0x35825a008508c84a0480852d70428638c8 0x21084014044009424000200ac01304810002008801504800842100461a80250900008036004012002609021).2 (au rfl rfl) d t) (Rt d o)
    .rw[if_neg t];by_cases u:c<w/\w<=k
     .rw[if_pos u];exact g _ _ ((oC 0x31025a409508c85a008508ca4290452128120214b1c8 0x2008c0128480004612840008023004012802608c01000200d001404200902400001006c008025004e118021).2 rfl d h t u) ((gm 0x958928021423202142dc8 0x40128020088000982100421080230c40100441).2 rfl u)
     .rw[if_neg u];exact g _ _ d (ahQ o C r u)
theorem ake(S:jE n lt g s)(q:∀p,Pm n p->lB lt p n->Q p s):(kas_sort n).kasWp g Q s:=by
 unfold kas_sort;simp only[zy];refine acs S ⟨Array.Perm.refl _⟩ λa p d h i f=>?_;rw[show max a 1=a by exact aas h];by_cases b:a<n
 .rw[if_pos b];exact LX S (n-a) a p Q d ((fq 0x12a40889409084a9c8 0x40118001184210002009001).2 rfl b) f q
 .rw[if_neg b];have j:a=n:=vf i b;exact q p d (j▸f)
section
variable {k:Nat} {h:Heap} {A:Around} {g:Array GenState} {d:Drawn} {tk:Nat} {o:OsState}
theorem ajb{a b:az}{x y c e:Int}{Q:Bool->aT->Prop}(B:Bs h)(p:bN h a x y)(f:bN h b c e)(j:aU k A)(q:Q (decide (x<c\/(x=c/\y<e))) ⟨h,g,d,tk,o⟩):
  aF (MM) A (oneLt' af (.ref a) (.ref b)) Q aE ⟨h,g,d,tk,o⟩:=by
 obtain⟨_,_,i⟩:=p.ex;rw[oneLt'_eq];refine jA rfl (aB (Xa j.u9 (aB (bJ (VM B i (by nofun) YN.bind (aji B p f)) (λr s l=>?_) λm m n=>n))));obtain⟨rfl,rfl⟩:=l;exact gH q
noncomputable instance alW (a b:Pt):Decidable (lx a b):=inferInstanceAs (Decidable (a.1<b.1\/(a.1=b.1/\a.2<b.2)))
theorem afn{a b:Pt}(h:a≠b)(c:¬lx a b):lx b a:=by
 unfold lx at*;rcases eX a.1 b.1 with x|x|x
 .exact absurd (.inl x) c
 .rcases eX a.2 b.2 with e|e|e
  .exact absurd (.inr ⟨x,e⟩) c
  .exact absurd (kL x e) h
  .exact .inr ⟨x.symm,e⟩
 .exact .inl x
noncomputable abbrev refs(L:List (az×Pt)):Array aq:=(L.map λx=>cM x.1).toArray
def iU(h:Heap)(L:List (az×Pt)):Prop:=∀x∈L,bN h x.1 x.2.1 x.2.2
theorem iU.keeps{h h':Heap}{L:List (az×Pt)}(p:iU h L)(e:Ext h h'):iU h' L:=λx a=>(p x a).keeps e
theorem aki{L:List (az×Pt)}{p:Array Nat}(P:Pm L.length p):(p.toList.map λi=>L.getD i (0,(0,0))).Perm L:=by
 have a:(p.toList.map λi=>L.getD i (0,(0,0))).Perm ((fD L.length).map λi=>L.getD i (0,(0,0))):=by have:=P.perm.toList;simpa using this.map (λi=>L.getD i (0,(0,0)))
 have b:((fD L.length).map λi=>L.getD i (0,(0,0)))=L:=by refine List.ext_getElem (by simp) λi e c=>?_;simp[c]
 simp only[b] at a;exact a
theorem akh{L:List (az×Pt)}{p:Array Nat}(P:Pm L.length p)(f:lB (λi j=>decide (lx (L.getD i (0,(0,0))).2 (L.getD j (0,(0,0))).2)) p L.length):
  (p.toList.map λi=>L.getD i (0,(0,0))).Pairwise (λa b=>lx a.2 b.2):=by
 rw[Dm];intro i j e c l;simp only[cO] at e c;have:=f i j l (by exact Qg c (P.size));unfold Kp at this;have m:p[i]?=W p[i]:=by simp[e]
 have n:p[j]?=W p[j]:=by simp[c]
 rw[m,n] at this;simp only[decide_eq_true_eq] at this;simpa using this
theorem ab0{l:az}{L:List (az×Pt)}(B:Bs h)(hl:h.IsList l (refs L))(hp:iU h L)(hd:(L.map (·.2)).Nodup)(h2:2<=L.length)(a0:L.length<64):
  Ev 4 h (eU (.builtin "sorted") [.ref l]) (λv h'=>∃D Y,v= .ref D/\Y.Perm L/\Y.Pairwise (λa b=>lx a.2 b.2)/\∃n,h'.get? D=W (gu "list" (refs Y) n)):=by
 intro A Q N g d tk o rm Z q;generalize a5:(L.map λx=>cM x.1)=f;have J:f.length=L.length:=by rw[<-a5];simp
 have b9:N.IsList l f.toArray:=by simp only[<-a5];exact ew hl Z
 refine Calls.call_function_entry kind_sorted plain_sorted entry_sorted (args_sorted1 _) ?_;unfold kC.«sorted»;refine aB (m:=checkCount "sorted" 1 1 _) (aV ?_);refine aB (collect_list (s:=⟨N,g,d,tk,o⟩) b9 ?_ (by rw[eO];exact Bo a0 J));refine aB (Cm ?_ (by rw[eO];exact Bo a0 J));have b0:Ext N ((N.push (gu "list" #[] 0)).update N.objs.size (iA (·++f.toArray))):=λb M w=>by have aQ:=Heap.lt_size w;rw[Heap.get?_update_ne _ _ _ _ (Nat.ne_of_lt aQ),Heap.get?_push_ne _ _ _ (Nat.ne_of_lt aQ)];exact w
 generalize hH:(N.push (gu "list" #[] 0)).update N.objs.size (iA (·++f.toArray))=H at b0⊢;show aF _ _ _ _ _ ⟨H.push (gu "list" f.toArray 0),g,d,tk,o⟩;have a6:(H.push (gu "list" f.toArray 0)).get? H.objs.size=W (gu "list" f.toArray 0):=Heap.get?_push_size _ rfl;have b3:Ext N (H.push (gu "list" f.toArray 0)):=b0.trans λb M w=>Heap.get?_push_of_some _ w;have b1:∀b M,N.get? b=W M->b≠H.objs.size:=λb M w=>Nat.ne_of_lt (Heap.lt_size (b0 b M w));generalize ha:H.objs.size=a at a6 b1⊢;generalize hG:H.push (gu "list" f.toArray 0)=G at a6 b3⊢;refine aB (eH (yp slot_list_sort ⟨_,a6,rfl⟩ entry_list_sort ?_ (args_list_sort _)));rw[list_sort_plain];refine aB (listItems_at a6 rfl ?_);refine aB (listUpdate_at a6 rfl ?_ (by simp only[eO];exact Bo a0 J) (Nat.zero_le _));obtain⟨e1,b2⟩:∃e1,(G.update a (iA λR=>(#[]:Array aq))).get? a=W (gu "list" #[] e1):=⟨_,adT a6 λR=>#[]⟩;have b4:Ext N (G.update a (iA λR=>(#[]:Array aq))):=λb M w=>by rw[Heap.get?_update_ne _ _ _ _ (b1 b M w)];exact b3 b M w
 generalize c8:G.update a (iA λR=>(#[]:Array aq))=G2 at b2 b4⊢;refine aB (seqEpoch_at b2 rfl ?_);refine aB (yr ?_ (by show f.length<=_;simp only[eO];exact Bo a0 J));refine aB (Cm (eH ?_) (Nat.zero_le _));show aF _ _ _ _ _ ⟨(G2.push (gu "tuple" f.toArray 0)).push (gu "list" #[] 0),g,d,tk,o⟩;have a9:((G2.push (gu "tuple" f.toArray 0)).push (gu "list" #[] 0)).get? a=W (gu "list" #[] e1):=Heap.get?_push_of_some _ (Heap.get?_push_of_some _ b2);have a7:Ext N ((G2.push (gu "tuple" f.toArray 0)).push (gu "list" #[] 0)):=b4.trans λb M w=>Heap.get?_push_of_some _ (Heap.get?_push_of_some _ w);generalize c9:(G2.push (gu "tuple" f.toArray 0)).push (gu "list" #[] 0)=G3 at a9 a7⊢;have b5:¬f.toArray.size<2:=by rw[jW];exact(dz 0x41409494110910408 0x10842008824).2 h2 J
 rw[if_neg b5,if_neg b5];refine aB (kas_kind (s:=⟨G3,g,d,tk,o⟩) (T:= .ref 132) (sW h2 J) (λv hv=>?_) (by decide) (by decide) ?_)
 .rw[<-a5] at hv;obtain⟨x,hx,rfl⟩:=dc.mp hv;obtain⟨u,v,r⟩:=(((hp.keeps Z).keeps a7) x hx).ex;exact BH r
 have S:jE f.length (λr t=>decide (lx (L.getD r (0,(0,0))).2 (L.getD t (0,(0,0))).2)) (kas_ask pw wS A.in1.in1 xV f) ⟨G3,g,d,tk,o⟩:=by
  refine⟨aga h2 J,λr t O V ne c=>?_,λr t k O V hk c1 c2=>?_,λr t C O V hC=>?_⟩
  .rw[decide_eq_false_iff_not] at c;refine decide_eq_true (afn (λee=>ne ?_) c);simp only[J] at O V;have pw:=Dm.mp hd;have g1:L.getD r (0,(0,0))=L[r]:=by simp[O]
   have g2:L.getD t (0,(0,0))=L[t]:=by simp[V]
   simp only[g1,g2] at ee;rcases Nat.lt_trichotomy r t with z|z|z
   .exact absurd ((Dd ..).trans (ee.trans (Dd ..).symm)) (pw r t (by simpa using O) (by simpa using V) z)
   .exact z
   .exact absurd ((Dd ..).trans (ee.symm.trans (Dd ..).symm)) (pw t r (by simpa using V) (by simpa using O) z)
  .simp only[decide_eq_true_eq] at c1 c2⊢;exact uU c1 c2
  .simp only[J] at O V;have g1:f.getD r pW= .ref (L.getD r (0,(0,0))).1:=by rw[<-a5];simp[O]
   have g2:f.getD t pW= .ref (L.getD t (0,(0,0))).1:=by rw[<-a5];simp[V]
   unfold kas_ask;simp only[g1,g2];refine ajb ((B.keeps Z).keeps a7) (((hp.keeps Z).keeps a7) _ ?_) (((hp.keeps Z).keeps a7) _ ?_) (rm.le (by decide:2<=4)).in1.in1 hC
   .simp[O]
   .simp[V]
 have b6:=kas_runs (E:=aE) (κ:=xV) (it:=vz f) (A:=A.in1.in1) (prog:=pw) (s:=⟨G3,g,d,tk,o⟩)
  (Q:=λR a8 s'=>∃F:Array Nat,s'=⟨G3,g,d,tk,o⟩/\Pm f.length F/\lB (λr t=>decide (lx (L.getD r (0,(0,0))).2 (L.getD t (0,(0,0))).2)) F f.length/\arrOf a8=F.map (Ox (vz f))/\failedOf a8=X)
  (G:=λF s'=>s'=⟨G3,g,d,tk,o⟩/\Pm f.length F/\lB (λr t=>decide (lx (L.getD r (0,(0,0))).2 (L.getD t (0,(0,0))).2)) F f.length)
  (sW h2 J:2<=f.length) (J▸a0) (λp' a8 s' a1 a2 a3 a4=>⟨p',a4.1,a4.2.1,a4.2.2,a2,a3⟩) (by rw[<-kas_ask_eq];exact ake S λF P I=>⟨rfl,P,I⟩)
 have c0:Lm xV (f.toArray.zip f.toArray) #[] 7 X=kas_st xV (vz f) (nU (fD f.length)):=by have er:=kas_range (vz f);rw[pairsOf_size] at er;show Lm xV (vz f) #[] 7 X=Lm xV ((nU (fD f.length)).map (Ox (vz f))) #[] 7 X;rw[er]
 simp only[<-c0] at b6;refine aB (bJ b6 ?_ λR R Z=>Z);rintro⟨⟨⟩,a8⟩ s' ⟨F,rfl,P,I,c3,hf⟩;have c4:(arrOf a8).map (·.2)=nU (F.toList.map λr=>f.getD r pW):=by apply Array.toList_inj.mp;rw[c3,Array.map_map,Array.toList_map];exact Kh λr R=>by show(Ox (vz f) r).2=_;rw[kas_item_eq]
 simp only[J] at P I;have c5:(F.toList.map λr=>f.getD r pW)=(F.toList.map λr=>L.getD r (0,(0,0))).map λx=>cM x.1:=by
  simp only[wo];refine Kh λr O=>?_;have:r∈(nU (fD L.length)).toList:=P.perm.toList.mem_iff.mp O;have c6:r<L.length:=by simpa using this
  rw[<-a5];simp[c6]
 simp only[c4,c5];have b7:(F.toList.map λr=>L.getD r (0,(0,0))).length=L.length:=by simp only[cO,Array.length_toList,P.size]
 generalize b8:(F.toList.map λr=>L.getD r (0,(0,0)))=Y at b7⊢;obtain⟨c2,c7⟩:∃c2,(G3.update a (iA λR=>refs Y)).get? a=W (gu "list" (refs Y) c2):=⟨_,adT a9 λR=>refs Y⟩;refine aB (seqEpoch_at a9 rfl ?_);refine aB (listUpdate_at a9 rfl ?_ (Nat.zero_le _) (by simp only[jW,cO,b7];exact(kl 0x10c000000bf089001005f0a048 0x8421).2 a0));rw[hf];simp only[bne_self_eq_false,if_false];refine aV ⟨_,rfl,aV ⟨_,rfl,(q (.ref a) _ _ (λb M w=>?_) ⟨a,Y,rfl,b8▸aki P,b8▸akh P I,_,c7⟩)⟩⟩;rw[Heap.get?_update_ne _ _ _ _ (b1 b M w)];exact a7 b M w
end
open MeetsSeq MeetsSeq2 SeqRoads2
open AutoSeq1 (wpAny_loadPart')
def nN(A:cT)(s:aT)(y x:aq)(b:Bool):Prop:=∀a:Bool->aT->Prop,a b s->aF (MM) A (eqBool y x) a aE s
theorem aec(l:az)(items:Array aq)(n:Nat)(p:Option az)(q:Array (Option aq))(x:aq)(e:aq->Bool)(K:Nat):
  ∀i:Nat,items.size-i=K->Ks pw wS (kC.«list.__contains__.loop» ⟨[.ref l,x,fu i],[]⟩)
   (λA R s=>s.heap.get? l=W {cls:= .type "list",dict:=p,data:= .seq items n,slots:=q}/\(∀y∈items,nN A.in1 s y x (e y))/\R (.ok (.ret (.bool ((items.toList.drop i).any e)))) s):=by
 induction K with
 |zero=>
  intro i hk A R s h;obtain⟨j,g,d,k,os⟩:=s;obtain⟨hl,he,h⟩:=h
  wp_walk using lg hl
  have c:items[((i:Nat):Int).toNat]?=X:=by simp;exact PR hk
  have f:items.toList.drop i=[]:=by simp;exact PR hk
  replace h:=(f)▸h;rw[c]
  wp_walk
  exact h
 |succ K r=>
  intro i hk A R s h;obtain⟨j,g,d,k,os⟩:=s;obtain⟨hl,he,h⟩:=h
  wp_walk using lg hl
  have aQ:i<items.size:=Bl hk;have c:items[((i:Nat):Int).toNat]?=W items[i]:=by simp[aQ]
  have f:items.toList.drop i=items[i]::items.toList.drop (i+1):=by simp[JW,aQ]
  replace h:=(Zs)▸(f)▸h;refine(c)▸(aB (bJ (he _ (Array.getElem_mem aQ) (λm o=>m=e items[i]/\o=⟨j,g,d,k,os⟩) ⟨rfl,rfl⟩) (λm o a=>?_) λt t x=>x.elim));obtain⟨rfl,rfl⟩:=a;cases a:e items[i] with
  |true=>
   replace h:=(a)▸h
   wp_walk
   exact h
  |false=>
   rw[a] at h;have u:((i:Int)+1)=((i+1:Nat):Int):=by push_cast;rfl
   wp_walk
   rw[u];exact⟨xZ plain_contains_loop _,uz entry_contains_loop (by exact(Cz plain_contains_loop _)▸r (i+1) (sM hk) A R _ ⟨hl,he,by simpa using h⟩)⟩
theorem aeb(l:az)(items:Array aq)(n:Nat)(a:Option az)(b:Array (Option aq))(x:aq)(e:aq->Bool):
  Ks pw wS (kC.«list.__contains__» ⟨[.ref l,x],[]⟩)
   (λA R s=>s.heap.get? l=W {cls:= .type "list",dict:=a,data:= .seq items n,slots:=b}/\(∀y∈items,nN A.in1 s y x (e y))/\R (.ok (.ret (.bool (items.any e)))) s):=by
 intro A R s h;obtain⟨c,g,d,f,os⟩:=s;obtain⟨hl,he,h⟩:=h
 wp_walk using lg hl
 exact⟨xZ plain_contains_loop _,uz entry_contains_loop (by exact(Cz plain_contains_loop _)▸aec l items n a b x e _ 0 rfl A R _ ⟨hl,he,by simpa using h⟩)⟩
theorem in_list(e:aq->Bool)(hl:h.IsList l items)(f:∀y∈items,nN A.in1 ⟨h,g,d,tk,o⟩ y x (e y))
  (q:Q (items.any e) ⟨h,g,d,tk,o⟩):aF (MM) A (contains (.ref l) x) Q aE ⟨h,g,d,tk,o⟩:=by
 obtain⟨⟨cls,dd,data,sl⟩,ho,a,n,hd⟩:=id hl;simp only at a hd;subst a hd;refine wpAny_contains_slot (s:=⟨h,g,d,tk,o⟩) (T:="list") ⟨_,ho,rfl⟩ YK (bJ (Q:=λb c=>b= .bool (items.any e)/\c=⟨h,g,d,tk,o⟩) (E:=aE) (call_meetsIn YK ⟨_,ho,rfl⟩ F.entry_list_contains (F.args_list_contains_2 _ _) (aeb l items n dd sl x e) ⟨ho,f,⟨rfl,rfl⟩⟩) (λb c i=>?_) λj j e=>e);obtain⟨rfl,rfl⟩:=i;exact gH q
theorem abV(e:aq->Bool)(hl:h.IsList l items)(a:∀y∈items,nN A.in1 ⟨h,g,d,tk,o⟩ y x (e y))
  (q:Q (.bool (items.any e)) ⟨h,g,d,tk,o⟩):aF (MM) A (fP .In x (.ref l)) Q aE ⟨h,g,d,tk,o⟩:=by
 exact aB (in_list e hl a (aV q))
theorem Mp(e:aq->Bool)(hl:h.IsList l items)(a:∀y∈items,nN A.in1 ⟨h,g,d,tk,o⟩ y x (e y))
  (q:Q (.bool (!items.any e)) ⟨h,g,d,tk,o⟩):aF (MM) A (fP .NotIn x (.ref l)) Q aE ⟨h,g,d,tk,o⟩:=by
 exact aB (in_list e hl a (aV q))
theorem acK(B:Bs h)(p:bN h a x y)(l:bN h b s t)(w:aU k A):nN A ⟨h,g,d,tk,o⟩ (.ref a) (.ref b) (decide (x=s/\y=t)):=by
 intro C f;dsimp only[eqBool];refine eH ?_;by_cases m:a=b
 .subst m;rw[if_pos (by simp)];obtain⟨D,v,⟨n,i⟩⟩:=p.ex;obtain⟨E,F,⟨G,e⟩⟩:=l.ex;rw[i] at e;injection e with e;injection e with _ _ e _;injection e with e _;have r:=congrArg (λj:Array aq=>j.toList) e;simp only[Zw,abo] at r;obtain⟨⟨rfl,_⟩,⟨rfl,_⟩,_⟩:=r;rw[decide_eq_true ⟨rfl,rfl⟩] at f;exact aB (oW (aV f))
 .rw[if_neg (λj=>m (by simpa using j))];exact aB (VI B p l w (gH f))
def LO(h:aK)(a:az)(vs:Array aq):Prop:=∃b,h.get? a=W (gu "list" vs b)
theorem LO.keeps(l:LO h a vs)(e:Ext h h'):LO h' a vs:=let⟨b,x⟩:=l;⟨b,e _ _ x⟩
theorem LO.list(l:LO h a vs):h.IsList a vs:=let⟨b,x⟩:=l;⟨_,x,rfl,b,rfl⟩
theorem LO.but(l:LO h a vs)(s:dE b h h')(n:a≠b):LO h' a vs:=let⟨c,x⟩:=l;⟨c,(s.2 a n).trans x⟩
theorem Nf:Ev k h (aa (.List [] pos) env) (λv h'=>∃a,v= .ref a/\h.get? a=X/\LO h' a #[]):=by
 intro m n c g p s f t i j;simp only[LG];refine aB (gG (aB (eQ (Cm (j _ _ _ (λu f x=>eP _ x) ⟨_,rfl,?_,⟨0,jT _ rfl⟩⟩) (dN _)))));cases l:h.get? c.objs.size with
 |none=>rfl
 |some w=>exact absurd (dA (i _ _ l)) (ui _)
theorem akz(C:aO k h (aa i env) (.ref D))(E:j.size<=fv)(Y:∀a,Ext h a->dY k a (aa e env) P)
  (hl:∀v a,P v a->LO a D j)(F:LO h D j)(pl:dG Bool)
  (G:aa (.Call (.Attribute i "append" p) [e] [] pos) env=(do
   let t<-aa i env
   fB p.atName
   let(f,first)<-fI [t] (ie t "append" pl)
   dH pos f first (bG pos (aH [e] env)) (bZ pos (cf [] env))))
  (a:autoParam (aH [e] env=(aw,aa e env)::aH [] env) rf)(I:autoParam ((bG pos (aH [] env)).any (·.1)=aw) rf):
  dY k h (aa (.Call (.Attribute i "append" p) [e] [] pos) env) (λv h'=>v= .none/\∃x a,P x a/\dE D a h'/\LO h' D (j.push x)):=by
 intro l J g b tk c u L;refine kT (Ev.at C u Ext.rfl λm w y=>?_) G;obtain⟨n0,M⟩:=F.keeps y;refine Calls.getMethod_list_append (s:=⟨m,g,b,w,c⟩) M rfl rfl ?_;have z:aF (MM) l (yf (bG pos (aH [e] env))) (λN O=>aF (MM) l (eU (.builtin "list.append") ([.ref D]++N)) J aE O) aE ⟨m,g,b,w,c⟩:=by refine cF (Y m y l _ g b _ c u λv n R B=>(eQ ?_)) a;obtain⟨n1,S⟩:=hl v n B;exact DM (s:=⟨n,g,b,R,c⟩) S (λT V Z=>(L _ T _ ⟨rfl,v,n,B,V,_,Z⟩)) E
 rw[a] at z⊢;exact YD (by show(aw||(bG pos (aH [] env)).any (·.1))=aw;rw[I];rfl) (CK z)
theorem Pk{h:aK}{L:az}{m e:aA->Option aq}(a:h.Ns L m)(b:h.Ns L e):m=e:=by obtain⟨i,j,k,h1,h2,l,f⟩:=a;obtain⟨n,p,q,c,d,r,g⟩:=b;replace c:=(h1)▸c;cases c;replace d:=(h2)▸d;cases d;funext x;exact(f x).symm.trans (g x)
inductive Dp(J:Nat->aK->Prop)(g:Array dQ)(d:dT)(o:df)(K n:Nat)(s:aT):Prop
 |mk (a:Nat) (b:aK) (c:Nat) (e:s=⟨b,g,d,c,o⟩) (f:J a b) (h:a<=K) (k:n=K+1-a)
theorem LK(j:az->Nat->aK->Prop)
  (S:aO k h (aa G env) (.ref la))(hl:h.IsList la vs)(r:aU k A)
  (T:∀a h',Ext h h'->h.get? a=X->a≠env.locals->h'.IsListIter a la 0->j a 0 h')
  (H:∀a i h',j a i h'->a≠env.locals->h'.IsListIter a la i/\h'.IsList la vs/\∃m,h'.Ns env.locals m)
  (V:∀a i v h' l B tk (R:dM->aT->Prop),j a i h'->a≠env.locals->vs[i]?=W v->l.IsListIter a la (i+1)->dE a h' l->dE env.locals l B->(∀m,h'.Ns env.locals m->B.Ns env.locals (λy=>if y=x then W v else m y))->
   (∀t C,j a (i+1) t->R .next ⟨t,g,d,C,o⟩)->aF (MM) A (bg body env) R aE ⟨B,g,d,tk,o⟩)
  (done:∀a h' l tk,j a vs.size h'->vX a h' l->aF (MM) A (bg rest env) Q aE ⟨l,g,d,tk,o⟩)
  (Y:autoParam (env.kindOf x=W .local) rf)(Z:∃u,h.get? env.locals=W u)
  (hp:autoParam ((env.scope.kind== .class||(env.scope.kind== .module&&env.locals !=env.globals))=aw) rf)(hs:∀x,xr G env x=bj x:=by intro _;rfl):
  aF (MM) A (bg (.For (.Name x p1) G body [] pos::rest) env) Q aE ⟨h,g,d,tk,o⟩:=by
 refine de (WY (Ev.at S r Ext.rfl λc a0 w=>?_) hs);have a4:=ew hl w;refine HT (s:=⟨c,g,d,a0,o⟩) a4 ?_;have e2:Ext c (c.push {cls:= .type "list_iterator",data:= .fields #[.ref la, .int 0 0]}):=λb u y=>eP _ y;have p:c.objs.size≠env.locals:=by obtain⟨u,y⟩:=Z;exact fN (cJ (dA (w _ _ y)))
 have n0:h.get? c.objs.size=X:=by
  cases hc:h.get? c.objs.size with
  |none=>rfl
  |some u=>exact absurd (dA (w _ _ hc)) (ui _)
 have I:=T c.objs.size _ (w.trans e2) n0 p ⟨_,jT _ rfl,rfl,rfl⟩;have b1:=H _ _ _ I p;refine acj (Dp (j c.objs.size) g d o vs.size) ?_ (vs.size+1) ⟨0,_,_,rfl,I,dN _,rfl⟩;rintro n s' ⟨i,h',L,rfl,D,hi,rfl⟩;obtain⟨M,a2,m,N⟩:=H _ _ _ D p;cases q:vs[i]?with
 |none=>have a5:=wq hi (by simpa using q);subst a5;exact alc (s:=⟨h',g,d,L,o⟩) r.h M a2 q λE a6=>cA (done _ h' E _ D a6)
 |some v=>have aQ:=(tY.mp q).1;refine ald (s:=⟨h',g,d,L,o⟩) M a2 q λE a7 O=>qZ (fw (env:=env) Y (N.sameBut O p.symm) (λF a8 a9=>?_) hp);refine bJ (V _ i v h' E F _ (λf P=>f= .next/\∃m,m<vs.size+1-i/\Dp (j c.objs.size) g d o vs.size m P) D p q a7 O a9 (λm' n'=>?_) λt C b0=>⟨rfl,vs.size+1-(i+1),vj aQ,i+1,t,C,rfl,b0,aQ,rfl⟩) (λf P F=>by obtain⟨rfl,h⟩:=F;exact h) λz z e=>e.elim;have:m'=m:=Pk n' N;subst this;exact a8
noncomputable def fO(a:List (az×Pt))(x:az×Pt):List (az×Pt):=if a.any (λb=>decide (b.2=x.2)) then a else a++[x]
noncomputable def cR(L:List (az×Pt)):List (az×Pt):=L.foldl fO []
theorem acB(L:List (az×Pt))(x:az×Pt):cR (L++[x])=fO (cR L) x:=by unfold cR;rw[JZ];rfl
theorem abu(h:y∈fO a x):y∈a\/y=x:=by
 unfold fO at h;split at h
 .exact .inl h
 .rcases fM.mp h with h|h
  .exact .inl h
  .exact .inr (by simpa using h)
theorem uB:∀{L:List (az×Pt)} {y:az×Pt},y∈cR L->y∈L:=by
 have:∀(L a:List (az×Pt)) (y:az×Pt),y∈L.foldl fO a->y∈a\/y∈L:=by
  intro L;induction L with
  |nil=>intro a y h;exact .inl h
  |cons x c b=>
   intro a y h;rcases b _ y h with h|h
   .rcases abu h with h|h
    .exact .inl h
    .exact .inr (h▸gO)
   .exact .inr (fZ _ h)
 intro L y h;exact(this L [] y h).resolve_left (by simp)
set_option tactic.hygienic true in
theorem abt(h:(f.map (·.2)).Nodup):((fO f x).map (·.2)).Nodup:=by
 unfold fO;split
 .exact h
 .rename_i g;rw[kG,zF];refine⟨h,by simp,λk i l d=>?_⟩;rw[nT,ZP,gb] at d;subst d;rintro rfl;obtain⟨j,hy,e⟩:=dc.mp i;exact g (we.mpr ⟨j,hy,decide_eq_true e⟩)
theorem Ex(L:List (az×Pt)):((cR L).map (·.2)).Nodup:=by
 have:∀(L a:List (az×Pt)),(a.map (·.2)).Nodup->((L.foldl fO a).map (·.2)).Nodup:=by
  intro L;induction L with
  |nil=>intro a h;exact h
  |cons x c b=>intro a h;exact b _ (abt h)
 exact this L [] (by simp)
set_option tactic.hygienic true in
theorem xc(h:x∈L):x.2∈(cR L).map (·.2):=by
 have j:∀(a:List (az×Pt)) (d:az×Pt) (b:Pt),b∈a.map (·.2)->b∈(fO a d).map (·.2):=by
  intro a d b f;unfold fO;split
  .exact f
  .rw[kG];exact iT _ f
 have:∀(L a:List (az×Pt)),(∀d∈L,d.2∈(L.foldl fO a).map (·.2))/\∀b,b∈a.map (·.2)->b∈(L.foldl fO a).map (·.2):=by
  intro L;induction L with
  |nil=>intro a;refine⟨λd h=>?_,λb h=>h⟩;cases h
  |cons x o k=>
   intro a;obtain⟨l,i⟩:=k (fO a x);refine⟨λd g=>?_,λb f=>i b (j _ _ _ f)⟩;rcases cP.mp g with rfl|g
   .refine i _ ?_;unfold fO;split
    .rename_i m;obtain⟨n,hz,e⟩:=we.mp m;exact dc.mpr ⟨n,hz,of_decide_eq_true e⟩
    .rw[kG];exact lC _ (by simp)
   .exact l d g
 exact(this L []).1 x h
theorem Ly:(fO a x).length<=a.length+1:=by unfold fO;split<;>simp
theorem Ew(L:List (az×Pt)):(cR L).length<=L.length:=by
 have:∀(L a:List (az×Pt)),(L.foldl fO a).length<=a.length+L.length:=by
  intro L;induction L with
  |nil=>intro a;simp
  |cons x e b=>intro a;have c:=b (fO a x);have d:=@Ly a x;simp only[wh,jD];exact RN c d
 have:=this L [];simpa [cR] using this
theorem ft(e:Ext h h')(n:h'.get? a=X):h.get? a=X:=by
 cases b:h.get? a with
 |none=>rfl
 |some c=>rw[e _ _ b] at n;cases n
theorem iC(e:Ext h₀ h)(s:dE a h h')(n:h₀.get? a=X):Ext h₀ h':=λc f d=>by have g:c≠a:=eg d n;exact(s.2 c g).trans (e c f d)
inductive DJ(h:aK)(D la:az)(V:List (az×Pt))(a:az)(i:Nat)(h':aK):Prop
 |mk (b:Ext h h') (l:LO h' D (refs (cR (V.take i)))) (m:aA->Option aq) (ns:h'.Ns h.objs.size m) (c:m "result"=W (.ref D)) (d:h'.IsListIter a la i) (n1:a≠D) (n2:h.get? a=X) (e:h.objs.size≠a)
theorem acC{h:aK}{la:az}{V:List (az×Pt)}(B:Bs h)(hl:h.IsList la (refs V))(hp:iU h V)(J:V.length<64):
  eJ 6 h (.call (.ref 439) ⟨[.ref la],[]⟩) (λv h'=>Ext h h'/\∃D,v= .ref D/\h.get? D=X/\LO h' D (refs (cR V))):=by
 refine jj (k:=5) (fd:=Fe) (body:=bodyOf Fe) (binds:=[("values", .ref la)]) B (tF _) rfl
  (λs s s s s s=>eR rfl) (by nofun) (by nofun) rfl rfl rfl ?_
 intro b9 F A g dr tk o Q T qq;have b2:Ext h b9:=F.keep;have nl:h.get? h.objs.size=X:=by
  cases Y:h.get? h.objs.size with
  |none=>rfl
  |some E=>exact absurd (dA Y) (ui _)
 refine lJ (k:=5) F.ns Nf T λv d3 d4 d5 e2 j sb hn=>?_;obtain⟨D,rfl,nD,lD⟩:=j;have c0:=b2.trans e2;have a0:=iC c0 sb nl;have DL:D≠h.objs.size:=by rintro rfl;obtain⟨_,_,_,d,_⟩:=F.ns;replace nD:=(d)▸nD;cases nD
 have b3:=lD.but sb DL;have b4:h.get? D=X:=by
  cases Y:h.get? D with
  |none=>rfl
  |some E=>replace nD:=(b2 _ _ Y)▸nD;cases nD
 refine LK (k:=5) (la:=la) (vs:=refs V) (DJ h D la V)
  (ah hn) (ew hl a0) T ?_ ?_ ?_ ?_ rfl (by obtain⟨E,_,_,d,_⟩:=hn;exact⟨E,d⟩) rfl
 .intro it h' G q M a9;refine⟨a0.trans G,b3.keeps G,_,hn.keeps G,rfl,a9,?_,?_,fN M⟩
  .rintro rfl;obtain⟨_,d⟩:=b3;replace q:=(d)▸q;cases q
  .cases Y:h.get? it with
   |none=>rfl
   |some E=>replace q:=(a0 _ _ Y)▸q;cases q
 .rintro it a h' ⟨Z,a2,m,a3,H,a5,I,N,a8⟩ M;exact⟨a5,ew hl Z,m,a3⟩
 .rintro it a v h' b5 h4 c1 R ⟨Z,a2,m,a3,H,a5,I,N,a8⟩ M j a9 s1 s2 c2 nx;have O:=c2 m a3;have E4:=iC (iC Z s1 N) s2 nl;have l4:=(a2.but s1 I.symm).but s2 DL;have b6:=a9.extBut s2.extBut M;have hi:a<V.length:=by have:=(tY.mp j).1;simpa using this
  have c3:v= .ref V[a].1:=by
   have:(refs V)[a]?=W (.ref V[a].1):=by simp[hi]
   replace j:=(this)▸j;cases j;rfl
  subst c3;have c4:V.take (a+1)=V.take a++[V[a]]:=by rw[ZX];simp[hi]
  have b7:cR (V.take (a+1))=fO (cR (V.take a)) V[a]:=by rw[c4,acB]
  have P4:=hp.keeps E4;have pv:=P4 _ (jU hi);have pd:iU h4 (cR (V.take a)):=λx hx=>P4 x (Di (uB hx));have B4:=B.keeps E4;refine mO (k:=5) (c:=¬((cR (V.take a)).any λd=>decide (d.2=V[a].2))=af) (EF (ah O (v:= .ref V[a].1)) (ah O (v:= .ref D) (H)) λA' Q' s' r' S q'=>?_) T (λc h5 c5 R' l b0 s=>?_) λc h5 c5 R' l b0 s=>?_
  .rw[show decide (¬((cR (V.take a)).any λd=>decide (d.2=V[a].2))=af)=!((cR (V.take a)).any λd=>decide (d.2=V[a].2)) by cases(cR (V.take a)).any λd=>decide (d.2=V[a].2)<;>rfl] at q';obtain⟨d6,g',d',t',o'⟩:=s';have S:=S;have B':=B4.keeps S;have c6:=pv.keeps S;have b8:=pd.keeps S;refine Mp (λd=>(cR (V.take a)).any λf=>decide (d= .ref f.1/\f.2=V[a].2)) (l4.keeps S).list (λd t=>?_) ?_
   .obtain⟨f,J,rfl⟩:∃f,f∈cR (V.take a)/\d= .ref f.1:=by
     have:d∈(cR (V.take a)).map λx=>cM x.1:=by simpa using t
     obtain⟨f,J,rfl⟩:=dc.mp this;exact⟨f,J,rfl⟩
    intro c7 c8;have pz:=b8 f J;refine acK B' pz c6 (r'.le (Rb:1<=5)).in1 c7 ?_;have p:decide (f.2.1=V[a].2.1/\f.2.2=V[a].2.2)=((cR (V.take a)).any λd=>decide (cM f.1= .ref d.1/\d.2=V[a].2)):=by
     rw[ze];simp only[decide_eq_true_eq,we,Value.ref.injEq];constructor
     .rintro⟨x1,x2⟩;exact⟨f,J,rfl,kL x1 x2⟩
     .rintro⟨d,t,x1,x2⟩;obtain⟨u,v,⟨q,i1⟩⟩:=pz.ex;obtain⟨u',v',⟨n',C⟩⟩:=(b8 d t).ex;rw[<-x1,i1] at C;injection C with C;injection C with _ _ C _;injection C with C _;have p:=congrArg (λf:Array aq=>f.toList) C;simp only[Zw,abo] at p;exact⟨p.1.1.trans (congrArg zK x2),p.2.1.1.trans (congrArg KU x2)⟩
    rw[p];exact c8
   .have e2:(refs (cR (V.take a))).any (λd=>(cR (V.take a)).any λf=>decide (d= .ref f.1/\f.2=V[a].2))=(cR (V.take a)).any λd=>decide (d.2=V[a].2):=by
     rw[ze];simp only[Zu,Zt,we,YR,decide_eq_true_eq];constructor
     .rintro⟨x,hx,d,t,_,G⟩;exact⟨d,t,G⟩
     .rintro⟨d,t,G⟩;exact⟨d,t,d,t,rfl,G⟩
    rw[e2];exact q'
  .have E5:=E4.trans l;have sz:(refs (cR (V.take a))).size<=fv:=by have:=Ew (V.take a);simp only[jW,cO];rw[eO];have:=List.length_take_le a V;exact(gm 0x20000005f850052c085a0084a8481005f0a448 0x4011802009001284a008821).2 J hi ‹_› this
   refine lK (k:=5) (akz (P:=λv h'=>v= .ref V[a].1/\Ext h5 h') ((ah O (v:= .ref D) (by exact H)).keeps l) sz (λh1 p A' Q' g' d' t' o' r' q'=>(ah O (v:= .ref V[a].1)).keeps (l.trans p) A' Q' h1 g' d' t' o' r' Ext.rfl λv h' c9 d0 j=>q' v h' c9 ⟨j,p.trans d0⟩)
    (λv h1 j=>(l4.keeps l).keeps j.2) (l4.keeps l) _ rfl) T λv h6 d7 j=>?_
   obtain⟨x,h1,⟨rfl,p⟩,b1,l6⟩:=j;refine cA (b0 _ (cA (nx h6 _ ⟨iC (E5.trans p) b1 b4,?_,_,(O.keeps (l.trans p)).sameBut b1 DL.symm,H,(b6.at λo d=>(l.trans p) _ o d).extBut b1.extBut I,I,N,a8⟩)));rw[b7];unfold fO;rw[if_neg c];have:refs (cR (List.take a V)++[V[a]])=(refs (cR (V.take a))).push (.ref V[a].1):=by simp
   rw[this];exact l6
  .refine cA (b0 _ (cA (nx h5 _ ⟨E4.trans l,?_,_,O.keeps l,H,b6.at λo d=>l _ o d,I,N,a8⟩)));rw[b7];unfold fO;rw[if_pos (JB.mp c)];exact l4.keeps l
 .rintro it h' b5 c1 ⟨Z,a2,m,a3,H,a5,I,N,M⟩ eb;have E6:Ext h b5:=λb E d=>eb b E (eg d N) (Z b E d);refine fL (h₀:=h) (L:=0) (m:=λs=>X) (ah (k:=5) (a3.extBut eb M) (H)) T λv h7 d1 e7 j=>?_;subst j;have d2:(refs V).size=V.length:=by simp
  rw[d2,zG] at a2;refine qq _ h7 d1 ⟨E6.trans e7,D,rfl,b4,LO.keeps ?_ e7⟩ (.ret _) rfl;obtain⟨q,d⟩:=a2;exact⟨q,eb _ _ I.symm d⟩
open AutoSeq1 (wpAny_loadPart')
theorem afA:fillsNumberSlot (.type "tuple") "mul"=bj aw:=
 PySem.fillsNumberSlot_seq (id:="tuple.__mul__") (r:=W (.builtin "tuple.__rmul__")) zk.lookup (by decide+kernel) YO.lookup (by decide+kernel)
theorem ajC:seqRepeat? (.type "tuple")=bj (W (.builtin "tuple.__mul__")):=by unfold seqRepeat?;rw[aaW (T:="tuple") (name:="__mul__") (id:="tuple.__mul__") zk.lookup (by decide+kernel),aaW (T:="tuple") (name:="__rmul__") (id:="tuple.__rmul__") YO.lookup (by decide+kernel)];rfl
theorem NP(v:aq):∀(k:Nat) (a:Array aq),(kJ k #[v]).foldl (λb x2=>b++x2) a=a++(kJ k v).toArray
 |0,a=>by simp
 |k+1,a=>by simp only[Kl,wh,NP v k];apply Jq.mp;simp[Kl]
theorem akQ(l:az)(v:aq)(n:Nat)(d:Option az)(c:Array (Option aq))(x:Int)(u:jF)(b:1<x)(a:x<64):
  Meets (kC.«tuple.__mul__» ⟨[.ref l, .int x u],[]⟩) (λz R s=>s.heap.get? l=W {cls:= .type "tuple",dict:=d,data:= .seq #[v] n,slots:=c}/\
   R (.ok (.ret (cM s.heap.objs.size))) {s with heap:=s.heap.push {cls:=rL "tuple",data:= .seq (kJ x.toNat v).toArray}}):=
 .of_wp λi wS j R s h=>by
  obtain⟨k,g,d,m,os⟩:=s;obtain⟨hl,h⟩:=h
  wp_walk using lg hl
  refine cW (by simp;exact(ip 0x20000000000000001bf0a068400000000000000037e1004c200be140d0808468 0x4210800100461).2 b a) ?_
  wp_walk using lg hl
  refine cW (by simp;exact Zh b) ?_
  wp_walk using lg hl
  refine cW (by simp;exact cn b) ?_
  wp_walk using lg hl
  refine cW (by simp;exact(ip 0x1ffffffffffffffecf85011005f0a068 0x8421).2 a) ?_
  wp_walk using lg hl
  refine cW (by unfold alD;rw[eO];simp;exact RL a) ?_
  wp_walk using lg hl
  rw[NP];refine cW (by rw[eO];simp;exact RL a) ?_
  wp_walk using lg hl
  have f:(#[]:Array aq)++(kJ x.toNat v).toArray=(kJ x.toNat v).toArray:=by simp
  rw[f];exact⟨_,rfl,h⟩
theorem akP(l:az)(v:aq)(n:Nat)(d:Option az)(a:Array (Option aq))(u:jF):
  Meets (kC.«tuple.__mul__» ⟨[.ref l, .int 1 u],[]⟩) (λz R s=>s.heap.get? l=W {cls:= .type "tuple",dict:=d,data:= .seq #[v] n,slots:=a}/\R (.ok (.ret (cM l))) s):=
 .of_wp λb wS c R s h=>by
  obtain⟨e,g,d,f,os⟩:=s;obtain⟨hl,h⟩:=h
  wp_walk using lg hl
  exact⟨_,rfl,h⟩
theorem akO(l:az)(v:aq)(n:Nat)(d:Option az)(a:Array (Option aq))(u:jF):
  Meets (kC.«tuple.__mul__» ⟨[.ref l, .int 0 u],[]⟩) (λz R s=>s.heap.get? l=W {cls:= .type "tuple",dict:=d,data:= .seq #[v] n,slots:=a}/\
   R (.ok (.ret (cM s.heap.objs.size))) {s with heap:=s.heap.push {cls:=rL "tuple",data:= .seq #[]}}):=
 .of_wp λb wS c R s h=>by
  obtain⟨e,g,d,f,os⟩:=s;obtain⟨hl,h⟩:=h
  wp_walk using lg hl
  exact⟨_,rfl,h⟩
theorem ajL(a:Int)(t:jF)(l:az)(items:Array aq)(n:Nat)(d:Option az)(b:Array (Option aq)):
  Meets (kC.«int.__rmul__» ⟨[.int a t, .ref l],[]⟩) (λz R s=>s.heap.get? l=W {cls:= .type "tuple",dict:=d,data:= .seq items n,slots:=b}/\R (.ok (.ret Value.notImplemented)) s):=
 .of_wp λc wS e R s h=>by obtain⟨f,g,d,i,os⟩:=s;obtain⟨hl,h⟩:=h;wp_walk;exact⟨_,rfl,h⟩
section
variable {k:Nat} {z h₀ h h':Heap} {env:Env}
theorem Mq{l:az}{v:aq}{x:Int}{u:jF}(hl:cU h l #[v])(C:0<=x)(D:x<64):Ev k h (DV .Mult (.ref l) (.int x u)) (λr h'=>∃a,r= .ref a/\cU h' a (kJ x.toNat v).toArray):=by
 intro L M f g E G H r j i;obtain⟨⟨cls,dd,data,sl⟩,ho,m,n,hd⟩:=id (hl.keeps j);simp only at m hd;subst m hd;refine wpAny_binaryOp_repeat_ref (s:=⟨f,g,E,G,H⟩) (T:="tuple") (U:="int") (by decide) ⟨_,ho,rfl⟩ (λI=>typeIs_int I x u) afA F.fills_int_mul YJ ajC F.slot_int_index.lookup
  (Ea YJ (typeIs_int _ x u) F.entry_int_rmul (F.args_int_rmul_2 _ _) (ajL x u l #[v] n dd sl) ⟨ho,rfl,⟨_,ho,rfl⟩,?_⟩)
 have p:∀c:Array aq,cU (f.push {cls:=rL "tuple",data:= .seq c}) f.objs.size c:=λc=>⟨_,Heap.get?_push_size _ rfl,rfl,0,rfl⟩;have t:∀c:Array aq,Ext f (f.push {cls:=rL "tuple",data:= .seq c}):=λc O P J=>Heap.get?_push_of_some _ J;by_cases w:x=0
 .subst w;exact Ea zk ⟨_,ho,rfl⟩ JD (JC _ _) (akO l v n dd sl u) ⟨ho,i _ _ _ (t _) ⟨_,rfl,p _⟩⟩
 .by_cases B:x=1
  .subst B;exact Ea zk ⟨_,ho,rfl⟩ JD (JC _ _) (akP l v n dd sl u) ⟨ho,i _ _ _ Ext.rfl ⟨_,rfl,(hl.keeps j)⟩⟩
  .exact Ea zk ⟨_,ho,rfl⟩ JD (JC _ _) (akQ l v n dd sl x u (by exact(ip 0x8084610a0aa400282a90800428 0x40110001084610002108c01).2 C w B) D) ⟨ho,i _ _ _ (t _) ⟨_,rfl,p _⟩⟩
theorem ab2{a b:az}{vs f:List aq}(H:cU h a vs.toArray)(B:cU h b f.toArray)(I:vs.length+f.length<=fv):Ev k h (DV .Add (.ref a) (.ref b)) (λr h'=>∃c,r= .ref c/\cU h' c (vs++f).toArray):=by
 intro M N j g l m p r t u;have C:=H.keeps t;obtain⟨⟨cls,dd,data,sl⟩,ho,D,n,hd⟩:=id C;obtain⟨⟨Eg,v,data2,w⟩,i,E,n2,hd2⟩:=id (B.keeps t);simp only at D hd E hd2;subst D hd E hd2;have J:vs.toArray++f.toArray=(vs++f).toArray:=by simp
 by_cases x:vs=[]
 .subst x;exact MG (s:=⟨j,g,l,m,p⟩) ⟨_,ho,rfl⟩ ⟨_,i,rfl⟩ Pf Wl La KZ (KX _ _)
   (tuple_addW0 a b _ f.toArray n n2 dd v sl w (by simp)) ⟨ho,i,u _ _ _ Ext.rfl ⟨_,rfl,(B.keeps t)⟩⟩
 .by_cases G:f=[]
  .subst G;exact MG (s:=⟨j,g,l,m,p⟩) ⟨_,ho,rfl⟩ ⟨_,i,rfl⟩ Pf Wl La KZ (KX _ _)
    (tuple_addW1 a b vs.toArray _ n n2 dd v sl w (λz=>x (by simpa using z)) (by simp)) ⟨ho,i,u _ _ _ Ext.rfl ⟨_,rfl,by simpa using C⟩⟩
  .refine MG (s:=⟨j,g,l,m,p⟩) ⟨_,ho,rfl⟩ ⟨_,i,rfl⟩ Pf Wl La KZ (KX _ _)
    (tuple_addW2 a b vs.toArray f.toArray n n2 dd v sl w (λz=>x (by simpa using z)) (λz=>G (by simpa using z)) (by simp only[jW,jW];exact I)) ⟨ho,i,?_⟩
   exact u _ _ _ (λb O L=>Heap.get?_push_of_some _ L) ⟨_,rfl,by rw[J];exact⟨_,Heap.get?_push_size _ rfl,rfl,0,rfl⟩⟩
theorem uF{l r:Expr}{s:Operator}{x:cC}{P1 P2:aq->Heap->Prop}{P:aq->Heap->Prop}(y:Ev k h (aa l env) P1)(Y:∀c,Ext h c->Ev k c (aa r env) P2)
  (hk:∀v c t,Ext c t->P1 v c->P1 v t)(C:∀a b h',Ext h h'->P1 a h'->P2 b h'->Ev k h' (DV s a b) P):Ev k h (aa (.BinOp l s r x) env) P:=by
 intro d M B g dr D f i j E;exact vJ (y d _ B g dr D f i j λv u F m n=>(Y u (j.trans m) d _ u g dr F f i Ext.rfl λN w G p H=>(C _ _ w ((j.trans m).trans p) (hk _ _ _ p n) H d _ w g dr G f i Ext.rfl λv I J L n=>E v I J ((m.trans p).trans L) n)))
theorem Ax{l r:Expr}{n:cC}{i j:Int}(x:aX k h (aa l env) i)(y:aX k h (aa r env) j)(p:j≠0):aX k h (aa (.BinOp l .Mod r n) env) (i.fmod j):=by intro b G s g dr t c d f w;refine vJ (x b _ s g dr t c d f λB C D m a=>?_);obtain⟨H,rfl⟩:=a;refine y b _ C g dr D c d (f.trans m) λB E I F a=>?_;obtain⟨J,rfl⟩:=a;exact mod_int' p (w _ E _ (m.trans F) ⟨_,rfl⟩)
theorem Na{l r:Expr}{n:cC}{i j:Int}(x:aX k h (aa l env) i)(y:aX k h (aa r env) j)(p:j≠0)(s:j.natAbs<1000):aX k h (aa (.BinOp l .FloorDiv r n) env) (i.fdiv j):=by intro b H t g dr w c d f B;refine vJ (x b _ t g dr w c d f λC D E m a=>?_);obtain⟨I,rfl⟩:=a;refine y b _ D g dr E c d (f.trans m) λC F J G a=>?_;obtain⟨L,rfl⟩:=a;exact floordiv_int p (B _ F _ (m.trans G) ⟨_,rfl⟩) (.inl (aaK (by exact Nat.le_trans s (by decide))))
theorem ac0{e:Expr}{a:cC}{i:Int}(x:aX k h (aa e env) i):aX k h (aa (.UnaryOp .USub e a) env) (-i):=by intro b s c g dr d f j l m;refine UnaryOp_ (x b _ c g dr d f j l λt n w p r=>?_);obtain⟨y,rfl⟩:=r;exact neg_int (m _ n _ p ⟨_,rfl⟩)
noncomputable def iF(m:Nat):List Int:=kJ ((-(m:Int)).fmod 3).toNat 2++kJ (((m:Int)-2*(-(m:Int)).fmod 3).fdiv 3).toNat 3
theorem WN{e:Expr}{d:Nat}{f:cC}{i:Int}(x:aX k h (aa e env) i)(g:autoParam (aH [e] env=(aw,aa e env)::aH [] env) rf):
  Ev k h (aa (.Tuple [e] d f) env) (λv h'=>∃a u,v= .ref a/\cU h' a #[.int i u]):=by
 refine(qm (P:=λb=>∃u,b=[.int i u]) ((eM (P:=λv=>∃u,v= .int i u) x lU g).imp λb=>?_) (λb c=>?_)).imp (Nat.le_refl _) λv h' e c=>?_
 .rintro⟨v,rest,rfl,⟨u,rfl⟩,rfl⟩;exact⟨u,rfl⟩
 .obtain⟨u,rfl⟩:=c;simp only[eO];simp
 .obtain⟨a,b,rfl,⟨u,rfl⟩,t⟩:=c;exact⟨a,u,rfl,t⟩
theorem acm{m:Nat}{u:jF}{V:aq}(B:Bs h)(p:2<=m)(a0:m<60):
  eJ 6 h (.call (.ref 272) ⟨[.int m u,V],[]⟩) (λv h'=>Ext h h'/\∃D vs,v= .ref D/\cU h' D (nU vs)/\iQ vs (iF m)):=by
 refine jj (k:=5) (fd:=ET) (body:=bodyOf ET) (binds:=[("amount", .int m u),("denominations",V)]) B (tF _) rfl
  (λz z z z z z=>eR rfl) (by nofun) (by nofun) rfl rfl rfl ?_
 intro a3 G A g dr tk o Q H qq;have a4:Ext h a3:=G.keep;have nl:h.get? h.objs.size=X:=by
  cases hc:h.get? h.objs.size with
  |none=>rfl
  |some ob=>exact absurd (Heap.lt_size hc) (Nat.lt_irrefl _)
 refine mS (lJ (k:=5) G.ns (P:=λv z=>∃i,v= .int ((-(m:Int)).fmod 3) i) (Ax (ac0 (.of (ah G.ns))) (ct) (by decide)) H λv a9 a5 b0 I J sb M=>?_) rfl;obtain⟨i,rfl⟩:=J;have a6:Ext h a5:=iC (a4.trans I) sb nl;refine oe (k:=5) (c:=decide ((m:Int)<2)) (qk (.of (ah M)) (ct)) H λb1 b2 Y=>?_;simp only[decide_eq_false (aid p)];simp only[ly];refine cA ?_;have y:=M.keeps Y;have N:0<=(-(m:Int)).fmod 3:=YZ _ (by decide);have C:(-(m:Int)).fmod 3<3:=YY _ (by decide);generalize hf:(-(m:Int)).fmod 3=f at N C M y;have O:0<=((m:Int)-2*f).fdiv 3/\((m:Int)-2*f).fdiv 3<60:=by rw[CN _ (by decide)];have:(-(m:Int)).fmod 3=(-(m:Int))%3:=JH _ (by decide);exact aie p a0 hf this
 have Z:∀(R:Int) (s:Nat) (u:jF),iQ (kJ s (.int R u)) (kJ s R):=λR s u=>by
  induction s with
  |zero=>exact .nil
  |succ s ih=>exact .cons _ _ ih
 refine fL (h₀:=h) (L:=0) (m:=λz=>X) (P:=λv h'=>∃D vs,v= .ref D/\cU h' D (nU vs)/\iQ vs (iF m)) (k:=5)
  (uF (P1:=λv h'=>∃d u,v= .ref d/\cU h' d (kJ f.toNat (.int 2 u)).toArray) (P2:=λv h'=>∃d u,v= .ref d/\cU h' d (kJ (((m:Int)-2*f).fdiv 3).toNat (.int 3 u)).toArray)
   (uF (P1:=λv h'=>∃d u,v= .ref d/\cU h' d #[.int 2 u]) (P2:=λv h'=>∃u,v= .int f u) (WN (ct)) (λE S=>((aX.of (ah y)).keeps S)) (λv E p l=>by rintro⟨d,u,rfl,i⟩;exact⟨d,u,rfl,i.keeps l⟩)
    (λd T h' l w x=>by obtain⟨d,u,rfl,i⟩:=w;obtain⟨u',rfl⟩:=x;exact(Mq i N (aif C)).imp (Nat.le_refl _) λv h' l=>by rintro⟨q,rfl,i⟩;exact⟨q,u,rfl,i⟩))
   (λE S=>uF (P1:=λv h'=>∃d u,v= .ref d/\cU h' d #[.int 3 u]) (P2:=λv h'=>∃u,v= .int (((m:Int)-2*f).fdiv 3) u) (WN (ct)) (λp I=>(Na (gf (.of (ah y)) (lX (ct) (.of (ah y)) ?_)) (ct) (by decide) (by decide)).keeps (S.trans I)) (λv E p l=>by rintro⟨d,u,rfl,i⟩;exact⟨d,u,rfl,i.keeps l⟩)
    (λd T h' l w x=>by obtain⟨d,u,rfl,i⟩:=w;obtain⟨u',rfl⟩:=x;exact(Mq i O.1 ((ip 0x1005f0a061e0be140d00084c8 0x8421).2 O)).imp (Nat.le_refl _) λv h' l=>by rintro⟨q,rfl,i⟩;exact⟨q,u,rfl,i⟩))
   (λv E p l=>by rintro⟨d,u,rfl,i⟩;exact⟨d,u,rfl,i.keeps l⟩)
   (λd T h' l w x=>by obtain⟨d,u,rfl,i⟩:=w;obtain⟨T,u',rfl,t'⟩:=x;exact(ab2 i t' (by simp only[eO];simp;exact(AY 0x20000005f85281003c17c291a401099030a0684a588430c8 0x12842009c2100023084012842009c21080013042009021004e1080012042009821004810802708421).2 (au rfl rfl) C O)).imp (Nat.le_refl _) λv h' l=>by rintro⟨q,rfl,i⟩;exact⟨q,_,rfl,i,by unfold iF;rw[hf];exact(Z _ _ _).append (Z _ _ _)⟩)) H λv a7 a8 e5 J=>?_
 .exact Bt.mX (k:=2) (j:=2) (by unfold Bt;decide) (by unfold Bt;exact(aff 0x814086140d0800428421a8 0x10048008c21000220840118421).2 rfl N C) (by decide)
 .exact qq v a7 a8 ⟨(a6.trans Y).trans e5,J⟩ (.ret v) rfl
end
structure Cv(z:aK)(env:gL)(m a:aA->Option aq)(h:aK):Prop where
 bz:Bz z h
 ns:h.Ns env.locals m
 nk:m "_context"=X
 cell:∀n c,env.cells.lookup n=W c->h.IsCell c (a n)
 apart:env.cells.Pairwise λx y=>x.2≠y.2
 above:∀n c,(n,c)∈env.cells->env.locals<c
 zL:z.objs.size<=env.locals
theorem Cv.jZ(C:Cv z env m a h)(b:env.cells.lookup n=W c)(d:a n=v):h.IsCell c v:=d▸C.cell n c b
theorem Mt{h:aK}{c:az}{v:Option aq}{o:aI}(x:h.IsCell c v)(d:h.get? c=W o):¬gz o:=by rintro⟨g,a,b,e,f,rfl⟩;obtain⟨i,h1,h2⟩:=x;replace h1:=(d)▸h1;cases h1;cases h2
theorem Cv.keeps(C:Cv z env m a h)(e:Ext h h'):Cv z env m a h':=⟨C.bz.keeps e,C.ns.keeps e,C.nk,λb d x=>(C.cell b d x).keeps e,C.apart,C.above,C.zL⟩
theorem Cv.mx(C:Cv z env m k h)(e:Mx z h h'):Cv z env m k h':=by
 refine⟨C.bz.mx e,?_,C.nk,λb d x=>?_,C.apart,C.above,C.zL⟩
 .obtain⟨a,f,g,h1,h2,i,j⟩:=C.ns;exact⟨a,f,g,e _ _ (.inr (jg ⟨a,f,g,h1,h2,i,j⟩ C.nk h1)) h1,h2,i,j⟩
 .obtain⟨a,h1,h2⟩:=C.cell b d x;exact⟨a,e _ _ (.inr (Mt (C.cell b d x) h1)) h1,h2⟩
theorem Cv.qR(C:Cv z env m f h)(s:dE env.locals h h')(n:h'.Ns env.locals a)(g:a "_context"=X):Cv z env a f h':=by refine⟨⟨C.bz.b,iC C.bz.e s (jq C.zL)⟩,n,g,λn d x=>(C.cell n d x).sameBut s (rG (C.above n d (mem_of_lookup x))),C.apart,C.above,C.zL⟩
theorem Cv.HB(C:Cv z env m g h)(a:env.cells.lookup n=W c)(s:dE c h h')(x:h'.IsCell c (W v)):Cv z env m (λy=>if y=n then W v else g y) h':=by
 have i:=iy (Dr C.zL (C.above n c (mem_of_lookup a)));refine⟨⟨C.bz.b,iC C.bz.e s (jq i)⟩,C.ns.sameBut s (cJ (C.above n c (mem_of_lookup a))),C.nk,λf j y=>?_,C.apart,C.above,C.zL⟩;by_cases d:f=n
 .subst d;replace y:=(a)▸y;cases y;simpa using x
 .exact(if_neg d)▸(C.cell f j y).sameBut s λk=>d (name_of_addr C.apart (mem_of_lookup y) (k▸mem_of_lookup a))
def zU(k:Nat)(h:aK)(c:vW)(P:aq->aK->Prop):Prop:=
 ∀(a:cT) (b:zR->aT->Prop) (g:Array dQ) (e:dT) (m:Nat) (f:df),aU k a->jC g->
  (∀i j l n,jC l->P i j->b (.ok (.ret i)) ⟨j,l,e,n,f⟩)->lT (MM) a c b ⟨h,g,e,m,f⟩
theorem WI
  (B:Bs h)(s:Fn (kf pS) a fd)(C:fd.body= .stmts body)(D:∀h' g d t o,(kf pS).In h'->vU ⟨h',g,d,t,o⟩ fd E binds)(G:fd.closure=[])
  (H:∀n:Nat,(binds.all λx=>decide (fd.scope.names.lookup x.1=W .local)||(decide (fd.scope.names.lookup x.1=W .cell)&&((cellsFrom (n+1) fd.scope.names []).lookup x.1).isSome))=af)
  (I:fd.scope.isCoroutine=aw)(J:fd.scope.isGenerator=aw)(hk:fd.scope.kind= .function)
  (L:bindL (uv fd h.objs.size a).kindOf binds (λz=>X) "_context"=X)
  (M:∀b,Ext h b->Cv h (uv fd h.objs.size a) (bindL (uv fd h.objs.size a).kindOf binds λz=>X) (bindC (uv fd h.objs.size a).kindOf binds λz=>X) b->
   ∀A g d tk o (Q:dM->aT->Prop),aU k A->jC g->
   (∀v u i j,jC i->P v u->∀f,(match f with|lA v=>v|_=> .none)=v->Q f ⟨u,i,d,j,o⟩)->
   aF (MM) A (bg body (uv fd h.objs.size a)) Q aE ⟨b,g,d,tk,o⟩):zU (k+1) h (.call (.ref a) E) P:=by
 intro A N g d tk o w O S;obtain⟨T,dd,sl,lk⟩:=s.obj;refine codeAny_call_function (o:=⟨T,dd, .func fd,sl⟩) (fd:=fd) (by have:=w.d;show A.depth<1000;exact Bj this) (B.k _ _ lk) rfl I J C (Ak B.k s.code) (D _ _ _ _ _ B.k _ _ _ _ ?_);refine(G)▸(wpAny_newFunctionEnv_cells hk (λx V=>?_) λa3 Y y x=>?_)
 .have:=nP.mp (H h.objs.size) x V;simp only[Yv,vV,decide_eq_true_eq] at this;exact this
 .subst Y;obtain⟨b,a4,rfl⟩:=x.toInCall.same;have m:=x.toInCall.keep;refine⟨B.l.keeps m,codeAny_func ?_⟩;refine bJ (M b m ⟨⟨B,m⟩,x.toInCall.ns,L,x.cell,x.apart,x.above,x.toInCall.fresh⟩ (A.deeper _) g d _ o
   (λf y=>N (.ok (.ret (match f with|lA v=>v|_=> .none))) y) w.deep O (λv Z i j a0 p f hf=>?_)) (λz z x=>x) (λz z x=>x.elim)
  subst hf;exact S _ Z i j a0 p
theorem hZ(C:Cv z env m f h)(i:autoParam (f n=W v) rf)(a:autoParam (env.cells.lookup n=W c) rf)(hk:autoParam (env.scope.kind= .function) rf)(hl:autoParam (env.kindOf n=W .cell) rf)
  (j:autoParam ((n==("__debug__":aA))=aw) rf):aO k h (aa (.Name n p) env) v:=by
 intro w x b g dr d l y t u;exact gR (ak8 (s:=⟨b,g,dr,d,l⟩) hk hl a ((C.jZ a i).keeps t) (u v b d Ext.rfl rfl)) j
theorem ur(n:dY k h (aa i env) P)
  (N:∀v j,P v j->Cv z env m p j)(r:aU k A)
  (q:∀v h' a b,P v h'->dE c h' a->Cv z env m (λy=>if y=x then W v else p y) a->aF (MM) A (bg rest env) Q aE ⟨a,g,d,b,o⟩)
  (hs:autoParam (mB i (W (.Name x t)) pos.line env=bj aw) rf)(e:autoParam (env.cells.lookup x=W c) rf)(hk:autoParam (env.scope.kind= .function) rf)(hl:autoParam (env.kindOf x=W .cell) rf):
  aF (MM) A (bg (.Assign [.Name x t] i pos::rest) env) Q aE ⟨h,g,d,tk,o⟩:=by
 exact de (oU (n A _ g d tk o r λv h' b f=>(Xi (s:=⟨h',g,d,b,o⟩) hk hl e ((N v h' f).cell x c e) λa u l=>q v h' a _ f l ((N v h' f).HB e l u))) hs)
section
variable {k:Nat} {z h h':Heap} {m cm:Str->Option Value} {env:Env}
theorem ab1{t:az}{vs:List Value}{ns:List Int}(i:cU h t vs.toArray)(c:iQ vs ns):Ev k h (eU (.builtin "sum") [.ref t]) (λv z=>∃u,v= .int ns.sum u):=by
 intro y B j g l a n p w x;have f:=i.keeps w;obtain⟨C,hx⟩:=c.allInts.items;have b:numsOf vs.toArray.toList=ns:=by simp only[show vs.toArray.toList=vs from rfl,c.numsOf]
 rw[hx] at f b;rw[nums_intItems] at b;refine ktm_sumG (s:=⟨j,g,l,a,n⟩) p.h f λh' a D hk=>?_;rw[preSum_eq,Kn (by simp),b];exact x _ h' a hk ⟨_,rfl⟩
theorem abx(c n:Nat)(a:c<=n):Jv X (W (c:Int)) 1 (n:Int)=((0:Int),(c:Int)):=by
 unfold Jv;have b:¬((1:Int)<0):=by lia
 have d:¬((c:Int)<0):=agk;simp only[if_false];congr 1;exact(afi 0x20c82a500424c832208 0x4013002208400080250042108400080230002308421).2 rfl a
theorem aja(c:Nat):CF 0 (c:Int) 1=c:=by
 unfold CF;have a:(1:Int)>0:=by omega
 simp only[a,if_true,Int.ediv_one];split<;>lia
theorem akc{A:cT}{E:Value->aT->Prop}{s:aT}{d:az}{c n:Nat}{u:jF}{Q:Int×Int×Nat->aT->Prop}(hs:s.heap.IsSliceOf d .none (.int c u) .none)(f:c<=n)(q:Q (0,1,c) s):
  aF (MM) A (YA (.ref d) (bj (n:Int))) Q E s:=by
 obtain⟨i,a,j,b⟩:=id hs;delta YA alA;refine aB (aB (Xc a b (x:= .none) rfl (aB (Xc a b (x:= .int c u) rfl (aB (Xc a b (x:= .none) rfl (aV (aB (slicePart_none ?_)))))))));refine cW (decide_eq_false (by decide)) (aB (slicePart_none (aB (slicePart_int (aB (aV ?_))))));show aF _ _ (match Jv X (W (c:Int)) 1 (n:Int) with|(e,g)=>bj (e,(1:Int),CF e g 1)) _ _ s;rw[abx c n f];show aF _ _ (bj ((0:Int),(1:Int),CF 0 (c:Int) 1)) _ _ s;rw[aja];exact aV q
theorem ai9(xs:Array Value)(c:Nat):((fD c).filterMap λ(k:Nat)=>xs[((0:Int)+(k:Int)*1).toNat]?).toArray=(xs.toList.take c).toArray:=by
 have a:(λ(k:Nat)=>xs[((0:Int)+(k:Int)*1).toNat]?)=λk=>xs[0+k]?:=by funext k;have:((0:Int)+(k:Int)*1).toNat=0+k:=((dz 0x40022491060940112588 0x441080200c000080240046108400080220002208421).2 rfl);rw[this]
 rw[a];have:=pick_run xs 0 c;rw[ZE] at this;have b:((λx=>xs[x]?)∘λx=>0+x)=λk=>xs[0+k]?:=rfl;rw[b] at this;simp only[this,List.drop_zero]
theorem adV{A:cT}{E:Value->aT->Prop}{s:aT}{t e:az}{vs:List Value}{c:Nat}{u:jF}{Q:Value->aT->Prop}(d:cU s.heap t vs.toArray)(hs:s.heap.IsSliceOf e .none (.int c u) .none)(g:c<=vs.length)
  (q:∀a h',Ext s.heap h'->cU h' a (vs.take c).toArray->Q (.ref a) {s with heap:=h'})(i:vs.length<=fv):aF (MM) A (sd (.ref t) (.ref e)) Q E s:=by
 have j:sizeOk (.seq (vs.take c).toArray):=by show(vs.take c).toArray.size<=fv;simp only[jW,wj];exact agl i
 obtain⟨l,n,o,x⟩:=id hs;have p:s.TypeIs (.ref e) "slice":=⟨l,n,o⟩;unfold sd
 try with_reducible refine eH ?_
 first|refine aB (aV ?_)|skip
 refine aB (wpAny_sequenceKey d.typeIs (by decide) ?_);refine aB (wpAny_callSpecial?_slot (name:=Str.ofString "__getitem__") d.typeIs BQ
  (yp BQ d.typeIs acH ?_ (abz _ _)))
 show aF _ _ (zg (.ref t)>>=_) _ _ s;refine aB (tupleItemsOf_ d (aB (HW p ?_)));refine jA (decide_eq_true (by decide)) (aB (akc hs (by simpa using g) ?_));by_cases f:c=vs.length
 .have r:(((0:Int)==0&&(1:Int)==1&&c==vs.toArray.size)=af):=by simp[f]
  refine jA (decide_eq_true r) ?_;dsimp only[alC];refine aB (aB (HW d.typeIs (aV (jA (decide_eq_true rfl) ?_))));refine aB (oW (aV ⟨_,rfl,aV (q t s.heap Ext.rfl ?_)⟩));simp only[f,zG];exact d
 .have v:¬(((0:Int)==0&&(1:Int)==1&&c==vs.toArray.size)=af):=by simp[f]
  show aF _ _ (if((0:Int)==0&&(1:Int)==1&&c==vs.toArray.size)=af then _ else _) _ _ s;rw[if_neg v,ai9];exact aB (m:=alB _) (ala (aV ⟨_,rfl,aV (q _ _ (λB C w=>Heap.get?_push_of_some _ w) ⟨_,Heap.get?_push_size _ rfl,rfl,0,rfl⟩)⟩) j)
theorem ado{j w:Expr}{p D:cC}{t:az}{vs:List Value}{c:Nat}(E:aO k h (aa j env) (.ref t))(Y:aX k h (aa w env) c)(x:cU h t vs.toArray)(F:c<=vs.length)(G:vs.length<=fv)
  (H:∀o r,me j o r=bj ():=by intro _ _;rfl):Ev k h (aa (.Subscript j (.Slice X (W w) X p) D) env) (λv h'=>∃a,v= .ref a/\cU h' a (vs.take c).toArray):=by
 intro I Z a0 g B tk o r f J;refine wpAny_Subscript_Slice (T:="tuple") BQ.lookup (Ev.at E r f λL M i=>wpAny_Slice ?_) H;simp only[xl];refine aV (Y I _ L g B M o r (f.trans i) λv C N l O=>aV ?_);obtain⟨P,rfl⟩:=O;have n:Ext C (C.push {cls:= .type "slice",data:= .fields #[.none, .int c P, .none]}):=λb ob R=>Heap.get?_push_of_some _ R;exact⟨(x.keeps (((f.trans i).trans l).trans n)).typeIs,adV (s:=⟨_,g,B,N,o⟩) (x.keeps (((f.trans i).trans l).trans n)) (Heap.IsSliceOf.new ..) F (λa h' S V=>(J (.ref a) h' _ (((i.trans l).trans n).trans S) ⟨a,rfl,V⟩)) G⟩
end
def zl(o:aI):Prop:=(o.cls= .type "tuple"\/∃b,o.cls= .ref b)/\∀c d,o.data≠ .dict c d
def Kx(h h':aK):Prop:=∀c a,zl a->h.get? c=W a->h'.get? c=W a
theorem Kx.trans{a b c:aK}(x:Kx a b)(y:Kx b c):Kx a c:=λe f g h=>y e f g (x e f g h)
theorem Ext.kx{h h':aK}(e:Ext h h'):Kx h h':=λa c f d=>e a c d
theorem abR{a:az}{h h':aK}{o:aI}(s:dE a h h')(e:h.get? a=W o)(n:¬zl o):Kx h h':=λd g f c=>by
 have:d≠a:=by rintro rfl;replace c:=(e)▸c;cases c;exact n f
 exact(s.2 d this).trans c
theorem BS{o:aI}{b:String}(c:o.cls= .type b)(n:b≠"tuple"):¬zl o:=by
 rintro⟨h|⟨d,h⟩,_⟩
 .rw[c] at h;injection h with h;exact n h
 .rw[c] at h;cases h
theorem qF{h h':aK}{L:az}{m:aA->Option aq}(s:dE L h h')(n:h.Ns L m):Kx h h':=λc e d a=>by
 obtain⟨f,g,i,h1,h2,_⟩:=n;have:c≠L:=by rintro rfl;replace a:=(h1)▸a;cases a;exact d.2 _ _ h2
 exact(s.2 c this).trans a
section
variable {k:Nat} {z h h':Heap} {m cm:Str->Option Value} {env:Env}
def ua(k:Nat)(h:Heap)(env:Env)(e:Expr)(n:Nat)(P:Nat->Value->Prop):Prop:=
 ∀(f:cT) (q:Value->aT->Prop) (j:Heap) (g:Array dQ) (r:dT) (u:Nat) (a:df),aU k f->Ext h j->
  (∀c s p l v,Ext j l->j.get? c=X->Walks pw wS f c s [c] n P p->p 0 l->(∀w∈s,∃a,l.get? w=W a)->(∀y t,p y t->∃a,t.get? c=W a/\¬zl a)->q (.ref c) ⟨l,g,r,v,a⟩)->
  aF (MM) f (aa e env) (λx B=>aF (MM) f (Hr x) q aE B) aE ⟨j,g,r,u,a⟩
theorem AR{e:Expr}{la:az}{vs:Array Value}(x:aO k h (aa e env) (.ref la))(hl:h.IsList la vs):ua k h env e vs.size (λi v=>vs[i]?=W v):=by
 intro J L B g C M D t u E;refine Ev.at x t u λj w n=>?_;have l:=ew hl (u.trans n);have F:la≠j.objs.size:=by obtain⟨f,a,_⟩:=l;exact Nat.ne_of_lt (Heap.lt_size a)
 refine HT (s:=⟨j,g,C,w,D⟩) l (E j.objs.size _ _ _ w (n.trans λG f a=>Heap.get?_push_of_some _ a) ?_ (abq t.h _ la F vs) ⟨⟨_,Heap.get?_push_size _ rfl,rfl,rfl⟩,l.push _⟩ (λG p=>?_) (λi N st=>?_))
 .cases I:B.get? j.objs.size with
  |none=>rfl
  |some f=>exact absurd (Heap.lt_size (n _ _ I)) (Nat.lt_irrefl _)
 .rcases cP.mp p with rfl|p
  .exact⟨_,Heap.get?_push_size _ rfl⟩
  .obtain rfl:=gb.mp p;obtain⟨f,a,_⟩:=l;exact⟨f,Heap.get?_push_of_some _ a⟩
 .obtain⟨f,a,c,_⟩:=st.1;exact⟨f,a,BS c (by decide)⟩
theorem Ou{e:Expr}{a b c:Int}{n:Nat}(C:Ev k h (aa e env) (λv h'=>∃r t u j,v= .ref r/\CV h' r a b c t u j))(hs:zf a b c=af)(D:rq a b c=(n:Int)):
  ua k h env e n (λi v=>∃t,v= .int (a+i*c) t):=by
 intro E P l g p F w r G I;refine C E _ l g p F w r G λv f x B J=>?_;obtain⟨R,t,u,j,rfl,hr⟩:=J;refine HU (s:=⟨f,g,p,x,w⟩) hr hs ?_;refine I f.objs.size _ _ _ x (B.trans λb L M=>Heap.get?_push_of_some _ M) ?_ (Walks.range r.h _ a c n) (by show iw _ _ _ _ _;rw[D];simpa using Heap.get?_push_size _ rfl) (λb N=>?_) (λi S st=>⟨_,st,BS rfl (by decide)⟩)
 .cases O:l.get? f.objs.size with
  |none=>rfl
  |some L=>exact absurd (Heap.lt_size (B _ _ O)) (Nat.lt_irrefl _)
 .obtain rfl:=gb.mp N;exact⟨_,Heap.get?_push_size _ rfl⟩
def jo(p:Nat->Bool)(a:Nat->Value->Heap->Prop)(n:Nat)(h:Heap)(ys:Array Value):Prop:=rH (λb c=>a b c h) ((fD n).filter p) ys.toList
theorem vw{c d:Type}{e G:c->d->Prop}(f:∀a b,e a b->G a b){g:List c}{i:List d}(p:rH e g i):rH G g i:=by
 induction p with
 |nil=>exact .nil
 |cons x _ j=>exact .cons (f _ _ x) j
theorem Ej{n p q:Expr}{r:List Expr}{e:nY}{s:List (Str×az)}{t:cC}{use:Option (Value->dG Unit)}{Q:Value->aT->Prop}{A:cT}{a:Heap}{g:Array dQ}{d:dT}{tk:Nat}{o:df}{i:az}
  (self:∀c f (R:Value->aT->Prop) (E:Value->aT->Prop),Ext a c->R (.ref i) ⟨c,g,d,f,o⟩->aF (MM) A (Hr (.ref i)) R E ⟨c,g,d,f,o⟩)
  (G:∀D C c f,D≠C->a.get? D=X->a.get? C=X->LO c D #[]->Ext a c->c.Ns C (λz=>X)->lT (MM) A (.compLoop (.ListComp n [⟨p,q,r,0⟩] e t) 0 (.ref i) (.ref D) (hX e s C env)) (MD (MM) A aE use Q (.ref D) C) ⟨c,g,d,f,o⟩)
  (H:∀y∈e.names,y.2≠ .cell)(J:autoParam (e.kind= .function) rf):
  aF (MM) A (newList []) (λu L=>aF (MM) A (newFunctionEnv e env.globals s [] env.qual X .none (W env)) (λv M=>
   lT (MM) A (.compStart (.ListComp n [⟨p,q,r,0⟩] e t) 0 (.ref i) u {v with scope:=relabel e env}) (MD (MM) A aE use Q u v.locals) M) aE L) aE ⟨a,g,d,tk,o⟩:=by
 refine ala (ak9 H (by intro y N;simp at N) (λc l j=>?_) J);dsimp only at l j⊢;have O:(a.push {cls:= .type "list",dict:=X,data:= .seq ([]:List Value).toArray}).objs.size=a.objs.size+1:=Heap.size_push ..;rw[O] at l j⊢;have w:a.get? (a.objs.size+1)=X:=Heap.get?_none_of_le (Nat.le_succ _);have x:a.objs.size≠a.objs.size+1:=Nat.ne_of_lt (Nat.lt_succ_self _);have B:Ext a c:=λP S y=>j.extBut P S (eg y w) (Heap.get?_push_of_some _ (Heap.get?_push_of_some _ y));have F:=λf=>G a.objs.size (a.objs.size+1) c f x (Heap.get?_none_of_le (Nat.le_refl _)) w ⟨0,j.extBut _ _ x (Heap.get?_push_of_some _ (Heap.get?_push_size _ rfl))⟩ B l;exact codeAny_compStart_list (F _) (self c _ _ _ B (F _))
inductive CI(p:Nat->Bool)(F:Nat->Value->Heap->Prop)(j:Nat->Heap->Prop)(g:Array dQ)(d:dT)(o:df)(q:Heap)(D C:az)(n N:Nat)(s:aT):Prop
 |mk (b:Nat) (a:Heap) (r:Nat) (m:Str->Option Value) (f:Array Value) (e:s=⟨a,g,d,r,o⟩) (t:Ext q a) (st:j b a) (l:LO a D f) (ns:a.Ns C m) (c:jo p F b a f) (u:b<=n) (v:N=n+1-b)
theorem ME{b4 a4:Expr}{x:Str}{px:cC}{b5:List Expr}{t:nY}{B:List (Str×az)}{c7 c8:cC}{n:Nat}{use:Option (Value->dG Unit)}{Q:Value->aT->Prop}{A:cT}{M:Heap}{g:Array dQ}{d:dT}{tk:Nat}{o:df}{P:Nat->Value->Prop}(p:Nat->Bool)(Y:Nat->Value->Heap->Prop)
  (r:aU k A)(e:Ext h M)(It:ua k h env a4 n P)(Z:∀i y h1 h2,Kx h1 h2->Y i y h1->Y i y h2)(hz:n<=1000)
  (c9:∀C i v G a0,i<n->P i v->Ext h G->h.get? C=X->G.Ns C a0->a0 x=W v->Ev k G (mT b5 af λc r=>if r=af then do let ok<-isTrue c (hX t B C env) (aa c (hX t B C env));bj (mF ok) else bj (mF r)) (λok w=>ok=p i))
  (d0:∀C i v G a0,i<n->P i v->p i=af->Ext h G->h.get? C=X->G.Ns C a0->a0 x=W v->Ev k G (aa b4 (hX t B C env)) (λy h'=>Y i y h'))
  (fin:∀D C H a3 m' ys f,Ext M H->h.get? D=X->M.get? C=X->D≠C->LO H D ys->H.Ns C m'->jo p Y n H ys->MD (MM) A aE use Q (.ref D) C (.ok f) ⟨H,g,d,a3,o⟩)
  (d1:autoParam (uy t env=bj B) rf)(d2:autoParam ((t.names.all λy=>y.2 != .cell)=af) rf)(a7:autoParam (t.kind= .function) rf)
  (d3:autoParam (∀y∈t.names,y.2= .local->t.names.lookup y.1=W .local) Hw)(hx:autoParam (t.names.lookup x=W .local) rf)
  (hs:∀x,xr a4 env x=bj x:=by intro _;rfl):
  aF (MM) A (comprehension (.ListComp b4 [⟨.Name x px,a4,b5,0⟩] t c7) t env c8 (newList []) aw (aa a4 env) use) Q aE ⟨M,g,d,tk,o⟩:=by
 refine Xb (use:=use) rfl hs d1 a7 d3 (It A _ M g d tk o r e λI fp St G g5 e3 nI L a8 b6 b7=>?_);have d4:∀y∈t.names,y.2≠ .cell:=λy hy=>by have:=nP.mp d2 y hy;simpa using this
 have d5:∃l,G.get? I=W l:=let⟨l,y,_⟩:=b7 0 _ a8;⟨l,y⟩;refine Ej (λb8 a3 R E e4 q=>L.self 0 _ _ _ (L.frame _ _ _ a8 λj w l y=>e4 j l y) q) (λD C b8 d6 DC nD nC d7 b9 d8=>?_) d4 a7;have a9:∀j,(∃l,G.get? j=W l)->j≠D/\j≠C:=λj ⟨l,y⟩=>⟨(eg y nD),(eg y nC)⟩;obtain⟨ID,IC⟩:=a9 I d5;have c0:=ft e3 nD;have b0:=ft e3 nC;have d9:=ft e c0;have c1:=ft e b0;have e0:=L.frame _ _ _ a8 λj w l y=>b9 j l y;have e5:(hX t B C env).kindOf x=W .local:=lookup_relabel_local hx;have e6:((hX t B C env).scope.kind== .class||((hX t B C env).scope.kind== .module&&(hX t B C env).locals !=(hX t B C env).globals))=aw:=by simp[hX,relabel,a7]
 .
  refine codeAny_compLoop_tests (CI p Y St g d o M D C n) ?_ (n+1)
   ⟨0,b8,d6,_,#[],rfl,e3.trans b9,e0,d7,d8, .nil,Nat.zero_le _,rfl⟩
  rintro N s' ⟨i,H,a3,m',ys,rfl,EH,stH,lH,nH,cH,hi,rfl⟩;obtain⟨oI,yI,sI⟩:=b7 i H stH;by_cases aQ:i<n
  .refine L.item i ⟨H,g,d,a3,o⟩ _ _ aQ stH λv O c2 hP e9 k5=>?_;have J:∀j l,j≠I->H.get? j=W l->O.get? j=W l:=λj l nb y=>k5 j l (by simpa using nb) y;have b1:Kx H O:=λj l S y=>J j l (by rintro rfl;replace y:=(yI)▸y;cases y;exact sI S) y;have n5:=nH.at' λl y=>J _ l IC.symm y;refine qZ (fw (env:=hX t B C env) e5 n5 (λb2 n6 a5=>?_) e6);have V:=iC (λj l y=>J j l (eg y nI) (EH j l y)) a5 (b0);have c3:=L.frame _ _ _ e9 λj S l y=>a5.extBut j l (a9 j (b6 j S)).2 y;have l6:LO b2 D ys:=by obtain⟨nn,y⟩:=lH;exact⟨nn,a5.extBut _ _ DC (J _ _ ID.symm y)⟩
   have f3:=qF a5 n5;have c6:=vw (λT j=>Z T j _ _ (b1.trans f3)) cH;refine bJ (E:=aE) (c9 C i v b2 _ aQ hP (e.trans V) (c1) n6 (by simp) A _ b2 g d _ o r Ext.rfl λok b3 f5 u f6=>?_) (λw w z=>z) λw w z=>z.elim;subst f6;cases hp:p i with
   |false=>simp only[ly,if_false];refine⟨n+1-(i+1),vj aQ,i+1,b3,f5,_,ys,rfl,V.trans u,L.frame _ _ _ c3 λj w l y=>u j l y,l6.keeps u,n6.keeps u,?_,aQ,rfl⟩;unfold jo;rw[Kj,ZF];simpa [hp] using vw (λT j=>Z T j _ _ u.kx) c6
   |true=>
    simp only[if_true];refine bJ (E:=aE) (d0 C i v b3 _ aQ hP hp ((e.trans V).trans u) (c1) (n6.keeps u) (by simp) A _ b3 g d _ o r Ext.rfl λy f7 c4 e8 hy=>?_) (λw w z=>z) λw w z=>z.elim;have l8:=(l6.keeps u).keeps e8;obtain⟨nn,y8⟩:=l8;have f9:ys.size<=fv:=by
     have e1:=c6.length;have e2:((fD i).filter p).length<=(fD i).length:=ZN _ _;have e4:ys.toList.length=ys.size:=by simp
     rw[ud] at e2;rw[eO];exact(oC 0x20000005f85004308852c0862c884a848fa05f0a408 0x84210050118020098014050008821).2 hz aQ e1 e2 e4
    refine DM (s:=⟨f7,g,d,c4,o⟩) y8 (λg0 a6 l9=>?_) f9;have c5:=abR a6 y8 (BS rfl (by decide));refine⟨n+1-(i+1),vj aQ,i+1,g0,c4,_,ys.push y,rfl,iC ((V.trans u).trans e8) a6 (c0),L.frame _ _ _ c3 λj S l yy=>a6.extBut j l (a9 j (b6 j S)).1 (e8 _ _ (u _ _ yy)),⟨_,l9⟩,((n6.keeps u).keeps e8).sameBut a6 DC.symm,?_,aQ,rfl⟩;unfold jo;rw[Kj,ZF];have e1:(ys.push y).toList=ys.toList++[y]:=by simp
    rw[e1];have e2:List.filter p [i]=[i]:=by simp[hp]
    rw[e2];exact Paired.snoc (vw (λT j=>Z T j _ _ ((u.kx.trans e8.kx).trans c5)) c6) (Z _ _ _ _ c5 hy)
  .have g4:i=n:=vf hi aQ;subst g4;refine L.done ⟨H,g,d,a3,o⟩ _ _ stH λO c2 k5=>?_;have J:∀j l,j≠I->H.get? j=W l->O.get? j=W l:=λj l nb y=>k5 j l (by simpa using nb) y;have b1:Kx H O:=λj l S y=>J j l (by rintro rfl;replace y:=(yI)▸y;cases y;exact sI S) y;have V:Ext M O:=λj l y=>J j l (eg y nI) (EH j l y);refine fin D C O c2 m' ys _ V (d9) (b0) DC ?_ (nH.at' λl y=>J _ l IC.symm y) (vw (λT j=>Z T j _ _ b1) cH);obtain⟨nn,y⟩:=lH;exact⟨nn,J _ _ ID.symm y⟩
inductive NL(h:Heap)(P:Array Value->Heap->Prop)(v:Value)(h':Heap):Prop
 |mk (D:az) (a:Array Value) (e:v= .ref D) (n:h.get? D=X) (l:LO h' D a) (p:P a h')
theorem uG{G w:Expr}{x:Str}{O:cC}{I:List Expr}{j:nY}{u:List (Str×az)}{R:cC}{n:Nat}{P:Nat->Value->Prop}(p:Nat->Bool)(s:Nat->Value->Heap->Prop)
  (S:ua k h env w n P)(J:∀i y L M,Kx L M->s i y L->s i y M)(T:n<=1000)
  (V:∀C i v l t,i<n->P i v->Ext h l->h.get? C=X->l.Ns C t->t x=W v->Ev k l (mT I af λc r=>if r=af then do let B<-isTrue c (hX j u C env) (aa c (hX j u C env));bj (mF B) else bj (mF r)) (λB z=>B=p i))
  (Y:∀C i v l t,i<n->P i v->p i=af->Ext h l->h.get? C=X->l.Ns C t->t x=W v->Ev k l (aa G (hX j u C env)) (λy h'=>s i y h'))
  (Z:autoParam (uy j env=bj u) rf)(a0:autoParam ((j.names.all λy=>y.2 != .cell)=af) rf)(a3:autoParam (j.kind= .function) rf)
  (a4:autoParam (∀y∈j.names,y.2= .local->j.names.lookup y.1=W .local) Hw)(hx:autoParam (j.names.lookup x=W .local) rf)
  (hs:∀x,xr w env x=bj x:=by intro _;rfl):
  Ev k h (aa (.ListComp G [⟨.Name x O,w,I,0⟩] j R) env) (NL h λys h'=>jo p s n h' ys):=by
 intro A Q a5 g d tk o r e q;simp only[Nn];refine ME (use:=X) p s r e S J T V Y (λD C H a6 m' ys f EH nD nC DC lH N cH=>(⟨m',N,λa7 E=>q _ _ _ (iC EH E nC) ⟨D,ys,rfl,nD,lH.but E DC,vw (λa b=>J a b _ _ (qF E N)) cH⟩⟩)) Z a0 a3 a4 hx hs
theorem abC{J E:Expr}{x l:Str}{V L Y:cC}{M:List Expr}{e:nY}{G:List (Str×az)}{Z:cC}{n:Nat}{P:Nat->Value->Prop}(p:Nat->Bool)(s:Nat->Value->Heap->Prop){Q:dM->aT->Prop}{rest:List cQ}{A:cT}{g:Array dQ}{d:dT}{tk:Nat}{o:df}
  (N:h.Ns env.locals m)(r:aU k A)
  (It:ua k h env E n P)(hF:∀i y h1 h2,Kx h1 h2->s i y h1->s i y h2)(hz:n<=1000)
  (a3:∀C i v j t,i<n->P i v->Ext h j->h.get? C=X->j.Ns C t->t x=W v->Ev k j (mT M af λc r=>if r=af then do let O<-isTrue c (hX e G C env) (aa c (hX e G C env));bj (mF O) else bj (mF r)) (λO w=>O=p i))
  (a4:∀C i v j t,i<n->P i v->p i=af->Ext h j->h.get? C=X->j.Ns C t->t x=W v->Ev k j (aa J (hX e G C env)) (λy h'=>s i y h'))
  (q:∀D ys h' a0,Heap.ExtBut env.locals h h'->h.get? D=X->D≠env.locals->h'.Ns env.locals (λz=>if z=l then W (.ref D) else m z)->LO h' D ys->jo p s n h' ys->aF (MM) A (bg rest env) Q aE ⟨h',g,d,a0,o⟩)
  (a5:autoParam (mB (.ListComp J [⟨.Name x V,E,M,0⟩] e Z) (W (.Name l L)) Y.line env=bj af) rf)
  (a6:autoParam (uy e env=bj G) rf)(a7:autoParam ((e.names.all λy=>y.2 != .cell)=af) rf)(a8:autoParam (e.kind= .function) rf)
  (a9:autoParam (∀y∈e.names,y.2= .local->e.names.lookup y.1=W .local) Hw)(hx:autoParam (e.names.lookup x=W .local) rf)
  (hs:∀x,xr E env x=bj x:=by intro _;rfl)
  (hl:autoParam (env.kindOf l=W .local) rf)(hg:autoParam ((env.scope.kind== .class||(env.scope.kind== .module&&env.locals !=env.globals))=aw) rf):
  aF (MM) A (bg (.Assign [.Name l L] (.ListComp J [⟨.Name x V,E,M,0⟩] e Z) Y::rest) env) Q aE ⟨h,g,d,tk,o⟩:=by
 refine de ?_;simp only[exec_Assign_Name_used _ _ _ _ a5];refine aB (gG (aB (aB (ME (use:=W (jH (.Name l L) env)) p s r Ext.rfl It hF hz a3 a4 (λD C H a0 m' ys f R nD nC DC lH nH cH=>?_) a6 a7 a8 a9 hx hs))));have S:env.locals≠C:=by rintro rfl;obtain⟨o,_,_,ho,_⟩:=N;replace ho:=(nC)▸ho;cases ho
 have LD:D≠env.locals:=by rintro rfl;obtain⟨o,_,_,ho,_⟩:=N;replace ho:=(nD)▸ho;cases ho
 refine qZ (fw hl (N.keeps R) (λb1 n6 u=>(⟨m',nH.sameBut u S.symm,λb0 I=>aV (aV (q D ys b0 _ (λB T hb y=>?_) nD LD (n6.sameBut I S) ((lH.but u LD).but I DC) (vw (λa B=>hF a B _ _ ((qF u (N.keeps R)).trans (qF I (nH.sameBut u S.symm)))) cH)))⟩)) hg);have bC:=eg y nC;exact I.extBut B T bC (u.extBut B T hb (R B T y))
end
section
variable {k:Nat} {z h h':Heap} {m cm:Str->Option Value} {env:Env}
theorem ED{b e:Expr}{a:cC}{id:String}{P1 P:Value->Heap->Prop}(x:aO k h (aa b env) (.builtin id))(y:Ev k h (aa e env) P1)
  (C:∀v h',Ext h h'->P1 v h'->Ev k h' (eU (.builtin id) [v]) P)(B:autoParam (aa (.Call b [e] [] a) env=(do dH a (<-aa b env) [] (bG a (aH [e] env)) (bZ a (cf [] env)))) rf)
  (n:autoParam (aH [e] env=(aw,aa e env)::aH [] env) rf)(D:autoParam ((bG a (aH [] env)).any (·.1)=aw) rf):
  Ev k h (aa (.Call b [e] [] a) env) P:=by
 intro p N O g s R t c f E;rw[B];refine aB (Ev.at x c f λG H i=>?_);refine Dw (cF (y p _ G g s H t c (f.trans i) λj u I w l=>?_) n) n D;exact eQ (C j u ((f.trans i).trans w) l p _ u g s I t c Ext.rfl λj J L M l=>E j J L ((i.trans w).trans M) l)
theorem EO{c e:Expr}{a:cC}{n:Int}(x:aO k h (aa c env) (.type "range"))(B:aX k h (aa e env) n)
  (C:autoParam (aa (.Call c [e] [] a) env=(do dH a (<-aa c env) [] (bG a (aH [e] env)) (bZ a (cf [] env)))) rf)
  (f:autoParam (aH [e] env=(aw,aa e env)::aH [] env) rf)(D:autoParam ((bG a (aH [] env)).any (·.1)=aw) rf):
  Ev k h (aa (.Call c [e] [] a) env) (λv h'=>∃r t u i,v= .ref r/\CV h' r 0 n 1 t u i):=by
 intro E P R g j S l r p G;rw[C];refine aB (Ev.at x r p λH I w=>?_);refine callWith_type1 (cF (B E _ H g j I l r (p.trans w) λi J L M N=>?_) f) f D;obtain⟨u,rfl⟩:=N;refine eQ (call_range_1 (s:=⟨J,g,j,L,l⟩) ?_);exact G _ _ _ ((w.trans M).trans λT V O=>Heap.get?_push_of_some _ O) ⟨_,_,_,_,rfl,Heap.get?_push_size _ rfl⟩
theorem kO{n:Str}{p:cC}{c:az}{v:Value}(d:h.IsCell c (W v))(f:autoParam (env.cells.lookup n=W c) rf)(hk:autoParam (env.scope.kind= .function) rf)(hl:autoParam (env.kindOf n=W .cell) rf)
  (i:autoParam ((n==("__debug__":Str))=aw) rf):aO k h (aa (.Name n p) env) v:=by
 intro u w a g dr b j x l t;exact gR (ak8 (s:=⟨a,g,dr,b,j⟩) hk hl f (d.keeps l) (t v a b Ext.rfl rfl)) i
theorem BL{n:Nat}:rq 0 (n:Int) 1=(n:Int):=by unfold rq;simp;exact ah3
theorem kv{n:Nat}(h:n<100000):zf 0 (n:Int) 1=af:=by unfold zf;rw[BL];unfold Yz;simp;exact ah4 h
theorem aeh{vs:List Value}{ns:List Int}(c:Nat)(p:iQ vs ns):iQ (vs.take c) (ns.take c):=by
 induction p generalizing c with
 |nil=>rw[ZY,ZY];exact .nil
 |cons b d _ e=>
  cases c with
  |zero=>exact .nil
  |succ c=>exact .cons b d (e c)
noncomputable abbrev dB(L:az):Env:=uv xp L 451
noncomputable def cq(ns:List Int):Nat->Int:=λa=>(ns.take a).sum
noncomputable def Es:List cQ:=bodyOf xp
noncomputable def qh:Expr:=nj (Es.getD 3 (.Pass ⟨0,0,0,0⟩)) 0
noncomputable def Eu:Expr:=jv qh 2
noncomputable def acx:Expr:=jv Eu 1
theorem ac2{L:az}{l:az}{vs:List Value}{ns:List Int}(C:Cv z (dB L) m cm h)(D:cm "lengths"=W (.ref l))(E:cU h l vs.toArray)(F:iQ vs ns)(p:vs.length<500):
  Ev k h (aa acx (dB L)) (NL h λys h'=>jo (λx=>af) (λi y x=>∃u,y= .int (cq ns i) u) (vs.length+1) h' ys):=by
 have M:h.IsCell (L+4) (W (.ref l)):=C.jZ (n:="lengths") rfl D;have G:((vs.length:Int)+1)=((vs.length+1:Nat):Int):=by push_cast;rfl
 refine uG (k:=k) (n:=vs.length+1) (P:=λi f=>∃H,f= .int (0+i*1) H) (λx=>af) (λi y x=>∃u,y= .int (cq ns i) u)
  (Ou (a:=0) (b:=vs.length+1) (c:=1) (EO (eY C.bz.bs (by nofun) (by boot_by_name) (by decide)) (rU (qi (v:= .ref l) (eY C.bz.bs (by nofun) (by boot_by_name) (by decide)) (hZ C D) λh' j=>(abX (E.keeps j) (by simp;exact RH p)).imp (Nat.le_refl _) λf h' j w=>by simpa using w) (ct))) (G▸kv (by exact Nat.lt_of_le_of_lt p (Nat.lt_of_sub_eq_succ rfl))) (G▸BL))
  (λi y h1 h2 x hf=>hf) (by exact Nat.le_trans p (by decide)) (λN i f O R F I j S J B=>?_) (λN i f O R aQ I hp j S J B=>?_)
 .intro A Q T g d V o r e2 Y;exact aV (Y _ T V Ext.rfl rfl)
 .obtain⟨H,rfl⟩:=I;have Z:(0:Int)+(i:Int)*1=(i:Int):=by exact Qh
  rw[Z] at B;exact ED (P1:=λf h'=>∃s,f= .ref s/\cU h' s (vs.take i).toArray) (eY (C.bz.keeps j).bs (by nofun) (by boot_by_name) (by decide))
   (ado (kO (M.keeps j)) (.of (ah J B)) (E.keeps j) (by exact Nat.le_of_lt_succ aQ) (eO▸RK p))
   λf h' e' w=>by obtain⟨s,rfl,t'⟩:=w;exact ab1 t' (aeh i F)
end
section
variable {A:Around} {R:GenEnd} {Y:Protocol} {n:Nat} {s₀:Shared} {c:Code} {fs:List Frame} {s:Shared} {env:Env}
 {K:Flow->Sem PySem.Fin} {H:Value->Sem PySem.Fin} {gd:Bool->Bool} {lv:List Value->List Value}
noncomputable def jh(K:Flow->Sem PySem.Fin)(H:Value->Sem PySem.Fin)(gd:Bool->Bool)(lv:List Value->List Value)(env:Env)(c:Code)(p:cC):Frame:=
 .ret (λa=>((match a with| .ok f=>(.pure f:Sem Flow)| .error b=> .raise b).onRaise λ(x:Value)=>do
  if(<-field x 1)==Value.none then unsupported "frame.own-activation:exception-without-traceback"
  setFlight x env.frame).wrap K H gd lv) X (gd aw) (lv []) c p []
theorem Wh{a b:Expr}{body d:List cQ}{k:cC}
  (h:aF (MM) (A.over c fs) (aa b env) (λx i=>aF (MM) (A.over c fs) (Hr x) (λe j=>
   ∀p,jX (MM) A R Y n s₀ (.forLoop a e body d env) ((MM).den (.forLoop a e body d env)) (jh K H gd lv env c p::fs) j)
   aE i) aE s)(hs:∀x,xr b env x=bj x:=by intro _;rfl):
  jX (MM) A R Y n s₀ c ((exec (.For a b body d k) env).wrap K H gd lv) fs s:=by
 rw[exec_For];refine qQ (gG (qQ (bJ h (λx i l=>?_) λf f g=>g.elim)));refine qQ (oV (hs x) (qQ (gG ?_)));exact qQ (eH (bJ l (λe j m=>(seg_call m)) λf f g=>g.elim))
theorem BN{a:Expr}{b:Value}{body d:List cQ}
  (h:aF (MM) (A.over (.forLoop a b body d env) fs) (vA b) (λr i=>match r with
   |none=>jX (MM) A R Y n s₀ (.block d env) ((MM).den (.block d env)) fs i
   |some v=>aF (MM) (A.over (.forLoop a b body d env) fs) (sk a b v) (λy j=>aF (MM) (A.over (.forLoop a b body d env) fs) (jH a env v) (λy k=>
     jX (MM) A R Y n s₀ (.forLoop a b body d env) ((bg body env).wrap (λf=>match f with
      | .next| .cont=> .pure (.again (.forLoop a b body d env))
      | .brk=> .pure (.done .next)
      | .ret v=> .pure (.done (.ret v))) (λe=>(do Gj e env;HH e:Sem Unit).wrap (λy=> .raise e) .raise id id) id id) fs k) aE j) aE i) aE s):
  jX (MM) A R Y n s₀ (.forLoop a b body d env) ((MM).den (.forLoop a b body d env)) fs s:=by
 show jX _ A R Y n s₀ _ ((forTurn a b body d env).onRaise (λx=>do Gj x env;HH x)) fs s;unfold forTurn;rw[Sem.onRaise_eq_wrap];refine qQ (gG (qQ (wpAny_onRaise (bJ h (λr i l=>?_) λy y g=>g.elim))));cases r with
 |none=>exact BM rfl l
 |some v=>
  refine qQ (bJ l (λy j m=>(qQ (bJ m (λy k o=>?_) λy y g=>g.elim))) λy y g=>g.elim);rw[Sem.bind_eq_wrap',Sem.wrap_wrap];rw[Sem.wrap_congr (bg body env) _ _ (K':=λf=>match f with
      | .next| .cont=> .pure (.again (.forLoop a b body d env))
      | .brk=> .pure (.done .next)
      | .ret v=> .pure (.done (.ret v))) (H':=(λe=>(do Gj e env;HH e:Sem Unit).wrap (λy=> .raise e) .raise id id))
    (λf=>by cases f<;>rfl)
    (λe=>by first|exact Sem.bind_eq_wrap _ _|(show(do Gj e env;HH e:Sem Unit).bind (λy=> .raise e)=_;rw[Sem.bind_eq_wrap]))]
  exact o
theorem We{p:cC}(h:jX (MM) A R Y n s₀ c (K .next) fs s):jX (MM) A R Y n s₀ (.block [] env) ((MM).den (.block [] env)) (jh K H gd lv env c p::fs) s:=by
 have:(MM).den (.block [] env)=leafOf (.ok .next):=by rfl
 rw[this];exact seg_leaf (.ok .next) h
end
structure Rl(z:aK)(M:az->aI->Prop)(c:List Nat)(s a:aT):Prop where
 base:Ext z s.heap->Ext z a.heap
 keep:∀b o,¬M b o->s.heap.get? b=W o->a.heap.get? b=W o
 gens:∀j,j∉c->a.gens[j]?=s.gens[j]?
 dr:a.drawn=s.drawn
 os:a.os=s.os
structure CX(z z1:aK)(L:List az)(c:List Nat)(s a:aT):Prop where
 base:Ext z a.heap
 keep:∀b o,(b∈L\/z1.get? b=X)->¬gz o->s.heap.get? b=W o->a.heap.get? b=W o
 gens:∀j∈c,a.gens[j]?=s.gens[j]?
noncomputable def Yg(z z1:aK)(L:List az)(b:List Nat)(M:az->aI->Prop)(N:Nat)(d:Nat->aq->aT->Prop):KV:=λe f g a h=>
 d (N-1-e) g a/\Rl z M b f a/\∀c,CX z z1 L b a c->h (.send .none) c
def mN(z:aK)(M:az->aI->Prop)(a:List Nat):Nat->aT->aT->Prop:=λd e b=>d=0/\Rl z M a e b/\∀c∈a,∃x,b.gens[c]?=W x/\x.bare=af
def Bx(b:List Nat)(g:Array dQ):Prop:=∀a x,a∉b->g[a]?=W x->x.bare=af
theorem Bx.of(b:jC g):Bx ex g:=λa a a c=>b _ (Yt c)
theorem aj9{s:aT}{g:Nat}{x y:dQ}(e:(s.setGen g x).gens[g]?=W y):y=x:=by simp only[zT,Array.getElem?_setIfInBounds_self] at e;split at e<;>simp_all
theorem Bx.run{z:aK}{M:az->aI->Prop}{c:List Nat}{g:Nat}{s d:aT}{x:dQ}(b:Bx (g::c) s.gens)(r:Rl z M c (s.setGen g .running) d):Bx (g::c) (d.setGen g x).gens:=λa k f l=>by have i:a≠g:=λh=>f (h▸gO ..);have m:a∉c:=λh=>f (fZ _ h);refine b a k f ?_;rw[<-(ry s g .running).2 a i,<-r.gens a m,<-(ry d g x).2 a i];exact l
theorem Bx.fin{z:aK}{M:az->aI->Prop}{a:List Nat}{g:Nat}{s d:aT}(b:Bx (g::a) s.gens)(r:Rl z M a (s.setGen g .running) d)(f:∀j∈a,∃x,d.gens[j]?=W x/\x.bare=af):jC (d.setGen g .finished).gens:=λk l=>by
 obtain⟨j,e⟩:=Array.getElem?_of_mem l;by_cases h:j=g
 .subst h;rw[aj9 e];rfl
 .by_cases i:j∈a
  .obtain⟨x,e1,e2⟩:=f j i;replace e:=(e1)▸((ry d g .finished).2 j h)▸e;cases e;exact e2
  .exact b.run r (x:= .finished) j k (by simp[h,i]) e
def mG(A:cT)(z z1:aK)(L:List az)(a:List Nat)(M:az->aI->Prop)(N:Nat)(c:Nat->aq->aT->Prop)(g:Nat)(i:Nat)(s:aT):Prop:=
 ∃b,s.gens[g]?=W b/\b.Goes (MM) A.in1 (λd e f h=>f= .ok (.ret .none)/\mN z M a d e h) (Yg z z1 L a M N c) (N-i) (.send .none) (s.setGen g .running)
theorem Fp(r:aU k A)(hl:s.heap.NoLimit)(t:s.heap.IsGen a g)(h:mG A z z1 L c M N o g i s)(j:i<N)
  (q:∀v b e,o i v b->Rl z M c (s.setGen g .running) b->
   (∀f,CX z z1 L c b f->e.Goes (MM) A.in1 (λn u r b=>r= .ok (.ret .none)/\mN z M c n u b) (Yg z z1 L c M N o) (N-(i+1)) (.send .none) f)->Q (W v) (b.setGen g e)):
  aF (MM) A (vA (.ref a)) Q aE s:=by
 obtain⟨F,w,x⟩:=h;refine alb (P:=mN z M c) r.h hl (by have:=r.d;show A.depth<1000;exact Pr this) t w x (λv b e y=>?_) (λb B G hk=>?_)
 .obtain⟨p,v2,C⟩:=y;have D:N-1-(N-i-1)=i:=afN j;rw[D] at p;refine q v b e p v2 λf hk=>?_;have:=C f hk;obtain⟨l,hm⟩:∃l,N-i=l+1:=⟨N-i-1,(gm 0x10ac4a221224042a5b928538c8 0x11842000401184000802500481080012042008421004c1104200046108001).2 (au rfl rfl) j⟩;simp only[hm] at this;have E:N-(i+1)=l:=sM hm;simp only[E];exact this
 .exact absurd B.1 (Nat.sub_ne_zero_iff_lt.mpr j)
theorem Fm(r:aU k A)(l:Ext z s.heap)(hl:s.heap.NoLimit)(m:s.heap.IsGen a g)(h:mG A z z1 L e M N u g N s)
  (q:∀b h',Rl z M e (s.setGen g .running) b->(∀j∈e,∃x,b.gens[j]?=W x/\x.bare=af)->Ext b.heap h'->Q X {b.setGen g .finished with heap:=h'}):
  aF (MM) A (vA (.ref a)) Q aE s:=by
 obtain⟨B,n,f⟩:=h;simp only[wC] at f;refine alb (P:=mN z M e) r.h hl (by have:=r.d;show A.depth<1000;exact Pr this) m n f (λC b D o=>?_) (λb i h' hk=>?_)
 .obtain⟨E,v2,p⟩:=o;exact False.elim (p b ⟨v2.base l,λc c c c t=>t,λc c=>rfl⟩)
 .exact q b h' i.2.1 i.2.2 hk
theorem adS(r:aU k A)(hl:H.NoLimit)(u:H.IsGen a g)(h:mG A z z1 L f M N p g i ⟨H,s,d,tk,o⟩)(w:i<N)
  (q:∀v b c e j,p i v ⟨b,c,d,e,o⟩->Rl z M f (zT ⟨H,s,d,tk,o⟩ g .running) ⟨b,c,d,e,o⟩->
   (∀t,CX z z1 L f ⟨b,c,d,e,o⟩ t->j.Goes (MM) A.in1 (λn y r l=>r= .ok (.ret .none)/\mN z M f n y l) (Yg z z1 L f M N p) (N-(i+1)) (.send .none) t)->Q (W v) (zT ⟨b,c,d,e,o⟩ g j)):
  aF (MM) A (vA (.ref a)) Q aE ⟨H,s,d,tk,o⟩:=by
 refine Fp r hl u h w λv l j x m=>?_;obtain⟨b,c,D,e,o1⟩:=l;have B:=m.dr;have C:=m.os;subst B C;exact q v b c e j x m
theorem adR(r:aU k A)(p:Ext z H)(hl:H.NoLimit)(s:H.IsGen a g)(h:mG A z z1 L m M N y g N ⟨H,n,d,tk,o⟩)
  (q:∀b c i h',Rl z M m (zT ⟨H,n,d,tk,o⟩ g .running) ⟨b,c,d,i,o⟩->(∀j∈m,∃x,c[j]?=W x/\x.bare=af)->Ext b h'->Q X ⟨h',(zT ⟨b,c,d,i,o⟩ g .finished).gens,d,i,o⟩):
  aF (MM) A (vA (.ref a)) Q aE ⟨H,n,d,tk,o⟩:=by
 refine Fm r p hl s h λt h' l f u=>?_;obtain⟨b,c,B,i,o1⟩:=t;have v:=l.dr;have w:=l.os;subst v w;exact q b c i h' l f u
theorem aU.Hk(r:aU (k+2) A):aU k (A.over (.func body env) []):=by
 have a:(A.over (.func body env) []).depth=A.depth+0+nJ (.func body env):=rfl;have b:(A.over (.func body env) []).units=A.units+0+nG (.func body env):=rfl;have c:nJ (.func body env)=1:=rfl;have e:nG (.func body env)=3:=rfl;refine⟨r.h,?_,?_⟩
 .rw[a];have:=r.d;exact(fq 0xfa05f0a9200a04210be817c220a848109010a488 0x11842008421).2 c this
 .rw[b];have:=r.u;exact(fq 0x13560fe1518890050210849ab07f0882a11888109030a488 0x11842008421).2 e this
theorem aU.Hl{K:dM->dG nX}{H:aq->dG nX}{gd:Bool->Bool}{c:List aq->List aq}(r:aU (k+3) A):
  aU k (A.over (.forLoop t v a b env) [jh K H gd c e (.func body env) p]):=by
 have f:(A.over (.forLoop t v a b env) [jh K H gd c e (.func body env) p]).depth=A.depth+(nJ (.func body env)+0)+nJ (.forLoop t v a b env):=rfl;have g:(A.over (.forLoop t v a b env) [jh K H gd c e (.func body env) p]).units=A.units+(nG (.func body env)+0)+nG (.forLoop t v a b env):=rfl;have i:nJ (.func body env)=1:=rfl;have j:nG (.func body env)=3:=rfl;have l:nJ (.forLoop t v a b env)=0:=rfl;have m:nG (.forLoop t v a b env)=0:=rfl;refine⟨r.h,?_,?_⟩
 .rw[f];have:=r.d;exact Rx i l this
 .rw[g];have:=r.u;exact Ry j m this
theorem acZ(p:aO k h (aa f env) (.type "list"))(t:aO k h (aa e env) (.ref la))(hl:h.IsList la vs)(u:vs.size<=fv)
  (w:autoParam (aa (.Call f [e] [] pos) env=(do dH pos (<-aa f env) [] (bG pos (aH [e] env)) (bZ pos (cf [] env)))) rf)
  (l:autoParam (aH [e] env=(aw,aa e env)::aH [] env) rf)(x:autoParam ((bG pos (aH [] env)).any (·.1)=aw) rf):
  Ev k h (aa (.Call f [e] [] pos) env) (λv h'=>∃D,v= .ref D/\h.get? D=X/\LO h' D vs):=by
 intro L M N g z O B m a C;rw[w];refine aB (Ev.at p m a λP R b=>(callWith_type1 (cF (Ev.at t m (a.trans b) λi E j=>?_) l) l x));refine eQ ?_;obtain⟨G,y,c,n,dd⟩:=ew hl ((a.trans b).trans j);refine call_list_seq (s:=⟨i,g,z,E,B⟩) la (.inl rfl) y c dd (λh' H hk I=>(C _ h' _ ((b.trans j).trans hk) ⟨_,rfl,?_,H,I⟩)) u;refine ft ((a.trans b).trans j) ?_;cases J:i.get? i.objs.size with
 |none=>rfl
 |some G=>exact absurd (dA J) (ui _)
theorem qj{k:Nat}{h:aK}{env:gL}{a b:Expr}{w:cC}{la:az}{vs:Array aq}{i:Nat}{j:Int}{x:aq}(y:aO k h (aa a env) (.ref la))(Y:aX k h (aa b env) j)(hl:h.IsList la vs)(z:vs[i]?=W x)(B:i<100000)(C:j=(i:Int):=by push_cast;rfl)
  (hs:∀o t,yh b aw o (.int i t)=vu [o, .int i t] (sd o (.int i t)):=by intro _ _;with_unfolding_all rfl)
  (D:∀o r,me a o r=bj ():=by intro _ _;with_unfolding_all rfl):aO k h (aa (.Subscript a b w) env) x:=by
 subst C;intro E L M g l N o r c F;refine Subscript_ (Ev.at y r c λG H f=>(Y E _ G g l H o r (c.trans f) λO m I n J=>?_));obtain⟨P,rfl⟩:=J;have p:=ew hl ((c.trans f).trans n);exact ako (s:=⟨m,g,l,I,o⟩) p.typeIs slot_list_getitem.lookup (wpAny_getItem_list p (ahW) (GJ B) (by simpa using z) (F x m _ (f.trans n) rfl)) (hs _ _) (D _)
noncomputable abbrev iJ(L:az):gL:=aY kQ L 279
noncomputable def VD:cQ:=((bodyOf kQ)[1]?).getD (.Pass ⟨0,0,0,0⟩)
noncomputable def BD:Expr:=nj VD 0
noncomputable def Hm:List cQ:=ou VD
def pM(L:az)(b:az)(o:aI):Prop:=b=L\/(o.cls= .type "range_iterator"/\∃a,o.data= .fields a)
def vv(L:az)(ys:Array aq)(i:Nat)(v:aq)(s:aT):Prop:=(∃c x d,v= .ref c/\ys[i]?=W x/\ys[i+1]?=W d/\cU s.heap c #[x,d])/\∃b,s.heap.Ns L b/\b "_context"=X/\b "left_side"=X
theorem ajv{K:dM->dG nX}{H:aq->dG nX}(r:aU (k+3) A)(hy:ys.size=N+1)(hN:N<1000)(n1:C≠L)(n2:G≠L)(n3:G≠C)(z2:z1.get? C=X)(z3:z1.get? G=X)(zL:z.get? L=X)(zr:z.get? C=X)
  (b1:∀B s,Rl z (pM L) [] B s->jX (MM) A (λn B r a5=>r= .ok (.ret .none)/\mN z (pM L) [] n B a5) (Yg z z1 [L] [] (pM L) N (vv L ys)) 0 B (.func body (iJ L)) (K .next) [] s):
  ∀(j i:Nat) (B s:aT) (m:aA->Option aq),N-i=j->i<=N->iw s.heap C (0+(i:Nat)*1) ((N:Int)-(i:Nat)) 1->s.heap.Ns L m->m "elements"=W (.ref G)->m "_context"=X->m "left_side"=X->LO s.heap G ys->Rl z (pM L) [] B s->
   jX (MM) A (λn B r a5=>r= .ok (.ret .none)/\mN z (pM L) [] n B a5) (Yg z z1 [L] [] (pM L) N (vv L ys)) (N-i) B (.forLoop BD (.ref C) Hm [] (iJ L)) ((MM).den (.forLoop BD (.ref C) Hm [] (iJ L))) (jh K H id id (iJ L) (.func body (iJ L)) p::[]) s:=by
 have rr:aU k (A.over (.forLoop BD (.ref C) Hm [] (iJ L)) [jh K H id id (iJ L) (.func body (iJ L)) p]):=r.Hl;intro j;induction j with
 |zero=>
  intro i B s m O hi Q hn he V a6 hl hr;have b2:i=N:=Bn O hi;cases b2;obtain⟨Y,g,d,R,Z⟩:=s;refine BN (Xf (s:=⟨Y,g,d,R,Z⟩) rr.h Q (GV) λb3 a8=>?_);simp only[wC];refine We (b1 _ _ ⟨λS=>?_,λu e D f=>?_,hr.gens,hr.dr,hr.os⟩)
  .exact λu e f=>a8 u e (eg f zr) (hr.base S u e f)
  .have I:=hr.keep u e D f;exact a8 u e (by rintro rfl;have I:=I;replace I:=(Q)▸I;cases I;exact D (.inr ⟨rfl,_,rfl⟩)) I
 |succ j ih=>
  intro i B s m O hi Q hn he V a6 hl hr;obtain⟨Y,g,d,R,Z⟩:=s;refine BN (Xg (s:=⟨Y,g,d,R,Z⟩) Q (agb O) λb3 b4 s1=>(oV (rfl:sk BD (.ref C) _=bj ()) ?_));refine qZ (fw (env:=iJ L) rfl (hn.sameBut s1 n1.symm) (λc0 E s2=>?_) rfl);obtain⟨q,J⟩:∃q,N-i=q+1:=⟨N-i-1,agc O⟩;simp only[J];refine ky ?_;have l2:=(hl.but s1 n3).but s2 n2;have a0:∃x,ys[i]?=W x:=⟨ys[i],by simp[hy]⟩;have a3:∃x,ys[i+1]?=W x:=⟨ys[i+1],by simp[hy]⟩;obtain⟨x0,a0⟩:=a0;obtain⟨x1,a3⟩:=a3;have ei:(0:Int)+(i:Int)*1=(i:Int):=Qh;replace E:=(ei)▸E;have a9:(λf=>if f="index" then W (wN (i:Int) R) else m f) "elements"=W (.ref G):=he;refine Hz rfl rfl rfl ?_ rfl rfl;refine bJ (hY (k:=k) (qm (P:=λvs=>vs=[x0,x1]) ((eM (qj (ah E (v:= .ref G) a9) (.of (ah E)) l2.list a0 (agd hN J)) (kb (qj (ah E (v:= .ref G) a9) (rU (.of (ah E)) (ct)) l2.list a3 (age hN J)))).imp λvs=>by rintro⟨v,rest,rfl,rfl,rfl⟩;rfl) (λvs b5=>by subst b5;simp only[eO];simp)) rr Ext.rfl λv a7 b6 M hv=>?_) (λF F z=>z) λF F z=>z.elim;obtain⟨a,vs,rfl,rfl,ta⟩:=hv;intro c1 b7;have E3:∀u e,¬pM L u e->Y.get? u=W e->a7.get? u=W e:=λu e D f=>by refine M u e (s2.extBut u e (λT=>D (.inl T)) (s1.extBut u e ?_ f));rintro rfl;replace f:=(Q)▸f;cases f;exact D (.inr ⟨rfl,_,rfl⟩)
  have R3:Rl z (pM L) [] B ⟨a7,g,d,b6,Z⟩:=⟨λS u e f=>M u e (s2.extBut u e (eg f zL) (s1.extBut u e (eg f zr) (hr.base S u e f))),λu e D f=>E3 u e D (hr.keep u e D f),hr.gens,hr.dr,hr.os⟩;have e1:N-1-q=i:=agf J;refine⟨⟨⟨a,x0,x1,rfl,by rw[e1];exact a0,by rw[e1];exact a3,ta⟩,_,E.keeps M,V,a6⟩,R3,λa4 hk=>b7 .none a4 ?_⟩;refine BM rfl ?_;have e4:q=N-(i+1):=agg J;simp only[e4];have b8:iw a7 C (0+((i+1:Nat):Int)*1) ((N:Int)-((i+1:Nat):Int)) 1:=by
   have e5:(0:Int)+((i+1:Nat):Int)*1=0+(i:Int)*1+1:=by push_cast;exact Qi
   have e6:(N:Int)-((i+1:Nat):Int)=(N:Int)-(i:Int)-1:=by push_cast;exact GW
   simp only[e6];exact M _ _ (s2.extBut _ _ n1 b4)
  obtain⟨nn,l3⟩:=l2.keeps M;have b0:=E.keeps M;have b9:a4.heap.Ns L (λf=>if f="index" then W (wN (i:Int) R) else m f):=by have nd:=b0;obtain⟨e,es,ep,y1,y2,y3,y4⟩:=b0;exact⟨e,es,ep,hk.keep _ _ (.inl (.head _)) (jg nd (V) y1) y1,y2,y3,y4⟩
  refine ih (i+1) a4 a4 _ (sM O) (agh J) (hk.keep _ _ (.inr z2) ?_ b8) b9 (he) (V) (a6) ⟨nn,hk.keep _ _ (.inr z3) ?_ l3⟩ ⟨λS=>S,λF F F f=>f,λF F=>rfl,rfl,rfl⟩
  .rintro⟨t,c,l,r,s,T⟩;have:=congrArg pQ T;injection this with this;exact absurd this (by decide)
  .rintro⟨t,c,l,r,s,T⟩;have:=congrArg pQ T;injection this with this;exact absurd this (by decide)
theorem Rl.refl:Rl z M c s s:=⟨λx=>x,λa a a b=>b,λa a=>rfl,rfl,rfl⟩
theorem aju(r:aU (k+5) A)(T:Bs z)(w:Ext z s.heap)(V:z.get? L=X)(M:s.heap.Ns L m)(hm:m "iterable"=W (.ref D))(hx:m "_context"=X)(a4:m "left_side"=X)(hl:s.heap.IsList D ys)(C:ys.size=N+1)(F:N<1000):
  (JE (.func (bodyOf kQ) (iJ L))).Goes (MM) A (λn Y r a5=>r= .ok (.ret .none)/\mN z (pM L) [] n Y a5) (Yg z s.heap [L] [] (pM L) N (vv L ys)) N (.send .none) s:=by
 refine⟨rfl,Wi ?_⟩;have Z:aU (k+3) (A.over (.func (bodyOf kQ) (iJ L)) []):=aU.Hk r;obtain⟨q,g,d,tk,o⟩:=s;have a0:∃a,q.get? L=W a:=let⟨a,_,_,f,_⟩:=M;⟨a,f⟩;refine ky (sY (bJ (E:=aE) (oU (hY (k:=k+3) (acZ (eY (T.keeps w) (by nofun) (by boot_by_name) (by decide)) (ah M hm) hl (eO▸(dz 0x10000002fc2807d02f85224042912088 0x11042008821).2 C F)) Z Ext.rfl λv a6 b0 G O=>?_) rfl) (λx x z=>z) λx x z=>z.elim));obtain⟨P,rfl,B,lE⟩:=O;have EL:P≠L:=by rintro rfl;obtain⟨a,f⟩:=a0;have B:=B;rw[f] at B;cases B
 refine fw (s:=⟨a6,g,d,_,o⟩) (env:=iJ L) rfl (M.keeps G) (λb1 Q H=>?_) rfl;have R:=lE.but H EL;have w:=w;have a3:=iC (w.trans G) H V;have B2:=T.keeps a3;refine ky ?_;refine Wh (hY (k:=k+3) (EO (n:=N) (eY B2 (by nofun) (by boot_by_name) (by decide)) ?_) Z Ext.rfl λv i a7 l O=>?_) (by intro _;rfl)
 .exact(show(N:Int)=(ys.size:Int)-1 by exact kD (Int.sub_eq_iff_eq_add.mpr (congrArg Dq C)))▸gf (qi (v:= .ref P) (eY B2 (by nofun) (by boot_by_name) (by decide)) (ah Q) λh' e=>rQ (R.keeps e).list (by exact(dz 0x40000000000000006fc2817d02f85224042912088 0x11042008821).2 C F)) (ct)
 .obtain⟨ra,t,u,v',rfl,hr⟩:=O;refine HU (s:=⟨i,g,d,a7,o⟩) hr (kv (eT F (by decide))) ?_;intro p;have I:Ext i (i.push {cls:= .type "range_iterator",data:= .fields #[fu 0,fu (rq 0 (N:Int) 1),fu 1]}):=λh a f=>eP _ f;have a8:iw (i.push {cls:= .type "range_iterator",data:= .fields #[fu 0,fu (rq 0 (N:Int) 1),fu 1]}) i.objs.size (0+((0:Nat):Int)*1) ((N:Int)-((0:Nat):Int)) 1:=by rw[BL];simpa using jT _ rfl
  have a9:∀h a,q.get? h=W a->∃J,i.get? h=W J:=λh a f=>by
   by_cases c:h=L
   .cases c;obtain⟨J,_,_,S,_⟩:=Q;exact⟨J,l _ _ S⟩
   .exact⟨a,l _ _ ((H.2 h c).trans (G _ _ f))⟩
  have nr:∀h a,q.get? h=W a->h≠i.objs.size:=λh a f=>by obtain⟨J,S⟩:=a9 h a f;exact cJ (dA S)
  have rn:q.get? i.objs.size=X:=by
   cases hc:q.get? i.objs.size with
   |none=>rfl
   |some a=>exact absurd rfl (nr _ _ hc)
  obtain⟨b2,yL⟩:=a0;have rE:P≠i.objs.size:=by obtain⟨nn,f⟩:=R;exact cJ (dA (l _ _ f))
  have zr:=ft w rn;refine ajv (z1:=q) (k:=k+2) r C F (nr _ _ yL).symm EL rE rn B V zr (λY s hr=>Wf (.ok (.ret .none)) ⟨rfl,rfl,hr,λj hj=>by cases hj⟩) N 0 _ _ _ (aaB _) (dN _) a8 ((Q.keeps l).keeps I) rfl (hx) (a4) ((R.keeps l).keeps I) (⟨λx=>(a3.trans l).trans I,λh a hb f=>I _ _ (l _ _ ((H.2 h (λee=>hb (.inl ee))).trans (G _ _ f))),λx x=>rfl,rfl,rfl⟩)
theorem Fl
  (B:Bs h)(p:Fn (kf pS) s fd)(j:fd.body= .stmts body)(C:∀h' g d t o,(kf pS).In h'->vU ⟨h',g,d,t,o⟩ fd D binds)
  (E:(fd.scope.names.all λx=>x.2 != .cell)=af)(G:(binds.all λx=>decide (fd.scope.names.lookup x.1=W .local))=af)
  (H:fd.scope.isCoroutine=aw)(I:fd.scope.isGenerator=af)(hk:fd.scope.kind= .function)(r:aU (k+1) A)
  (q:∀L a h' J,Ext h h'->h.get? L=X->h.get? a=X->a≠L->h'.Ns L (λx=>binds.reverse.lookup x)->h'.IsGen a g.size->R (.ok (.ret (.ref a))) ⟨h',g.push (.fresh (.func body (aY fd L s))),d,J,o⟩):
  lT (MM) A (.call (.ref s) D) R ⟨h,g,d,tk,o⟩:=by
 obtain⟨M,dd,sl,lk⟩:=p.obj;refine codeAny_call_generator (o:=⟨M,dd, .func fd,sl⟩) (fd:=fd) (body:=body) (by have:=r.d;show A.depth<1000;exact Bj this) (B.k _ _ lk) rfl H I j (Ak B.k p.code) (C _ _ _ _ _ B.k _ _ _ _ ?_);refine ak9 (λx m=>by have:=nP.mp E x m;simpa using this) (λx m=>of_decide_eq_true (nP.mp G x m)) (λn u N=>?_) hk;have v:Ext h n:=λf w i=>N.extBut f w (cJ (dA i)) (eP _ i);have nn:∀f,h.objs.size<=f->h.get? f=X:=λf j=>jq j;refine⟨B.l.keeps v,?_⟩;have z:h.objs.size<n.objs.size:=by obtain⟨_,_,_,i,_⟩:=u;exact dA i
 refine q h.objs.size n.objs.size _ _ (v.trans λf w i=>?_) (nn _ (bT _)) (nn _ (iy z)) (rG z) (u.push _) ?_
 .exact eP _ i
 .exact⟨_,_,_,jT _ rfl,rfl,rfl,rfl⟩
def GK(o:aI):Prop:=((∃b,o.cls= .ref b)/\(∀c d,o.data≠ .dict c d)/\∀e,o.data≠ .cell e)\/gz o\/gV o
structure Px(z h h':aK):Prop where
 keep:∀b o,GK o->h.get? b=W o->h'.get? b=W o
 base:Ext z h->Ext z h'
theorem Px.trans(a:Px z h h')(b:Px z h' d):Px z h d:=⟨λx c g f=>b.keep x c g (a.keep x c g f),λi=>b.base (a.base i)⟩
theorem Ext.px(e:Ext h h'):Px z h h':=⟨λa c f d=>e a c d,λx=>x.trans e⟩
theorem Px.but(s:vX a h h')(n:∀o,h.get? a=W o->¬GK o)(f:z.get? a=X):Px z h h':=
 ⟨λd o g c=>s d o (by rintro rfl;exact n o c g) c,λi d o c=>s d o (eg c f) (i d o c)⟩
theorem se(c:o.cls= .type T)(n:T≠"dict"):¬GK o:=by
 rintro(⟨⟨b,h⟩,_⟩|⟨t,x,l,r,s,e⟩|⟨t,x,l,r,s,e⟩)
 .rw[c] at h;cases h
 .rw[e] at c;injection c with c;exact n c.symm
 .rw[e] at c;injection c with c;exact n c.symm
theorem HF{h:aK}{m:aA->Option aq}{L:az}{o:aI}(N:h.Ns L m)(e:m "left_side"=X)(d:h.get? L=W o):¬gV o:=by
 rintro⟨a,c,l,r,s,rfl⟩;obtain⟨i,j,k,h1,h2,n,f⟩:=N;rw[d] at h1;cases h1;have b:=f "left_side";simp only[e] at b;cases h2;have:nsFind (#[⟨dX pS "context", .str "context" a.1,c⟩,⟨dX pS "left_side", .str "left_side" a.2.1,l⟩,
  ⟨dX pS "right_side", .str "right_side" a.2.2.1,r⟩,⟨dX pS "_triangular_holes_vertices", .str "_triangular_holes_vertices" a.2.2.2,s⟩]:Array CL) "left_side"=W l:=by rfl
 have g:=this.symm.trans b;cases g
theorem qp{h:aK}{m:aA->Option aq}{L:az}(N:h.Ns L m)(b:m "_context"=X)(c:m "left_side"=X):∀o,h.get? L=W o->¬GK o:=by
 intro o a;rintro(⟨_,hd,_⟩|d|e)
 .obtain⟨f,g,i,h1,h2,_⟩:=N;rw[a] at h1;cases h1;exact hd _ _ h2
 .exact jg N b a d
 .exact HF N c a e
theorem Om:GK (dy C d):= .inl ⟨⟨C,rfl⟩,λb b a=>(by cases a),λb a=>(by cases a)⟩
theorem ajg{x y:aq}{n:Nat×Option az}:GK ⟨.ref 132,n.2, .seq #[x,y] n.1,#[]⟩:= .inl ⟨⟨132,rfl⟩,λb b a=>(by cases a),λb a=>(by cases a)⟩
theorem NU(c:o.data= .cell v):¬GK o:=by
 rintro(⟨_,_,h⟩|⟨t,x,l,r,s,rfl⟩|⟨t,x,l,r,s,rfl⟩)
 .exact h _ c
 .cases c
 .cases c
theorem bN.px(i:bN h a x y)(p:Px z h h'):bN h' a x y:=
 {i with ex:=let⟨b,v,n,y⟩:=i.ex;⟨b,v,n,p.keep _ _ ajg y⟩}
theorem Gx.px(G:Gx z h Y q)(f:Ctx z Y.ctx)(p:Px z h h')(g:Ext z h):Gx z h' Y q:=
 ⟨⟨{G.R.toRep with ob:=λd e=>p.keep _ _ Om (G.R.ob d e),di:=λd e=>p.keep _ _ (.inr (.inl xK)) (G.R.di d e)},G.R.fl⟩,
  ⟨λd e j=>by obtain⟨k,b,c⟩:=G.T.pt d e j;exact⟨k,b,c.px p⟩⟩,
  f.keeps (p.base g),G.pa⟩
theorem cX.px(x:cX h a d c l r)(p:Px z h h'):cX h' a d c l r:=
 ⟨p.keep _ _ Om x.ob,let⟨b,s,y⟩:=x.di;⟨b,s,p.keep _ _ (.inr (.inr ⟨b,c,l,r,s,rfl⟩)) y⟩⟩
theorem Rl.px(x:Rl z M e s c)(n:∀b o,M b o->s.heap.get? b=W o->¬GK o):Px z s.heap c.heap:=
 ⟨λb o g a=>x.keep b o (λd=>n b o d a g) a,x.base⟩
noncomputable def Et:Expr:=jv qh 0
noncomputable def xb:nY:=(xm qh).2.1
noncomputable def Mw:dG (List (aA×az))->List (aA×az)| .pure a=>a|_=>[]
noncomputable def MH(L:az):List (aA×az):=Mw (uy xb (dB L))
theorem acv(L:az):uy xb (dB L)=bj (MH L):=by rfl
noncomputable abbrev DY(L C:az):gL:=hX xb (MH L) C (dB L)
noncomputable def chunk(q:Qd):List (az×Pt)->Qd×Nat×Nat
 |[d,e]=>(q.grow d.2 e.2,q.n,q.n+2)
 |[d,e,f]=>jk q d.2 e.2 f.2
 |_=>(q,0,0)
section
variable {k:Nat} {z h h':Heap} {m cm:Str->Option Value} {L C:Addr} {Y:Lay} {q:Qd}
theorem aed{la:Addr}{V:List (Addr×Pt)}(B:Bz z h)(G:Gx z h Y q)(hl:h.IsList la (refs V))(n:iU h V)(t:V.length=2\/V.length=3):
  eJ 15 h (.call (.ref 482) ⟨[.ref 488, .ref la, .ref Y.ctx],[]⟩) (Made z h Y q (chunk q V).1 (chunk q V).2.1 (chunk q V).2.2):=by
 match V,t with
 |[j,l],_=>refine Oi (f:=549) B hl (by simp) rfl λh' i=>?_;have:=akG (la:=la) (pa:=j.1) (pb:=l.1) (a:=j.2) (b:=l.2) (B.keeps i) (G.keeps i) (ew hl i) ((n j (by simp)).keeps i) ((n l (by simp)).keeps i);exactλv w g x y D E q=>this v w g x y D (E.le (by exact by decide)) q
 |[j,l,s],_=>exact Oi (f:=556) B hl (by simp) rfl λh' i=>akJ (la:=la) (pa:=j.1) (pb:=l.1) (pc:=s.1) (a:=j.2) (b:=l.2) (c:=s.2) (B.keeps i) (G.keeps i) (ew hl i) ((n j (by simp)).keeps i) ((n l (by simp)).keeps i) ((n s (by simp)).keeps i)
 |[],p=>exact absurd p (by simp)
 |[_],p=>exact absurd p (by simp)
 |_::_::_::_::_,p=>exact absurd p (by simp)
theorem ac8{env:gL}{i s t:Expr}{p G:cC}{l:Addr}{items:Array Value}{a b:Nat}(H:aO k h (aa i env) (.ref l))(I:aX k h (aa s env) a)(J:aX k h (aa t env) b)(hl:h.IsList l items)(M:a<=b)(N:b<=items.size)(O:items.size<=fv)
  (P:∀o r,me i o r=bj ():=by intro _ _;rfl):Ev k h (aa (.Subscript i (.Slice (W s) (W t) X p) G) env) (λv h'=>∃c,v= .ref c/\LO h' c ((items.toList.drop a).take (b-a)).toArray):=by
 intro w Q a0 g B tk o r f q;refine WZ (Ev.at H r f λR S j=>?_) P;simp only[xl,xl];refine I w _ R g B S o r (f.trans j) λv T V D n=>?_;obtain⟨Z,rfl⟩:=n;refine J w _ T g B V o r ((f.trans j).trans D) λv E a3 e5 n=>?_;obtain⟨u',rfl⟩:=n;have F:=(j.trans D).trans e5;refine⟨l,items,W a,W b,rfl,ew hl (f.trans F),O,zw _ _,zw _ _,?_⟩;have s1:(E.push {cls:= .type "slice",data:= .fields #[.int (a:Int) Z, .int (b:Int) u', .none]}).objs.size=E.objs.size+1:=Heap.size_push ..;refine q _ _ _ (F.trans λx ob y=>Heap.get?_push_of_some _ (Heap.get?_push_of_some _ y)) ⟨_,rfl,0,?_⟩;exact(slicePick_run items a b N M)▸(s1)▸(Heap.get?_push_size _ rfl)
theorem callWith_meth{A:cT}{Q:Value->aT->Prop}{s:aT}{env:gL}{a:cC}{b f:Addr}{self:Value}{e:Expr}{rest:List Expr}(hk:fnIn (kf pS) f=af)
  (H:aF (MM) A (yf (bG a (aH (e::rest) env))) (λvs c=>rB (kf pS) b f self c.heap/\aF (MM) A (eU (.ref b) vs) Q aE c) aE s)
  (d:autoParam (aH (e::rest) env=(aw,aa e env)::aH rest env) rf)(g:autoParam ((bG a (aH rest env)).any (·.1)=aw) rf):
  aF (MM) A (dH a (.ref b) [] (bG a (aH (e::rest) env)) (bZ a (cf [] env))) Q aE s:=by
 rw[d] at H⊢;exact Ad (P:=rB (kf pS) b f self) (by show((aw||(bG a (aH rest env)).any (·.1))||false)=aw;rw[g];rfl) (xA hk) (CK H)
theorem ajA(S:List (Addr×Pt))(a n:Nat):((refs S).toList.drop a|>.take n).toArray=refs ((S.drop a).take n):=by simp[refs,List.map_drop,List.map_take]
theorem akA{Sl:Addr}{S:List (Addr×Pt)}{a b:Nat}{u u':jF}(B:Bz z h)(G:Gx z h Y q)(c1:h.IsCell (L+1) (W (.ref 488)))(c2:h.IsCell (L+2) (W (.ref Sl)))(O:h.IsCell (L+3) (W (.ref Y.ctx)))
  (hl:h.IsList Sl (refs S))(P:iU h S)(t:h.Ns C m)(hs:m "start"=W (.int a u))(R:m "stop"=W (.int b u'))(T:a<=b)(w:b<=S.length)(V:b-a=2\/b-a=3)(Z:S.length<1000):
  dY 17 h (aa Et (DY L C)) (Made z h Y q (chunk q ((S.drop a).take (b-a))).1 (chunk q ((S.drop a).take (b-a))).2.1 (chunk q ((S.drop a).take (b-a))).2.2):=by
 intro A Q g y tk D i qq;refine kT (Ev.at (k:=17) (kO (n:="cls") c1) i Ext.rfl λa6 a7 E=>(aci (B.keeps E).bs λam a8 a9 e4 F=>?_)) rfl;have c:=E.trans e4;have H:(refs S).size=S.length:=by simp
 refine callWith_meth (f:=482) (self:= .ref 488) (by nofun) ?_;refine cF (hY (k:=17) (ac8 (kO (n:="points") (c2.keeps c)) (.of (ah (t.keeps c) hs)) (.of (ah (t.keeps c) R)) (ew hl c) T (by simp only[H];exact w) (by simp only[H,eO];exact(kl 0x20000005f8500fa05f0a048 0x8421).2 Z)) i Ext.rfl λI b0 b1 l p=>?_);obtain⟨la,rfl,J⟩:=p;rw[ajA] at J;have M:=c.trans l;refine cF (Ev.at (k:=17) (kO (n:="context") (O.keeps M)) i Ext.rfl λa0 N j=>?_);have e:=M.trans j;refine eQ ⟨⟨(l.trans j) _ _ F,(B.keeps e).bs.k⟩,(dq (xI (s:=⟨a0,g,y,N,D⟩) ((l.trans j) _ _ F) ?_))⟩;have a3:((S.drop a).take (b-a)).length=b-a:=by simp;exact ah0 w
 refine aed (B.keeps e) (G.keeps e) (J.keeps j).list (λx hx=>(P x (Dh (Di hx))).keeps e) (by rw[a3];exact V) _ _ g y N D (i.le (by decide)) λI a4 a5 p=>?_;exact qq I a4 a5 (Gg e p)
end
theorem MF(b:Nat->aT->Prop)
  (l:∀n s,b n s->aF (MM) A (vA d) (λr c=>match r with
   |none=>R (.ok .next) c
   |some v=>aF (MM) A (sk e d v) (λy f=>aF (MM) A (jH e env v) (λy g=>aF (MM) A (aa o env) (λx i=>
    aF (MM) A (eU (.builtin "list.append") [p,x]) (λy j=>∃m<n,b m j) aE i) aE g) aE f) aE c) aE s)
  (n:Nat)(h:b n s):
  lT (MM) A (.compLoop (.ListComp o [⟨e,D,[],0⟩] E pos) 0 d p env) R s:=by
 refine codeAny_loop rfl b (λn s q=>(wpAny_noted ?_)) n h;simp only[compTurn_list1];refine aB (gG (aB (bJ (l n s q) (λr c k=>?_) λy y a=>a.elim)));cases r with
 |none=>exact aV k
 |some v=>
  refine aB (bJ k (λy f t=>?_) λy y u=>u.elim);exact aB (bJ t (λy g w=>aB (aB (bJ w (λx i B=>aB (bJ B
   (λy j C=>aV (aV ⟨rfl,C⟩)) λy y a=>a.elim)) λy y a=>a.elim))) λy y a=>a.elim)
theorem adY(c:s.heap.IsGen a g)(q:Q () s):
  aF (MM) A (sk (.Tuple e f pos) (.ref a) (.ref b)) Q E s:=by
 obtain⟨h,nm,i,ho,d,hd,hs⟩:=c;unfold sk;exact aB (wpAny_load ho ((d)▸(hd)▸(aV q)))
theorem abA(N:h.Ns env.locals m)(i:cU h t #[v1,v2])(j:A.handled=X)
  (q:∀b a k,Ext h b->dE env.locals b a->a.Ns env.locals (λs=>if s=y then W v2 else if s=x then W v1 else m s)->Q () ⟨a,g,d,k,o⟩)
  (l:autoParam (env.kindOf x=W .local) rf)(n:autoParam (env.kindOf y=W .local) rf)
  (c:autoParam ((env.scope.kind== .class||(env.scope.kind== .module&&env.locals !=env.globals))=aw) rf)
  (r:autoParam ((pX [.Name x p1, .Name y p2] env).map (·.2)=[λv=>jH (.Name x p1) env v,λv=>jH (.Name y p2) env v]) rf)
  (u:autoParam ((pX [.Name x p1, .Name y p2] env).findIdx? (·.1)=X) rf)(E:autoParam ((pX [.Name x p1, .Name y p2] env).length=2) rf)
  (e:∀(s:aA) (p:cC) (v:aq),jH (.Name s p) env v=(do fB p;bindName env s v):=by intro s p v;rfl):
  aF (MM) A (jH (.Tuple [.Name x p1, .Name y p2] F G) env (.ref t)) Q aE ⟨h,g,d,tk,o⟩:=by
 rw[assign_Tuple];refine aB (gG ?_);unfold unpack;refine(u)▸(r)▸(aB (eH (Ce j i rfl λa f=>?_)));refine gP ?_;rw[e];refine aB (gG (mP (fw l (N.keeps f) (λH w z=>(gP ?_)) c)));simp only[e];exact aB (gG (mP (fw n w (λB C D=>(rN (q a B _ f (vC z D) C))) c)))
noncomputable def fz(S:List (az×Pt))(ns:List Int)(i:Nat):List (az×Pt):=(S.drop (cq ns i).toNat).take ((cq ns (i+1)).toNat-(cq ns i).toNat)
noncomputable def fV(q0:Qd)(S:List (az×Pt))(ns:List Int):Nat->Qd
 |0=>q0
 |a+1=>(chunk (fV q0 S ns a) (fz S ns a)).1
noncomputable def sat(q0:Qd)(S:List (az×Pt))(ns:List Int)(i:Nat):Nat×Nat:=(chunk (fV q0 S ns i) (fz S ns i)).2
theorem Ee(i:V.length=2\/V.length=3):q.n<=(chunk q V).1.n/\(chunk q V).2.1<(chunk q V).1.n/\(chunk q V).2.2<(chunk q V).1.n:=by
 match V,i with
 |[d,e],_=>exact(kl 0x10281082810881409023102812006 0x401).2
 |[d,e,f],_=>
  show q.n<=(jk q d.2 e.2 f.2).1.n/\(jk q d.2 e.2 f.2).2.1<(jk q d.2 e.2 f.2).1.n/\(jk q d.2 e.2 f.2).2.2<(jk q d.2 e.2 f.2).1.n;unfold jk;have j:(q.path d.2 e.2 f.2).n=q.n+8:=rfl;have h:(q.cZ d.2 e.2 f.2).n=q.n+12:=rfl;split
  .dsimp only;exact(dz 0x93050212502325003302812488 0x2208400088210800110421).2 h
  .split
   .dsimp only;exact(dz 0x4a0281092a0a042325003302812488 0x2208400088210800110421).2 h
   .dsimp only;exact(dz 0x93050212502325003202812488 0x2208400088210800110421).2 j
 |[],g=>exact absurd g (by simp)
 |[_],g=>exact absurd g (by simp)
 |_::_::_::_::_,g=>exact absurd g (by simp)
structure Pj(z H:aK)(a:az)(q0:Qd)(S:List (az×Pt))(ns:List Int)(i:Nat)(Y:Lay)(ts:List (az×az)):Prop where
 len:ts.length=i
 jJ:Y.ctx=a
 G:Gx z H Y (fV q0 S ns i)
 cZ:∀j t,ts[j]?=W t->cX H t.1 t.2 (.ref a) (.ref (Y.ad (sat q0 S ns j).1)) (.ref (Y.ad (sat q0 S ns j).2))/\z.get? t.2=X
 nd:(ts.map (·.2)).Nodup
theorem Pj.px(x:Pj z H a q0 S ns i Y ts)(f:Ctx z a)(p:Px z H g)(h:Ext z H):Pj z g a q0 S ns i Y ts:=
 ⟨x.len,x.jJ,x.G.px (x.jJ▸f) p h,λb c d=>⟨(x.cZ b c d).1.px p,(x.cZ b c d).2⟩,x.nd⟩
theorem VO(b:∀j<i,(fz S ns j).length=2\/(fz S ns j).length=3):∀j<i,(sat q0 S ns j).1<(fV q0 S ns i).n/\(sat q0 S ns j).2<(fV q0 S ns i).n:=by
 induction i with
 |zero=>intro j a;exact(gm 0x4a849408c00ac48 0x100540).2 a
 |succ i f=>
  intro j a;have c:(fV q0 S ns (i+1)).n=(chunk (fV q0 S ns i) (fz S ns i)).1.n:=rfl;by_cases d:j=i
  .cases d;exact⟨c▸(Ee (q:=fV q0 S ns i) (b i (GD))).2.1,c▸(Ee (q:=fV q0 S ns i) (b i (GD))).2.2⟩
  .have:=f (λj a=>b j (GB a)) j (o9 a d);exact(afk 0x25424a0465a84b408c8624886384c688cc580c8 0x40138028084010842000401380280840110421).2 (Ee (q:=fV q0 S ns i) (b i (GD))) c this
theorem Pj.step(x:Pj z H p q0 S ns i Y ts)(m:∀j,j<i+1->(fz S ns j).length=2\/(fz S ns j).length=3)
  (M:Made z H Y (fV q0 S ns i) (chunk (fV q0 S ns i) (fz S ns i)).1 (chunk (fV q0 S ns i) (fz S ns i)).2.1 (chunk (fV q0 S ns i) (fz S ns i)).2.2 v n):
  ∃g t d,v= .ref t/\Mx z H n/\Pj z n p q0 S ns (i+1) g (ts++[(t,d)]):=by
 obtain⟨g,t,d,h,rfl,mx,G,T,zd,ne⟩:=M;refine⟨g,t,d,rfl,mx,⟨by simp only[gW,x.len];rfl,by rw[h.ctx];exact x.jJ,G,λj k f=>?_,?_⟩⟩
 .by_cases c:j<ts.length
  .rw[Ka c] at f;obtain⟨l,a2⟩:=x.cZ j k f;refine⟨?_,a2⟩;simp only[h.ad _ (VO (q0:=q0) (λj c=>m j (GB c)) j (x.len▸c)).1,h.ad _ (VO (q0:=q0) (λj c=>m j (GB c)) j (x.len▸c)).2];exact l.mx mx
  .have q:j=ts.length:=by have:=(Dc.mp f).1;simp only[gW,ue] at this;exact QM c this
   subst q;rw[Kb (bT _),wC] at f;simp only[List.getElem?_cons_zero,alG] at f;subst f;rw[x.len];refine⟨?_,zd⟩;simp only[x.jJ] at T;exact T
 .rw[kG,zF];refine⟨x.nd,by simp,λA r B o=>?_⟩;rw[nT,ZP,gb] at o;subst o;obtain⟨k,u,rfl⟩:=dc.mp r;obtain⟨j,c,f⟩:=uf.mp u;obtain⟨l,a2⟩:=x.cZ j k (f▸nR c);obtain⟨w,s,y⟩:=l.di;exact ne _ _ (yk ⟨w,_,_,_,s,rfl⟩) y
noncomputable def MJ:Expr:=jv qh 1
noncomputable def MI:cC:=(xm qh).2.2
theorem acw:qh= .ListComp Et [⟨MJ,Eu,[],0⟩] xb MI:=by rfl
structure Tn(z z1:aK)(L Lp C D a Sl d:az)(e:Nat)(m f:aA->Option aq)(q0:Qd)(S:List (az×Pt))(ns:List Int)(i:Nat)(H:aK):Prop where
 cv:Cv z (dB L) m f H
 gen:H.IsGen a e
 nc:∃b,H.Ns C b/\b "_context"=X/\b "left_side"=X
 np:∃c,H.Ns Lp c/\c "_context"=X/\c "left_side"=X
 sl:LO H Sl (refs S)
 pt:iU H S
 pj:∃Y ts,LO H D ((ts.map λt:az×az=>cM t.1).toArray)/\Pj z H d q0 S ns i Y ts
structure Th(z z1:aK)(L Lp C D a Sl c:az)(b:aA->Option aq)(q0:Qd)(S:List (az×Pt))(ns:List Int)(ys:Array aq)(N:Nat):Prop where
 zc:Ctx z c
 c1:b "cls"=W (.ref 488)
 c2:b "points"=W (.ref Sl)
 c3:b "context"=W (.ref c)
 zC:z.get? C=X
 zD:z.get? D=X
 zP:z.get? Lp=X
 nC:z1.get? C≠X
 nD:z1.get? D≠X
 CD:C≠D
 CP:C≠Lp
 DP:D≠Lp
 aC:a≠C
 aD:a≠D
 aP:a≠Lp
 sC:Sl≠C
 sD:Sl≠D
 sP:Sl≠Lp
 uQ:∀x,(x=L\/∃n,(n,x)∈(dB L).cells)->x≠C/\x≠D/\x≠Lp
 hy:∀i v,ys[i]?=W v->∃u,v=wN (cq ns i) u
 ho:∀i<N,0<=cq ns i/\cq ns i<=cq ns (i+1)/\cq ns (i+1)<=S.length/\(cq ns (i+1)-cq ns i=2\/cq ns (i+1)-cq ns i=3)
 sz:S.length<1000
 vE:N<1000
theorem Tn.VG(t:Tn z z1 L Lp C D a Sl g h m c q0 S ns i H)(j:Th z z1 L Lp C D a Sl g c q0 S ns ys N)(p:Px z H b)(k:Cv z (dB L) m c b)(n:b.IsGen a h)
  (o:∃d,b.Ns C d/\d "_context"=X/\d "left_side"=X)(q:∃f,b.Ns Lp f/\f "_context"=X/\f "left_side"=X)(r:LO b Sl (refs S))
  (s:∀vs,LO H D vs->LO b D vs):Tn z z1 L Lp C D a Sl g h m c q0 S ns i b:=by
 obtain⟨u,v,l,P⟩:=t.pj;exact⟨k,n,o,q,r,λx w=>((t.pt x w).px p),u,v,s _ l,P.px j.zc p t.cv.bz.e⟩
theorem Cv.gen(C:Cv z env m d H)(e:∀b o,(b=env.locals\/∃n,(n,b)∈env.cells)->(∀vs,o.data≠ .fields vs)->H.get? b=W o->a.get? b=W o)(f:Ext z a):Cv z env m d a:=by
 refine⟨⟨C.bz.b,f⟩,?_,C.nk,λn g x=>?_,C.apart,C.above,C.zL⟩
 .obtain⟨o,i,j,h1,h2,k,l⟩:=C.ns;exact⟨o,i,j,e _ _ (.inl rfl) (λvs h=>by replace h:=(h2)▸h;cases h) h1,h2,k,l⟩
 .obtain⟨o,h1,h2⟩:=C.cell n g x;exact⟨o,e _ _ (.inr ⟨n,mem_of_lookup x⟩) (λvs h=>by replace h:=(h2)▸h;cases h) h1,h2⟩
theorem Cv.but(C:Cv z env m d H)(s:vX x H f)(g:∀b,(b=env.locals\/∃n,(n,b)∈env.cells)->b≠x)(h:z.get? x=X):Cv z env m d f:=
 C.gen (λb a i j c=>s b a (g b i) c) λb a c=>s b a (eg c h) (C.bz.e b a c)
theorem Cv.rl(C:Cv z env m a s.heap)(R:Rl z (pM Lp) [] s c)(d:∀b,(b=env.locals\/∃n,(n,b)∈env.cells)->b≠Lp):Cv z env m a c.heap:=
 C.gen (λb f g i j=>R.keep b f (λz=>z.elim (λh=>d b g h) λ⟨_,k,h⟩=>i k h) j) (R.base C.bz.e)
theorem Tn.rl(t:Tn z z1 L Lp C D a Sl q v m r q0 S ns i s.heap)(c:Th z z1 L Lp C D a Sl q r q0 S ns ys N)(R:Rl z (pM Lp) [] s g)(w:∃f,g.heap.Ns Lp f/\f "_context"=X/\f "left_side"=X):
  Tn z z1 L Lp C D a Sl q v m r q0 S ns i g.heap:=by
 have x:Px z s.heap g.heap:=R.px λu d A e=>by
  rcases A with rfl|⟨B,_⟩
  .obtain⟨f,n1,n2,j⟩:=t.np;exact qp n1 n2 j d e
  .exact se B (by decide)
 refine t.VG c x (t.cv.rl R λu E=>(c.uQ u E).2.2) ?_ ?_ w ?_ ?_
 .obtain⟨d,nm,F,h1,h2,k,l⟩:=t.gen;refine⟨d,nm,F,R.keep _ _ ?_ h1,h2,k,l⟩;rintro(h|⟨h,_⟩)
  .exact c.aP h
  .rw[h2] at h;injection h with h;exact absurd h (by decide)
 .obtain⟨G,⟨d,H,I,h1,h2,k,l⟩,n2,j⟩:=t.nc;refine⟨G,⟨d,H,I,R.keep _ _ ?_ h1,h2,k,l⟩,n2,j⟩;rintro(h|⟨_,J,h⟩)
  .exact c.CP h
  .replace h:=(h2)▸h;cases h
 .obtain⟨p,e⟩:=t.sl;refine⟨p,R.keep _ _ ?_ e⟩;rintro(h|⟨h,_⟩)
  .exact c.sP h
  .injection h with h;exact absurd h (by decide)
 .rintro J ⟨p,e⟩;refine⟨p,R.keep _ _ ?_ e⟩;rintro(h|⟨h,_⟩)
  .exact c.DP h
  .injection h with h;exact absurd h (by decide)
theorem Tn.asg(t:Tn z z1 L Lp C D a Sl f j m g q0 S ns i H)(c:Th z z1 L Lp C D a Sl f g q0 S ns ys N)(e:Ext H k)(s:dE C k h)(n:h.Ns C d)(o:d "_context"=X)(p:d "left_side"=X):
  Tn z z1 L Lp C D a Sl f j m g q0 S ns i h:=by
 obtain⟨w,c0,c1,c2⟩:=t.nc;refine t.VG c (e.px.trans (Px.but s.extBut (qp (c0.keeps e) c1 c2) c.zC)) ((t.cv.keeps e).but s.extBut (λq r=>(c.uQ q r).1) c.zC) ((t.gen.keeps e).extBut s.extBut c.aC) ⟨d,n,o,p⟩ ?_ ((t.sl.keeps e).but s c.sC) λx u=>(u.keeps e).but s c.CD.symm;obtain⟨v,p0,p1,p2⟩:=t.np;exact⟨v,(p0.keeps e).sameBut s c.CP.symm,p1,p2⟩
theorem xD:¬gz (gu "list" vs n):=by rintro⟨b,c,l,r,s,a⟩;have:=congrArg pQ a;injection this with this;exact absurd this (by decide)
theorem Tn.app(t:Tn z z1 L Lp C D a Sl q O m F q0 S ns i H)(f:Th z z1 L Lp C D a Sl q F q0 S ns ys N)(Q:∀j,j<i+1->(fz S ns j).length=2\/(fz S ns j).length=3)
  (R:LO H D ((ts.map λt:az×az=>cM t.1).toArray))(P:Pj z H q q0 S ns i Y ts)
  (M:Made z H Y (fV q0 S ns i) (chunk (fV q0 S ns i) (fz S ns i)).1 (chunk (fV q0 S ns i) (fz S ns i)).2.1 (chunk (fV q0 S ns i) (fz S ns i)).2.2 v G)
  (s:dE D G u)(l:LO u D (((ts.map λt:az×az=>cM t.1).toArray).push v)):Tn z z1 L Lp C D a Sl q O m F q0 S ns (i+1) u:=by
 obtain⟨V,tt,d,rfl,mx,Z⟩:=P.step Q M;have I:=t.cv.mx mx;obtain⟨nD,a0⟩:=R;have a3:=mx _ _ (.inr xD) a0;have J:Px z G u:=Px.but s.extBut (λg h=>by replace h:=(a3)▸h;cases h;exact se rfl (by decide)) f.zD;refine⟨I.but s.extBut (λb hb=>(f.uQ b hb).2.1) f.zD,?_,?_,?_,?_,?_,V,ts++[(tt,d)],?_,Z.px f.zc J I.bz.e⟩
 .obtain⟨g,nm,qn,h1,h2,k,p⟩:=t.gen;refine⟨g,nm,qn,s.extBut _ _ f.aD (mx _ _ (.inr ?_) h1),h2,k,p⟩;rintro⟨t,c,l,r,s,rfl⟩;injection h2 with h2;exact absurd h2 (by decide)
 .obtain⟨w,c0,c1,c2⟩:=t.nc;have A:=c0;obtain⟨g,B,E,h1,h2,k,p⟩:=c0;exact⟨w,⟨g,B,E,s.extBut _ _ f.CD (mx _ _ (.inr (jg A c1 h1)) h1),h2,k,p⟩,c1,c2⟩
 .obtain⟨w,c0,c1,c2⟩:=t.np;have A:=c0;obtain⟨g,B,E,h1,h2,k,p⟩:=c0;exact⟨w,⟨g,B,E,s.extBut _ _ f.DP.symm (mx _ _ (.inr (jg A c1 h1)) h1),h2,k,p⟩,c1,c2⟩
 .obtain⟨n,h⟩:=t.sl;exact⟨n,s.extBut _ _ f.sD (mx _ _ (.inr xD) h)⟩
 .intro x hx;exact((t.pt x hx).mx mx).px J
 .have e:((ts++[(tt,d)]).map λt:az×az=>cM t.1).toArray=((ts.map λt:az×az=>cM t.1).toArray).push (.ref tt):=by simp
  rw[e];exact l
inductive PI(A:cT)(z z1:aK)(L Lp C D a Sl h:az)(c:Nat)(m j:aA->Option aq)(q0:Qd)(S:List (az×Pt))(ns:List Int)(ys:Array aq)(d:dT)(o:df)(N n:Nat)(s:aT):Prop
 |mk (b:Nat) (f:aK) (g:Array dQ) (k:Nat) (e:s=⟨f,g,d,k,o⟩) (l:Tn z z1 L Lp C D a Sl h c m j q0 S ns b f) (p:mG A z z1 [Lp] [] (pM Lp) N (vv Lp ys) c b s) (bx:Bx [c] g) (q:b<=N) (r:n=N+1-b)
theorem ai4(r:aU 17 A)(c:Th z z1 L Lp C D a Sl cx cm q0 S ns ys N)(hy:ys.size=N+1)
  (t0:Tn z z1 L Lp C D a Sl cx f m cm q0 S ns 0 H)(g0:mG A z z1 [Lp] [] (pM Lp) N (vv Lp ys) f 0 ⟨H,g,d,tk,o⟩)(O:Bx [f] g)
  (hR:∀H' a0 g' a5,Tn z z1 L Lp C D a Sl cx f m cm q0 S ns N H'->(∀b o,¬pM Lp b o->H'.get? b=W o->a0.get? b=W o)->Ext z a0->jC g'->R (.ok .next) ⟨a0,g',d,a5,o⟩):
  lT (MM) A (.compLoop (.ListComp Et [⟨MJ,Eu,[],0⟩] xb MI) 0 (.ref a) (.ref D) (DY L C)) R ⟨H,g,d,tk,o⟩:=by
 have hV:∀k<N,(fz S ns k).length=2\/(fz S ns k).length=3:=λk E=>by obtain⟨o1,o2,o3,o4⟩:=c.ho k E;unfold fz;rw[wj,De];exact ahb o1 o3 o4
 refine MF (PI A z z1 L Lp C D a Sl cx f m cm q0 S ns ys d o N) ?_ (N+1) ⟨0,H,g,tk,rfl,t0,g0,O,dN _,rfl⟩;rintro n Q ⟨p,H,g,tk,rfl,t,ga,O,hi,rfl⟩;by_cases aQ:p<N
 .have a6:∃st,(⟨H,g,d,tk,o⟩:aT).gens[f]?=W st:=ga.imp λx h=>h.1;refine adS r t.cv.bz.bs.l t.gen ga aQ λv V J Z a3 a7 F kp=>?_;obtain⟨⟨ta,x0,x1,rfl,y0,y1,tt⟩,np⟩:=a7;have t1:=Tn.rl (s:=(⟨H,g,d,tk,o⟩:aT).setGen f .running) t c F np;have a8:J[f]?=W .running:=by obtain⟨st,h1⟩:=a6;exact(F.gens f (by simp)).trans (sZ h1)
  refine adY (s:=(⟨V,J,d,Z,o⟩:aT).setGen f a3) (g:=f) t1.gen ?_;obtain⟨mC,c0,c1,c2⟩:=t1.nc;obtain⟨u0,rfl⟩:=c.hy _ _ y0;obtain⟨u1,rfl⟩:=c.hy _ _ y1;refine abA (env:=DY L C) (g:=((⟨V,J,d,Z,o⟩:aT).setGen f a3).gens) c0 tt r.h λK2 K3 a9 e2 s3 n3=>?_;have w:=t1.asg c e2 s3 n3 (c1) (c2);obtain⟨b0,b4,b1,a4⟩:=c.ho p aQ;obtain⟨Y,ts,lD,P⟩:=w.pj;have ea:=JR b0;have eb:=JR (ahc a4 ea);have cc:=P.jJ;refine akA (q:=fV q0 S ns p) (Sl:=Sl) (S:=S) (a:=(cq ns p).toNat) (b:=(cq ns (p+1)).toNat) (u:=u0) (u':=u1) w.cv.bz P.G (w.cv.jZ (n:="cls") rfl c.c1) (w.cv.jZ (n:="points") rfl c.c2) (cc▸w.cv.jZ (n:="context") rfl c.c3)
   w.sl.list w.pt n3 (by rw[ea];rfl) (by rw[eb];rfl) (ahd a4) (Int.toNat_le.mpr b1) (ahe a4 ea) c.sz A _ _ _ a9 _ r λv K4 b2 M=>?_
  have mx:Mx z K3 K4:=by obtain⟨_,_,_,_,_,h,_⟩:=M;exact h
  obtain⟨nD,yD⟩:=lD;refine DM (s:=⟨K4,_,d,b2,o⟩) (mx _ _ (.inr xD) yD) (λK5 s5 l5=>?_) ?_
  .have t5:=w.app c (λk E=>hV k (fj E aQ)) ⟨nD,yD⟩ P M s5 ⟨_,l5⟩;refine⟨N+1-(p+1),vj aQ,p+1,K5,_,_,rfl,t5,⟨a3,sZ (s:=⟨V,J,d,Z,o⟩) a8,kp _ ⟨t5.cv.bz.e,λb I hb nb y=>?_,λk E=>by cases E⟩⟩,O.run F,aQ,rfl⟩;have bC:b≠C:=λB=>hb.elim (λh=>c.CP (B▸gb.mp h)) λh=>c.nC (B▸h);have bD:b≠D:=λB=>hb.elim (λh=>c.DP (B▸gb.mp h)) λh=>c.nD (B▸h);exact s5.extBut b I bD (mx b I (.inr nb) (s3.extBut b I bC (e2 b I y)))
  .have:=P.len;simp only[jW,cO];rw[this,eO];have:=c.vE;exact(dz 0x20000005f8500fa05f0a4484a048 0x11042008821).2 aQ this
 .have b3:p=N:=vf hi aQ;subst b3;exact adR r t.cv.bz.e t.cv.bz.bs.l t.gen ga λV J Z h' F x B=>hR H h' _ _ t (λb I hb y=>B b I (F.keep b I hb y)) (Ext.trans (F.base t.cv.bz.e) B) (O.fin F λk E=>by cases E)
theorem acO(p:aX k h (aa a env) n)(pl:dG Bool)
  (t:aa (.Call (.Attribute a "bit_length" j) [] [] pos) env=(do
   let l<-aa a env
   fB j.atName
   let(f,first)<-fI [l] (ie l "bit_length" pl)
   dH pos f first (bG pos (aH [] env)) (bZ pos (cf [] env)))):
  aX k h (aa (.Call (.Attribute a "bit_length" j) [] [] pos) env) (pH n):=by
 intro w F x g b y c z B C;refine kT (p w _ x g b y c z B λG i m D E=>?_) t;obtain⟨H,rfl⟩:=E;refine getMethod_int_bit_length (s:=⟨i,g,b,m,c⟩) (YD rfl ?_);exact evalArgs_nil3 (call_int_bit_length (s:=⟨i,g,b,m,c⟩) (C _ i _ D ⟨_,rfl⟩))
theorem acf(B:Bs h):eJ 6 h (.call (.ref 432) ⟨[.int n u],[]⟩) (λv h'=>Ext h h'/\∃t,v= .int ((pH n:Int)-if(!(zi n (n-1) !=0))=af then 1 else 0) t):=by
 refine jj (k:=5) (fd:=Fd) (body:=bodyOf Fd) (binds:=[("number", .int n u)]) B (tF _) rfl
  (λc c c c c c=>eR rfl) (by nofun) (by nofun) rfl rfl rfl ?_
 intro M l p g dr s w y i N;have O:Ext h M:=l.keep;refine fL (h₀:=h) (L:=0) (m:=λc=>X) (P:=λv c=>∃t,v= .int ((pH n:Int)-if(!(zi n (n-1) !=0))=af then 1 else 0) t) (k:=5)
  (uF (P1:=λv c=>∃t,v= .int (pH n) t) (P2:=λv c=>v= .bool (!(zi n (n-1) !=0))) (acO (.of (ah l.ns)) _ rfl) (λH I=>?_) (λv T H f x=>x) (λV Y h' f C D=>?_)) i λv Z a0 e5 E=>?_
 .intro p y a4 g J s w i f j;refine UnaryOp_ (hY (k:=5) (uF (P:=λv c=>∃t,v= .int (zi n (n-1)) t) (P1:=λv c=>∃t,v= .int n t) (P2:=λv c=>∃t,v= .int (n-1) t) (aX.of (ah (l.ns.keeps I))) (λh3 e3=>(gf (.of (ah (l.ns.keeps I))) (ct)).keeps e3) (λv T H f x=>x) (λV Y h' e' C D=>by obtain⟨t,rfl⟩:=C;obtain⟨t',rfl⟩:=D;intro p y G g J s w i f j;exact and_int (j _ G _ Ext.rfl ⟨_,rfl⟩))) i f λv a3 a5 e4 E=>?_);obtain⟨t,rfl⟩:=E;exact not_of (alK (j _ a3 _ e4 rfl))
 .obtain⟨t,rfl⟩:=C;subst D;intro p y G g J s w i f j;exact IntBool.sub_int_bool (j _ G _ Ext.rfl ⟨_,rfl⟩)
 .exact N v Z a0 ⟨O.trans e5,E⟩ (.ret v) rfl
theorem ai1{c b:Type}{d:c->b->Prop}{f:List c}{g:List b}(p:rH d f g):∀{i:Nat} {y:b},g[i]?=W y->∃x,f[i]?=W x/\d x y:=by
 induction p with
 |nil=>intro i y a;cases a
 |cons x _ h=>
  intro i y a;cases i with
  |zero=>cases a;exact⟨_,rfl,x⟩
  |succ i=>exact h (i:=i) a
theorem Gk(n:Heap.Ns h x m):∃a,h.get? x=W a:=by obtain⟨a,_,_,y,_⟩:=n;exact⟨a,y⟩
theorem jo.at{a:Nat->aq->aK->Prop}{n:Nat}{h:aK}{ys:Array aq}(c:jo (λz=>af) a n h ys){i:Nat}{v:aq}(e:ys[i]?=W v):a i v h:=by
 have d:rH (λi b=>a i b h) (fD n) ys.toList:=by have c:=c;unfold jo at c;replace c:=(JY.mpr (λz z=>rfl))▸c;exact c
 obtain⟨x,hx,f⟩:=ai1 d (i:=i) (y:=v) ((zb)▸e);have:x=i:=by obtain⟨_,h2⟩:=Dc.mp hx;simp only[<-h2,ZJ]
 exact this▸f
theorem Cv.at(e:Cv z (dB L) m j h)(f:x=L\/∃n,(n,x)∈(dB L).cells):∃b,h.get? x=W b:=by
 rcases f with rfl|⟨n,a⟩
 .obtain⟨b,_,_,d,_⟩:=e.ns;exact⟨b,d⟩
 .have g:(dB L).cells=([("result",L+5),("lengths",L+4),("context",L+3),("points",L+2),("cls",L+1)]:List (aA×az)):=by rfl
  replace a:=(g)▸a;have a:n="result"/\x=L+5\/n="lengths"/\x=L+4\/n="context"/\x=L+3\/n="points"/\x=L+2\/n="cls"/\x=L+1:=by simpa using a
  have i:(dB L).cells.lookup n=W x:=by rcases a with⟨rfl,rfl⟩|⟨rfl,rfl⟩|⟨rfl,rfl⟩|⟨rfl,rfl⟩|⟨rfl,rfl⟩<;>rfl
  exact(e.cell n x i).imp λk d=>d.1
theorem akD(r:aU 18 A)(ab:jC g)(J:Cv z (dB L) m M h)(zc:Ctx z Z)
  (c1:M "cls"=W (.ref 488))(c2:M "points"=W (.ref Sl))(c3:M "context"=W (.ref Z))(c4:M "lengths"=W (.ref tl))
  (ht:cU h tl vs.toArray)(hi:iQ vs ns)(sl:LO h Sl (refs S))(pt:iU h S)(G0:Gx z h Y0 q0)(e0:Y0.ctx=Z)(sz:S.length<1000)(a7:vs.length<500)
  (ho:∀i<vs.length,0<=cq ns i/\cq ns i<=cq ns (i+1)/\cq ns (i+1)<=S.length/\(cq ns (i+1)-cq ns i=2\/cq ns (i+1)-cq ns i=3))
  (q:∀D h' g' N Y ts,jC g'->Cv z (dB L) m M h'->LO h' D ((ts.map λt:az×az=>cM t.1).toArray)->LO h' Sl (refs S)->iU h' S->Pj z h' Z q0 S ns vs.length Y ts->Q (.ref D) ⟨h',g',d,N,o⟩):
  aF (MM) A (aa qh (dB L)) Q aE ⟨h,g,d,tk,o⟩:=by
 simp only[acw,Nn];refine Xb (use:=X) rfl (by intro _;rfl) (acv L) rfl (by decide) ?_;have B:=J.bz.bs;refine mE (Ev.at (k:=18) (cB (x:="pairwise") (v:= .ref 279) B (by nofun)) r Ext.rfl λc8 c9 e1=>(mQ (B.keeps e1).k (by nofun) (cF (hY (k:=18) (ac2 (J.keeps e1) c4 (ht.keeps e1) hi a7) r Ext.rfl λv d0 d1 e2 hv=>?_))));obtain⟨Do,ys,rfl,d2,b5,ok⟩:=hv;have F:=e1.trans e2;refine eQ ⟨(B.keeps F).k,dq (Fl (k:=16) (fd:=kQ) (body:=bodyOf kQ) (binds:=[("iterable", .ref Do)]) (B.keeps F) (tF _) rfl (λH H H H H H=>eR rfl) (by nofun) (by nofun) rfl rfl rfl (r.le (by decide)) λLp a a0 b6 e3 nL na aL hn hg=>(HS (s:=⟨a0,g.push (.fresh (.func (bodyOf kQ) (iJ Lp))),d,b6,o⟩) hg (Ej (λI N R E e4 q=>HS (s:=⟨I,g.push (.fresh (.func (bodyOf kQ) (iJ Lp))),d,N,o⟩) (hg.keeps e4) q) (λD C I b7 DC nD nC a9 a3 b0=>?_) (by decide) rfl)))⟩;have O:∀c f,a0.get? c=W f->c≠D/\c≠C:=λc f j=>⟨(eg j nD),(eg j nC)⟩;have a4:=(F.trans e3).trans a3;have nz:∀c,h.get? c=X->z.get? c=X:=λc G=>ft J.bz.e G;have n0:∀c,a0.get? c=X->h.get? c=X:=λc G=>ft (F.trans e3) G;have b1:ys.size=vs.length+1:=by have:=ok.length;simp only[JY.mpr (λH H=>rfl),ud,CB] at this;exact this.symm
 have V:∀c f,h.get? c=W f->c≠D/\c≠C/\c≠Lp:=λc f j=>by refine⟨(O c f ((F.trans e3) _ _ j)).1,(O c f ((F.trans e3) _ _ j)).2,?_⟩;rintro rfl;have:=F _ _ j;replace this:=(nL)▸this;cases this
 obtain⟨oL,yL⟩:∃f,a0.get? Lp=W f:=Gk hn;obtain⟨oa,ya⟩:∃f,a0.get? a=W f:=let⟨f,_,_,j,_⟩:=hg;⟨f,j⟩;have u:Th z I L Lp C D a Sl Z M q0 S ns ys vs.length:=
  {zc:=zc,c1:=c1,c2:=c2,c3:=c3
   zC:=nz _ (n0 _ nC),zD:=nz _ (n0 _ nD),zP:=nz _ (ft F nL)
   nC:=by obtain⟨f,_,_,j,_⟩:=b0;rw[j];simp
   nD:=by obtain⟨n,j⟩:=a9;rw[j];simp
   CD:=DC.symm,CP:=(O _ _ yL).2.symm,DP:=(O _ _ yL).1.symm,aC:=(O _ _ ya).2,aD:=(O _ _ ya).1,aP:=aL
   sC:=by obtain⟨n,j⟩:=sl;exact(V _ _ j).2.1
   sD:=by obtain⟨n,j⟩:=sl;exact(V _ _ j).1
   sP:=by obtain⟨n,j⟩:=sl;exact(V _ _ j).2.2
   uQ:=λx hx=>by obtain⟨f,j⟩:=J.at hx;exact⟨(V _ _ j).2.1,(V _ _ j).1,(V _ _ j).2.2⟩
   hy:=λi v hv=>ok.at hv
   ho:=ho,sz:=sz,vE:=Pu a7}
 have t0:Tn z I L Lp C D a Sl Z g.size m M q0 S ns 0 I:=
  ⟨(J.keeps a4),hg.keeps a3,⟨_,b0,by rfl,by rfl⟩,⟨_,hn.keeps a3,by rfl,by rfl⟩,sl.keeps a4,pt.keeps a4,Y0,[],a9,⟨rfl,e0,G0.keeps a4,by simp,by simp⟩⟩
 have bx:Bx [g.size] (g.push (.fresh (.func (bodyOf kQ) (iJ Lp)))):=Bx.of (ab.push rfl);have g0:∀N,mG A z I [Lp] [] (pM Lp) vs.length (vv Lp ys) g.size 0 ⟨I,g.push (.fresh (.func (bodyOf kQ) (iJ Lp))),d,N,o⟩:=by intro N;refine⟨_,Jo ..,?_⟩;exact aju (s:=(⟨I,g.push (.fresh (.func (bodyOf kQ) (iJ Lp))),d,N,o⟩:aT).setGen g.size .running) (r.le (by decide:18<=18)).in1 J.bz.b (J.bz.e.trans a4) (nz _ (ft F nL)) (hn.keeps a3) rfl rfl rfl ((b5.keeps e3).keeps a3).list b1 (Pu a7)
 .refine ai4 (r.le (by decide)) u b1 t0 (g0 b7) bx λH' a5 g' b8 t a6 b2 b9=>?_;have a8:∀c f,c≠Lp->(∀vs,f.data≠ .fields vs)->¬pM Lp c f:=by
   rintro c f G hd (p|⟨_,vs,p⟩)
   .exact G p
   .exact hd vs p
  have px:Px z H' a5:=⟨λc f gk j=>a6 c f (by
   rintro(rfl|⟨hc,_⟩)
   .obtain⟨mp,p1,p2,p3⟩:=t.np;exact qp p1 p2 p3 f j gk
   .exact se hc (by decide) gk) j,λH=>b2⟩
  obtain⟨mC,n1,n2,n3⟩:=t.nc;have b3:a5.Ns C mC:=by obtain⟨f,es,ep,y1,y2,y3,y4⟩:=n1;exact⟨f,es,ep,a6 _ _ (a8 _ _ u.CP λvs p=>by replace p:=(y2)▸p;cases p) y1,y2,y3,y4⟩
  obtain⟨Y,ts,l,P⟩:=t.pj;refine⟨mC,b3,λh' sb=>?_⟩;have b4:Px z a5 h':=Px.but sb.extBut (qp b3 n2 n3) u.zC;have c0:=t.cv.gen (λc f G hd j=>a6 c f (a8 c f (u.uQ c G).2.2 hd) j) b2;obtain⟨c5,yD⟩:=l;obtain⟨nS,yS⟩:=t.sl;have c6:LO a5 D ((ts.map λt:az×az=>cM t.1).toArray):=⟨c5,a6 _ _ (a8 _ _ u.DP λvs p=>by cases p) yD⟩;have c7:LO a5 Sl (refs S):=⟨nS,a6 _ _ (a8 _ _ u.sP λvs p=>by cases p) yS⟩;exact q D h' g' b8 Y ts b9 (c0.but sb.extBut (λc G=>(u.uQ c G).1) u.zC) (c6.but sb u.CD.symm) (c7.but sb u.sC) (λx hx=>((t.pt x hx).px (px.trans b4))) (P.px zc (px.trans b4) t.cv.bz.e)
structure gX where
 l:Nat
 r:Nat
 al:Nat->Prop
 V:List Pt
structure Fs(q:Qd)(ps:List gX):Prop where
 qe:QE q.n q.on
 tr:∀p∈ps,gB q.n q.on q.P p.al p.V p.l p.r
 ap:ps.Pairwise λa b=>∀i,a.al i->¬b.al i
 sp:ps.Pairwise λa b=>∀l r,l∈a.V->r∈b.V->lx l r
theorem gB.fr{q q':Qd}{p:gX}(a:gB q.n q.on q.P p.al p.V p.l p.r)(Q:QE q.n q.on)(c:QE q'.n q'.on)(h:q.n<=q'.n)(d:∀i<q.n,i%2=0->p.al i->q'.on i=q.on i)(e:∀i<q.n,q'.P i=q.P i):gB q'.n q'.on q'.P p.al p.V p.l p.r:=
 a.frame Q c h (λi b=>d i (a.part.lt i b) (a.part.ev i b) b) e
theorem Fs.snoc{q q':Qd}{ps:List gX}{p:gX}(d:Fs q ps)(f:QE q'.n q'.on)(h:q.n<=q'.n)(j:∀i<q.n,i%2=0->q'.on i=q.on i)(k:∀i<q.n,q'.P i=q.P i)
  (m:gB q'.n q'.on q'.P p.al p.V p.l p.r)(o:∀i,p.al i->q.n<=i)(s:∀a∈ps,∀l r,l∈a.V->r∈p.V->lx l r):Fs q' (ps++[p]):=by
 refine⟨f,λa c=>?_,Dj.mpr ⟨d.ap,ZU ..,λa c t e i u g=>?_⟩,Dj.mpr ⟨d.sp,ZU ..,λa c t e=>?_⟩⟩
 .rcases fM.mp c with c|c
  .exact(d.tr a c).fr d.qe f h (λi v w x=>j i v w) k
  .rw[gb.mp c];exact m
 .rw[gb.mp e] at g;exact absurd ((d.tr a c).part.lt i u) (pO.mpr (o i g))
 .rw[gb.mp e];exact s a c
theorem Fs.chunk(k:Fs q ps)(B:V.length=2\/V.length=3)(hs:V.Pairwise λa b=>lx a.2 b.2)(u:∀a∈ps,∀l r,l∈a.V->r∈V.map (·.2)->lx l r):
  ∃al,Fs (chunk q V).1 (ps++[⟨(chunk q V).2.1,(chunk q V).2.2,al,V.map (·.2)⟩]):=by
 have g:=k.qe
 match V,B with
 |[a,b],_=>
  have h:lx a.2 b.2:=Kk hs (by simp);exact⟨_,k.snoc (q':=q.grow a.2 b.2) (p:=⟨q.n,q.n+2,λe=>e=q.n\/e=q.n+2,[a.2,b.2]⟩) g.grow (fF ..) (λe f E=>if_pos f) (λe f=>by show bu _ _ _ _ e=_;unfold bu;rw[if_neg (cJ f),if_neg (by exact qG f)])
   (akR (P:=q.P) g h).1 (λe f=>by rcases f with rfl|rfl<;>lia) u⟩
 |[a,b,d],_=>
  have m:lx a.2 b.2:=Kk hs (by simp);have o:lx b.2 d.2:=Kk (alF hs) (by simp);show∃al,Fs (jk q a.2 b.2 d.2).1 (ps++[⟨(jk q a.2 b.2 d.2).2.1,(jk q a.2 b.2 d.2).2.2,al,[a.2,b.2,d.2]⟩]);unfold jk;by_cases v:cr a.2 b.2 d.2=0
  .have C:=ae6 (P:=q.P) g m o v;have j:ju a.2.1 a.2.2 b.2.1 b.2.2 d.2.1 d.2.2=0:=v;rw[if_neg (by exact(ip 0x10008d400a0a8 0x8421).2 j),if_neg (by exact(ip 0x140d400a0a8 0x8023).2 j)];exact⟨_,k.snoc (q':=q.path a.2 b.2 d.2) (p:=⟨q.n,q.n+6,_,[a.2,b.2,d.2]⟩) (xX (P:=q.P) g m o).Q (fF ..) (xX (P:=q.P) g m o).f1 (xX (P:=q.P) g m o).f2 C.1 (λe f=>by rcases f with rfl|rfl|rfl|rfl<;>lia) u⟩
  .obtain⟨x,ho,y,D,T1,T2⟩:=akI (P:=q.P) g m o v;have A:∀e,(e=q.n\/e=q.n+2\/e=q.n+4\/e=q.n+6)\/e=q.n+8\/e=q.n+10->q.n<=e:=λe f=>by exact(dz 0x12802828124880a04921cc14092420502490e20a04921d0921ce8 0x441080011042100022084000882108001104210002208421).2 f
   by_cases j:0<cr a.2 b.2 d.2
   .have s:0<ju a.2.1 a.2.2 b.2.1 b.2.2 d.2.1 d.2.2:=j;rw[if_pos s];exact⟨_,k.snoc (q':=q.cZ a.2 b.2 d.2) (p:=⟨q.n,q.n+6,_,[a.2,b.2,d.2]⟩) x (fF ..) ho y (T1 j) A u⟩
   .have s:ju a.2.1 a.2.2 b.2.1 b.2.2 d.2.1 d.2.2<0:=show cr a.2 b.2 d.2<0 by exact(ip 0x503400235200141548 0x4211800110421).2 v j
    rw[if_neg (by exact Zc s),if_pos s];exact⟨_,k.snoc (q':=q.cZ a.2 b.2 d.2) (p:=⟨q.n+10,q.n+8,_,[a.2,b.2,d.2]⟩) x (fF ..) ho y (T2 s) A u⟩
 |[],t=>exact absurd t (by simp)
 |[_],t=>exact absurd t (by simp)
 |_::_::_::_::_,t=>exact absurd t (by simp)
structure Kv(q:Qd)(a b:gX)(k x y d:Nat)(q':Qd)(p:gX):Prop where
 f:iu q.P q.on k a.r b.l x y
 hx:x<q.n
 hy:y<q.n
 c:iN d (q.conn (U y) x) q.n q'
 l:p.l=if q.P x=q.P a.l then q.n+2 else a.l
 r:p.r=if q.P y=q.P b.r then q.n else b.r
 V:p.V=a.V++b.V
 n:q.n<=q'.n
structure Wg(n:Nat)(on:Nat->Nat)(P:Nat->Pt)(al:Nat->Prop)(V:List Pt)(l r:Nat):Prop where
 part:Part n on P al V
 fJ:al l
 fA:al r
structure Fo(q:Qd)(ps:List gX):Prop where
 qe:QE q.n q.on
 wk:∀p∈ps,Wg q.n q.on q.P p.al p.V p.l p.r
 st:2<=ps.length->Fs q ps
 le:ps.length<=2
theorem Fs.fo{q:Qd}{ps:List gX}(a:Fs q ps)(h:ps.length<=2):Fo q ps:=⟨a.qe,λb c=>⟨(a.tr b c).part,(a.tr b c).fJ,(a.tr b c).fA⟩,λd=>a,h⟩
theorem Fo.merge{q:Qd}{A B:List gX}{a b:gX}(i:Fo q (A++a::b::B)):∃k x y g q' p,Kv q a b k x y g q' p/\Fo q' (A++p::B):=by
 have d:=i.le;rw[gW] at d;have e:=i.st (by rw[gW];exact eT (zH 2 B.length) (zH _ _))
 match A,B,d,e with
 |[],[],_,e=>obtain⟨k,x,y,g,q',j,f,hx,hy,_,_,c,m,pt,n,o,r,t,ho,u⟩:=afv e.qe (e.tr a (by simp)) (e.tr b (by simp)) ((Dk.mp e.sp).1 b (by simp));exact⟨k,x,y,g,q',⟨_,_,j,a.V++b.V⟩,⟨f,hx,hy,c,rfl,rfl,rfl,r⟩,m,λp s=>by rw[gb.mp s];exact⟨pt,n,o⟩,λh=>absurd (show 2<=1 from h) (by decide),KC 1⟩
 |_::_,_,d,_=>exact absurd d (by simp only[jD];omega)
 |[],_::_,d,_=>exact absurd d (by simp only[jD,List.length_nil];omega)
noncomputable abbrev Tp:=(az×az)×gX
structure Hs(z H:aK)(b:az)(q:Qd)(Y:Lay)(a:List Tp):Prop where
 jJ:Y.ctx=b
 G:Gx z H Y q
 fo:Fo q (a.map (·.2))
 cZ:∀x∈a,cX H x.1.1 x.1.2 (.ref b) (.ref (Y.ad x.2.l)) (.ref (Y.ad x.2.r))
 zd:∀x∈a,z.get? x.1.2=X
 nd:(a.map (·.1.2)).Nodup
theorem Hs.px(s:Hs z H a q Y b)(c:Ctx z a)(e:Px z H d)(f:Ext z H):Hs z d a q Y b:=
 {s with G:=s.G.px (s.jJ▸c) e f,cZ:=λx g=>(s.cZ x g).px e}
theorem Hs.ends(s:Hs z H d q Y b)(c:x∈b):(x.2.l<q.n/\x.2.l%2=0)/\x.2.r<q.n/\x.2.r%2=0:=by obtain⟨a,l,r⟩:=s.fo.wk x.2 (mI c);exact⟨⟨a.lt _ l,a.ev _ l⟩,a.lt _ r,a.ev _ r⟩
theorem Oo(b:cX h a d c l r)(y:h.get? x=W (dy C f)):x≠d:=by rintro rfl;obtain⟨g,s,e⟩:=b.di;replace e:=(y)▸e;cases e
theorem Hs.step(s:Hs z H E q Y (A++a::b::B))(m:Kv q a.2 b.2 k x y k' q' p)(f:Fo q' (A.map (·.2)++p::B.map (·.2)))(M:Kt z H Y q q' a.1.2 b.1.2 p.l p.r v n):
  ∃i t d,v= .ref t/\Bz z n/\Hs z n E q' i (A++((t,d),p)::B):=by
 obtain⟨i,t,d,o,rfl,bz,G,T,zd,nw,kp⟩:=M;have O:a∈A++a::b::B:=by simp
 have P:b∈A++a::b::B:=by simp
 have c:∀x,x∈A++B->x∈A++a::b::B:=λx h=>by rcases fM.mp h with h|h<;>simp[h]
 have F:=s.nd;simp only[kG,nT,nT] at F;obtain⟨Q,n2,I⟩:=zF.mp F;obtain⟨R,S⟩:=lF.mp n2;obtain⟨V,Z⟩:=lF.mp S;have J:∀x,x∈A++B->x.1.2≠a.1.2/\x.1.2≠b.1.2:=λx h=>by
  rcases fM.mp h with h|h
  .have:=I _ (mI h);exact⟨this _ (by simp),this _ (by simp)⟩
  .have g:=mI (f:=λx:Tp=>x.1.2) h;exact⟨λj=>R (j▸fZ _ g),λj=>V (j▸g)⟩
 have w:∀x,x∈A++B->cX n x.1.1 x.1.2 (.ref E) (.ref (i.ad x.2.l)) (.ref (i.ad x.2.r))/\x.1.2≠d:=λx h=>by simp only[o.ad _ (s.ends (c x h)).1.1,o.ad _ (s.ends (c x h)).2.1];obtain⟨C,ss,y⟩:=(s.cZ x (c x h)).di;exact⟨⟨kp _ _ (Oo (s.cZ a O) (s.cZ x (c x h)).ob) (Oo (s.cZ b P) (s.cZ x (c x h)).ob) (.inr BF) (s.cZ x (c x h)).ob,C,ss,kp _ _ (J x h).1 (J x h).2 (.inr (yk ⟨C,_,_,_,ss,rfl⟩)) y⟩,nw _ _ (yk ⟨C,_,_,_,ss,rfl⟩) y⟩
 have L:∀x,x∈A++((t,d),p)::B->x=((t,d),p)\/x∈A++B:=λx h=>by
  rcases fM.mp h with h|h
  .exact .inr (iT _ h)
  .rcases cP.mp h with h|h
   .exact .inl h
   .exact .inr (lC _ h)
 refine⟨i,t,d,rfl,bz,o.ctx.trans s.jJ,G,by simp only[kG];exact f,λx h=>?_,λx h=>?_,?_⟩
 .rcases L x h with rfl|h
  .exact s.jJ▸T
  .exact(w x h).1
 .rcases L x h with rfl|h
  .exact zd
  .exact s.zd x (c x h)
 .simp only[kG];refine zF.mpr ⟨Q,lF.mpr ⟨λh=>?_,Z⟩,λu N v D=>?_⟩
  .obtain⟨x,g,j⟩:=dc.mp h;exact(w x (lC _ g)).2 j
  .obtain⟨x,g,rfl⟩:=dc.mp N;rcases cP.mp D with rfl|D
   .exact(w x (iT _ g)).2
   .exact I _ N _ (fZ _ (fZ _ D))
def Nx(H d:aK):Prop:=∀c a,¬gz a->¬gV a->H.get? c=W a->d.get? c=W a
inductive uh(z:aK)(c:az)(A B:List Tp)(V:List Pt)(H:aK)(v:aq)(a:aK):Prop
 |mk (f:Qd) (g:Lay) (b d:az) (p:gX) (e:v= .ref b) (bz:Bz z a) (hs:Hs z a c f g (A++((b,d),p)::B)) (h:p.V=V) (nx:Nx H a)
theorem Hs.merge(s:Hs z H L q Y (A++a::b::B))(N:Bz z H):eJ 15 H (.call (.ref 513) ⟨[.ref a.1.1, .ref b.1.1],[]⟩) (uh z L A B (a.2.V++b.2.V) H):=by
 have h:a∈A++a::b::B:=by simp
 have i:b∈A++a::b::B:=by simp
 have E:=s.fo;simp only[kG,nT,nT] at E;obtain⟨k,x,n,k',O,p,m,f⟩:=E.merge;have P:a.1.2≠b.1.2:=by have F:=s.nd;simp only[kG,nT,nT] at F;have:=(lF.mp (zF.mp F).2.1).1;exactλj=>this (j▸gO ..)
 intro A g w Q C S T Z;refine afw N s.G (s.jJ▸(s.cZ a h)) (s.jJ▸(s.cZ b i)) P (s.zd a h) (s.zd b i) (s.ends h).1.1 (s.ends h).2.1 (s.ends i).1.1 (s.ends i).2.1 (s.ends h).1.2 (s.ends h).2.2 (s.ends i).1.2 (s.ends i).2.2 m.f m.hx m.hy m.c A g w Q C S T λv I a0 D=>?_;have nx:Nx H I:=by
  obtain⟨_,_,_,_,_,_,_,_,_,_,kp⟩:=D;refineλc C n1 J n=>kp c C ?_ ?_ (.inr n1) n
  .rintro rfl;obtain⟨u,s,j⟩:=(s.cZ a h).di;rw[j] at n;cases n;exact J ⟨u,_,_,_,s,rfl⟩
  .rintro rfl;obtain⟨u,s,j⟩:=(s.cZ b i).di;rw[j] at n;cases n;exact J ⟨u,_,_,_,s,rfl⟩
 simp only[<-m.l,<-m.r] at D;obtain⟨Y',u,w,j,a3,s'⟩:=s.step m f D;exact Z v I a0 ⟨O,Y',u,w,p,j,a3,s',m.V,nx⟩
theorem Cv.nx(C:Cv z env m k H)(n:Nx H g)(l:Bz z g)(h:m "left_side"=X):Cv z env m k g:=by
 refine⟨l,?_,C.nk,λi j x=>?_,C.apart,C.above,C.zL⟩
 .obtain⟨d,p,q,h1,h2,r,s⟩:=id C.ns;exact⟨d,p,q,n _ _ (jg C.ns C.nk h1) (HF C.ns h h1) h1,h2,r,s⟩
 .obtain⟨d,h1,h2⟩:=id (C.cell i j x);refine⟨d,n _ _ (Mt (C.cell i j x) h1) ?_ h1,h2⟩;rintro⟨u,a,b,e,f,rfl⟩;cases h2
noncomputable def VS:cQ:=(Es[4]?).getD (.Pass ⟨0,0,0,0⟩)
noncomputable def Hu:List cQ:=ou VS
noncomputable def VT:Expr:=nj (Hu.getD 1 (.Pass ⟨0,0,0,0⟩)) 0
noncomputable def sv:Expr:=jv VT 0
noncomputable def Gf:Expr:=jv sv 0
noncomputable def Bc:Expr:=jv sv 1
noncomputable def afq:Expr:=jv sv 2
noncomputable def Bb:nY:=(xm sv).2.1
noncomputable def afr:cC:=(xm sv).2.2
theorem afp:sv= .ListComp Gf [⟨Bc,afq,[],0⟩] Bb afr:=by rfl
noncomputable def OS(L:az):List (aA×az):=Mw (uy Bb (dB L))
theorem afo(L:az):uy Bb (dB L)=bj (OS L):=by rfl
noncomputable abbrev Ba(L C:az):gL:=hX Bb (OS L) C (dB L)
noncomputable abbrev fK(a:List Tp):Array aq:=(a.map λx=>cM x.1.1).toArray
noncomputable abbrev jG(a:List Tp):List Pt:=(a.map (·.2.V)).flatten
structure Mn(z h:aK)(L C D Rl c d:az)(m e:aA->Option aq)(a:List Tp)(N i:Nat)(H:aK):Prop where
 cv:Cv z (dB L) m e H
 ri:iw H c (0+(i:Int)*2) ((N:Int)-i) 2
 nc:∃b,H.Ns C b/\b "_context"=X/\b "left_side"=X
 lr:LO H Rl (fK a)
 ac:∃q Y ac,LO H D (fK ac)/\ac.length=i/\Hs z H d q Y (ac++a.drop (2*i))/\jG (ac++a.drop (2*i))=jG a
 fr:Nx h H
theorem qT(c:o.cls= .type T)(n:T≠"dict"):¬gz o/\¬gV o:=by
 constructor
 .rintro⟨a,x,l,r,s,e⟩;rw[e] at c;injection c with c;exact n c.symm
 .rintro⟨a,x,l,r,s,e⟩;rw[e] at c;injection c with c;exact n c.symm
theorem LO.nx(l:LO H a vs)(n:Nx H b):LO b a vs:=let⟨c,x⟩:=l;⟨c,n _ _ (qT rfl (by decide)).1 (qT rfl (by decide)).2 x⟩
theorem afD(N:H.Ns C a)(b:a "_context"=X)(c:a "left_side"=X)(n:Nx H d):d.Ns C a:=by obtain⟨e,f,g,h1,h2,h,i⟩:=id N;exact⟨e,f,g,n _ _ (jg N b h1) (HF N c h1) h1,h2,h,i⟩
theorem uh.ext(e:Ext h h')(M:uh z f A B V h' v H):uh z f A B V h v H:=by obtain⟨g,i,t,d,p,e1,e2,e3,e4,j⟩:=M;exact⟨g,i,t,d,p,e1,e2,e3,e4,λa c k l m=>j a c k l (e a c m)⟩
theorem afy{z h H:aK}{cx L C D Rl k:az}{a:List Tp}{m cm:aA->Option aq}{N i:Nat}{A:cT}{R:aT->Prop}{g:Array dQ}{d:dT}{tk:Nat}{o:df}{Q:aT->Prop}(r:aU 18 A)(u:Mn z h L C D Rl k cx m cm a N i H)(zc:Ctx z cx)(hl:m "left_side"=X)(hr:cm "result"=W (.ref Rl))
  (ne:([C,D,Rl,k]).Nodup)(E:z.get? C=X/\z.get? D=X/\z.get? k=X)(hn:h.get? C=X/\h.get? D=X/\h.get? k=X)(lo:∀x,(x=L\/∃n,(n,x)∈(dB L).cells)->x≠C/\x≠D/\x≠k)(P:2*N<=a.length)(F:i<N)(sz:a.length<500)
  (qq:∀H' a0,Mn z h L C D Rl k cx m cm a N (i+1) H'->Q ⟨H',g,d,a0,o⟩):
  aF (MM) A (vA (.ref k)) (λr a7=>match r with
   |none=>R a7
   |some v=>aF (MM) A (sk Bc (.ref k) v) (λw b1=>aF (MM) A (jH Bc (Ba L C) v) (λw b2=>aF (MM) A (aa Gf (Ba L C)) (λx b3=>
    aF (MM) A (eU (.builtin "list.append") [.ref D,x]) (λw b4=>Q b4) aE b3) aE b2) aE b1) aE a7) aE ⟨H,g,d,tk,o⟩:=by
 obtain⟨q,Y,ac,lD,a8,hs,hv⟩:=u.ac;obtain⟨mC,S,G,n3⟩:=u.nc;simp only[lF,cP,kH,or_false,not_or,ZS,and_true,not_false_eq_true] at ne;obtain⟨⟨CD,CR,CI⟩,⟨DR,DI⟩,RI⟩:=ne;refine Xg (s:=⟨H,g,d,tk,o⟩) u.ri (RA F) λc2 b5 l=>oV (rfl:sk Bc (.ref k) _=bj ()) ?_;have ei:(0:Int)+(i:Int)*2=((2*i:Nat):Int):=by push_cast;exact QA
 simp only[ei];refine qZ (fw (env:=Ba L C) rfl (S.sameBut l CI) (λa3 a4 I=>?_) rfl);have px:Px z H a3:=(Px.but l.extBut (λo J=>by have j:=J.symm.trans u.ri;cases j;exact se rfl (by decide)) E.2.2).trans (Px.but I.extBut (qp (S.sameBut l CI) G n3) E.1);have B:=(u.cv.but l.extBut (λc Z=>(lo c Z).2.2) E.2.2).but I.extBut (λc Z=>(lo c Z).1) E.1;have a9:=hs.px zc px u.cv.bz.e;have b6:=(lD.but l DI).but I (fN CD);have a5:=(u.lr.but l RI).but I (fN CR);have x0:2*i<a.length:=(fq 0x2502209481212a11008 0x10048010421).2 P F;have x1:2*i+1<a.length:=(fq 0x1210a044109481212a11008 0x10048010421).2 P F;have dr:a.drop (2*i)=a[2*i]::a[2*i+1]::a.drop (2*(i+1)):=by simp only[JW x0,JW x1,show 2*(i+1)=2*i+1+1 from rfl]
 rw[dr] at a9 hv;have g0:(fK a)[2*i]?=W (.ref (a[2*i]).1.1):=by simp[x0]
 have g1:(fK a)[2*i+1]?=W (.ref (a[2*i+1]).1.1):=by simp[x1]
 have T:dY 18 a3 (aa Gf (Ba L C)) (uh z cx ac (a.drop (2*(i+1))) ((a[2*i]).2.V++(a[2*i+1]).2.V) a3):=vH (vs:=[.ref (a[2*i]).1.1, .ref (a[2*i+1]).1.1]) (f:=513) B.bz.bs (cB B.bz.bs (by nofun))
  ((eM (qj (kO (n:="result") (B.jZ (n:="result") rfl hr)) (.of (ah a4)) a5.list g0 (by exact(fq 0x30d404f8502209f417c2a121281214911008 0x23084012082110821).2 P F sz)) (kb (qj (kO (n:="result") (B.jZ (n:="result") rfl hr)) (rU (.of (ah a4)) (ct)) a5.list g1 (by exact(fq 0x186a027c210a044109f417c2a121281214911008 0x23084012082110821).2 P F sz)))).imp λvs=>by rintro⟨v,rest,rfl,rfl,rfl⟩;rfl)
  (λh' j A R g d tk o r qq=>(a9.px zc j.px B.bz.e).merge (B.bz.keeps j) A R g d tk o (r.le (by exact by decide)) λv b7 a0 M=>qq v b7 a0 (uh.ext j M)) (by nofun)
 refine T A _ g d _ o r λv a6 b8 M=>?_;obtain⟨q',Y',t,dd,p,rfl,bz,b9,pv,nx⟩:=M;obtain⟨nn,yD⟩:=b6.nx nx;refine DM (s:=⟨a6,g,d,b8,o⟩) yD (λb0 O l4=>qq b0 _ ?_) (by simp only[jW,cO];rw[a8];exact(fq 0x80000017e1401f417c2a121281214911008 0x23084012082008821).2 P F sz);have c0:Px z a6 b0:=Px.but O.extBut (λo J=>by have j:=J.symm.trans yD;cases j;exact se rfl (by decide)) E.2.1;have c1:iw a6 k (0+((i+1:Nat):Int)*2) ((N:Int)-((i+1:Nat):Int)) 2:=by
  have e1:(0:Int)+((i+1:Nat):Int)*2=0+(i:Int)*2+2:=by push_cast;exact(kl 0x20a0c228022104283084500445 1).2
  have e2:(N:Int)-((i+1:Nat):Int)=(N:Int)-i-1:=by push_cast;exact GW
  simp only[e1,e2];exact nx _ _ (qT rfl (by decide)).1 (qT rfl (by decide)).2 ((I.2 _ (fN CI)).trans b5)
 refine⟨(B.nx nx bz hl).but O.extBut (λc Z=>(lo c Z).2.1) E.2.1,(O.2 _ (fN DI)).trans c1,⟨_,(afD a4 (G) (n3) nx).sameBut O CD,G,n3⟩,(a5.nx nx).but O (fN DR),⟨q',Y',ac++[((t,dd),p)],?_,by simp[a8],?_,?_⟩,λc o S G J=>?_⟩
 .have j:fK (ac++[((t,dd),p)])=(fK ac).push (.ref t):=by simp
  simp only[j];exact⟨_,l4⟩
 .simp only[Zv];exact b9.px zc c0 bz.e
 .simp only[<-hv];simp[jG,pv]
 .have nb:∀{x},h.get? x=X->c≠x:=λj=>eg J j;exact O.extBut c o (nb hn.2.1) (nx c o S G (I.extBut c o (nb hn.1) (l.extBut c o (nb hn.2.2) (u.fr c o S G J))))
theorem Nl(I:aO k h (aa z env) (.type "range"))(J:aX k h (aa j env) a)(L:aX k h (aa i env) b)(M:aX k h (aa f env) c)(N:c≠0)(O:YB (b-a) c=aw)
  (P:autoParam (aa (.Call z [j,i,f] [] pos) env=(do dH pos (<-aa z env) [] (bG pos (aH [j,i,f] env)) (bZ pos (cf [] env)))) rf)
  (D:autoParam (aH [j,i,f] env=(aw,aa j env)::aH [i,f] env) rf)(E:autoParam (aH [i,f] env=(aw,aa i env)::aH [f] env) rf)(G:autoParam (aH [f] env=(aw,aa f env)::aH [] env) rf):
  Ev k h (aa (.Call z [j,i,f] [] pos) env) (λv h'=>∃r t u m,v= .ref r/\CV h' r a b c t u m):=by
 intro B Q a5 g n tk p r w R;rw[P];refine aB (Ev.at I r w λS T x=>?_);refine KW (rest:=[i,f]) (cF (J B _ S g n T p r (w.trans x) λm V Y C l=>?_) D) D (by rw[E,G];rfl);obtain⟨u1,rfl⟩:=l;refine cF (L B _ V g n Y p r ((w.trans x).trans C) λm Z a0 H l=>?_) E;obtain⟨u2,rfl⟩:=l;refine cF (M B _ Z g n a0 p r (((w.trans x).trans C).trans H) λm a3 a4 e6 l=>?_) G;obtain⟨u3,rfl⟩:=l;exact eQ (call_range_3 (s:=⟨a3,g,n,a4,p⟩) N (R _ _ _ (((x.trans C).trans H).trans (e6.trans λb ob y=>eP _ y)) ⟨_,_,_,_,rfl,jT _ rfl⟩) (.inl O))
inductive YT(z h:aK)(L Rl b:az)(m c:aA->Option aq)(a:List Tp)(N:Nat)(v:aq)(H:aK):Prop
 |mk (D:az) (d:Qd) (f:Lay) (ac:List Tp) (e:v= .ref D) (cv:Cv z (dB L) m c H) (lr:LO H Rl (fK a)) (g:LO H D (fK ac)) (hl:ac.length=N) (hs:Hs z H b d f (ac++a.drop (2*N))) (i:jG (ac++a.drop (2*N))=jG a) (nx:Nx h H)
theorem akB{z h:aK}{cx L Rl:az}{q:Qd}{Y:Lay}{P:List Tp}{m cm:aA->Option aq}{N:Nat}{u:jF}(T:Cv z (dB L) m cm h)(zc:Ctx z cx)(hl:m "left_side"=X)(hr:cm "result"=W (.ref Rl))(a7:m "parts_to_merge_count"=W (.int ((2*N:Nat):Int) u))(lR:LO h Rl (fK P))(hs:Hs z h cx q Y P)
  (hN:2*N<=P.length)(sz:P.length<500):dY 18 h (aa sv (dB L)) (YT z h L Rl cx m cm P N):=by
 intro A Q g d tk p r qq;rw[afp,Nn];refine Xb (use:=X) rfl (by intro _;rfl) (afo L) rfl (by decide) ?_;have B:=T.bz.bs;refine hY (k:=18) (Nl (a:=0) (b:=((2*N:Nat):Int)) (c:=2) (eY B (by nofun) (by boot_by_name) (by decide)) (ct) (.of (ah T.ns a7)) (ct) (by decide) (aaK (((kl 0x100000000ff0a0420a1a8 0x12000108421).2 rfl)))) r Ext.rfl λv t a8 e2 hv=>?_;obtain⟨ra,t1,t2,t3,rfl,a9⟩:=hv;have a4:rq 0 ((2*N:Nat):Int) 2=(N:Int):=by unfold rq;simp;omega
 refine HU (s:=⟨t,g,d,a8,p⟩) a9 (by unfold zf Yz;rw[a4];simp;exact(dz 0x10000000000000000df84214184410c2141844120000000000000001bf08026005043a0000000000000001bf0a0c3400000000000000037e1418441a0c2220000000000000001bf08026319f417c291212811008 0x100220842118001009e10000110420088410004008821084600040278421).2 hN sz) ?_;rw[a4];have e3:Ext t (t.push {cls:= .type "range_iterator",data:= .fields #[fu 0,fu N,fu 2]}):=λf V j=>eP _ j;have ri:iw (t.push {cls:= .type "range_iterator",data:= .fields #[fu 0,fu N,fu 2]}) t.objs.size 0 N 2:=jT _ rfl;have Z:=ft e2 (jq (bT _));generalize (t.push {cls:= .type "range_iterator",data:= .fields #[fu 0,fu N,fu 2]})=a5 at e3 ri⊢;generalize t.objs.size=G at ri Z⊢;refine Ej (λa0 a3 R E e4 q=>wpAny_pyIter_rangeiter (s:=⟨a0,g,d,a3,p⟩) (e4 _ _ ri) q) (λF J a0 b0 DC nD nC lD a6 b1=>?_) (by decide) rfl;have b2:∀f,(∃V,a5.get? f=W V)->f≠J/\f≠F:=λf ⟨V,j⟩=>⟨(eg j nC),(eg j nD)⟩;have IC:=b2 G ⟨_,ri⟩;have CD:=DC.symm;have E:=(e2.trans e3).trans a6;have M:∀f,a5.get? f=X->h.get? f=X:=λf S=>ft (e2.trans e3) S;have zz:∀f,h.get? f=X->z.get? f=X:=λf S=>ft T.bz.e S;have O:∀{f V b'},h.get? f=W V->h.get? b'=X->f≠b':=λj n=>eg j n;have lo:∀x,(x=L\/∃n,(n,x)∈(dB L).cells)->x≠J/\x≠F/\x≠G:=λx hx=>by obtain⟨V,j⟩:=T.at hx;exact⟨O j (M _ nC),O j (M _ nD),O j Z⟩
 have ne:([J,F,Rl,G]).Nodup:=by obtain⟨nn,j⟩:=lR;simp only[lF,cP,kH,or_false,not_or,ZS,and_true,not_false_eq_true];exact⟨⟨CD,fN (O j (M _ nC)),fN IC.1⟩,⟨fN (O j (M _ nD)),fN IC.2⟩,O j Z⟩
 have u0:Mn z h L J F Rl G cx m cm P N 0 a0:=⟨T.keeps E,by have:=a6 _ _ ri;simpa [iw] using this,⟨_,b1,by rfl,by rfl⟩,lR.keeps E,⟨q,Y,[],lD,rfl,by simpa using hs.px zc E.px T.bz.e,by simp⟩,λf p w w j=>E f p j⟩;have zn:z.get? J=X/\z.get? F=X/\z.get? G=X:=⟨zz _ (M _ nC),zz _ (M _ nD),zz _ Z⟩
 .refine MF (Dp (Mn z h L J F Rl G cx m cm P N) g d p N) ?_ (N+1) ⟨0,a0,b0,rfl,u0,dN _,rfl⟩;rintro n s ⟨i,H,tk,rfl,u,hi,rfl⟩;by_cases aQ:i<N
  .exact afy r u zc hl hr ne zn ⟨M _ nC,M _ nD,Z⟩ lo hN aQ sz λH' a3 u'=>⟨N+1-(i+1),vj aQ,i+1,H',a3,rfl,u',aQ,rfl⟩
  .have b3:i=N:=vf hi aQ;subst b3;obtain⟨q,Y,ac,lD,b4,hs,hv⟩:=u.ac;obtain⟨mC,n1,n2,n3⟩:=u.nc;refine Xf (s:=⟨H,g,d,tk,p⟩) r.h u.ri (GV) λb5 s1=>⟨mC,n1.extBut s1 IC.1.symm,λt s2=>qq (.ref F) t _ ?_⟩;have px:Px z H t:=(Px.but s1 (λp j=>by have e:=j.symm.trans u.ri;cases e;exact se rfl (by decide)) zn.2.2).trans (Px.but s2.extBut (qp (n1.extBut s1 IC.1.symm) n2 n3) zn.1);obtain⟨⟨_,_,c1⟩,⟨_,c2⟩,c3⟩:(J≠F/\J≠Rl/\J≠G)/\(F≠Rl/\F≠G)/\Rl≠G:=by simpa using ne
   have lk:∀{a vs},a≠G->a≠J->LO H a vs->LO t a vs:=λa1 a2 l=>let⟨n,j⟩:=l;⟨n,s2.extBut _ _ a2 (s1 _ _ a1 j)⟩;exact⟨F,q,Y,ac,rfl,(u.cv.but s1 (λf S=>(lo f S).2.2) zn.2.2).but s2.extBut (λf S=>(lo f S).1) zn.1,lk c3 (by simp at ne;exact fN ne.1.2.1) u.lr,lk c2 (fN CD) lD,b4,hs.px zc px u.cv.bz.e,hv,λf p m1 m2 j=>s2.extBut f p (O j (M _ nC)) (s1 f p (O j Z) (u.fr f p m1 m2 j))⟩
section
variable {k:Nat} {z h H H':Heap} {cx L C D Rl it:Addr} {q:Qd} {Y:Lay} {tp:List Tp} {m cm:Str->Option Value} {N i:Nat} {env:Env}
theorem adi{b j:Expr}{p w:cC}{l:Addr}{items:Array Value}{a:Nat}(B:aO k h (aa b env) (.ref l))(E:aX k h (aa j env) a)(hl:h.IsList l items)(F:items.size<=fv)
  (G:∀o r,me b o r=bj ():=by intro _ _;rfl):Ev k h (aa (.Subscript b (.Slice (W j) X X p) w) env) (λv h'=>∃c,v= .ref c/\LO h' c (items.toList.drop a).toArray):=by
 intro I Z a0 g J tk o r f q;refine WZ (Ev.at B r f λM O n=>?_) G;simp only[xl];refine E I _ M g J O o r (f.trans n) λv s a3 P R=>aV ?_;obtain⟨S,rfl⟩:=R;have t:=n.trans P;refine⟨l,items,W a,X,rfl,ew hl (f.trans t),F,zw _ _,IsPart.none,?_⟩;have T:(s.push {cls:= .type "slice",data:= .fields #[.int (a:Int) S, .none, .none]}).objs.size=s.objs.size+1:=Heap.size_push ..;refine q _ _ _ (t.trans λx ob V=>Heap.get?_push_of_some _ (Heap.get?_push_of_some _ V)) ⟨_,rfl,0,?_⟩;rw[slicePick_from',<-T];exact Heap.get?_push_size _ rfl
inductive Rnd(z h:Heap)(L cx:Addr)(m cm:Str->Option Value)(V:List Pt)(n:Nat)(v:Value)(H:Heap):Prop
 |mk (D:Addr) (q:Qd) (Y:Lay) (tp:List Tp) (e:v= .ref D) (cv:Cv z (dB L) m cm H) (a:LO H D (fK tp)) (hs:Hs z H cx q Y tp) (hl:tp.length=n) (b:jG tp=V) (nx:Nx h H)
theorem akF{u:jF}(R:Cv z (dB L) m cm h)(B:Ctx z cx)(hl:m "left_side"=X)(hr:cm "result"=W (.ref Rl))(F:m "parts_to_merge_count"=W (.int ((2*N:Nat):Int) u))(S:LO h Rl (fK tp))(hs:Hs z h cx q Y tp)
  (j:2*N<=tp.length)(l:tp.length<500):dY 18 h (aa VT (dB L)) (Rnd z h L cx m cm (jG tp) (tp.length-N)):=by
 intro T Q g G V a I Z;refine vJ (akB R B hl hr F S hs j l T _ g G V a I λv a6 a7 M=>?_);obtain⟨D,q',Y',ac,rfl,c,a0,lD,J,a3,hv,nx⟩:=M;refine hY (k:=18) (adi (hZ c (n:="result") hr) (.of (ah c.ns F)) a0.list (by simp only[List.size_toArray,List.length_map];simp only[eO];exact RK l)) I Ext.rfl λv p a4 f a5=>?_;obtain⟨E,rfl,lE⟩:=a5;obtain⟨n1,y1⟩:=lD.keeps f;obtain⟨n2,y2⟩:=lE;refine aaS (s:=⟨p,g,G,a4,a⟩) y1 y2 ?_ (by simp only[List.size_toArray,List.length_map,List.length_drop];simp only[eO];exact(gm 0x10000002fc2b4080a4110fa0be14890950880428444adc8 0x1006a009421004c1080210840008022084a1380260840108421).2 rfl j l J);have t:∀O,Ext p (p.push O):=λO w a x=>Heap.get?_push_of_some _ x;refine Z _ _ _ ⟨_,q',Y',ac++tp.drop (2*N),rfl,c.keeps (f.trans (t _)),⟨0,?_⟩,a3.px B (f.trans (t _)).px c.bz.e,by simp only[List.length_append,List.length_drop];exact(oC 0x3168111482212a110085258e508895b8c8 0x9c21005010802108400080250052108024084200040148028084014042008421000200dc02084200a8370040120024084210002009c01005000a0210042108001004c00ac21004a1080200a420004011002909c01005000a021004210800100700094210040148421).2 (au rfl rfl) j J,hv,λw a m1 m2 x=>(f.trans (t _)) w a (nx w a m1 m2 x)⟩;have e:fK (ac++tp.drop (2*N))=fK ac++((fK tp).toList.drop (2*N)).toArray:=by simp[List.map_drop]
 exact e▸Heap.get?_push_size _ rfl
def Fx(h h':Heap):Prop:=∀c a d,a.cls= .type "range_iterator"->a.data= .fields d->h.get? c=W a->h'.get? c=W a
theorem ajO{A:cT}{g:Array dQ}{d:dT}{tk:Nat}{o:df}{Q:dM->aT->Prop}(a:Cv z (dB L) m cm h)(I:Ctx z cx)(hl:m "left_side"=X)(hr:cm "result"=W (.ref Rl))(J:LO h Rl (fK tp))(hs:Hs z h cx q Y tp)
  (sz:tp.length<500)(r:aU 18 A)
  (qq:∀D q' O l m' a0 h' a6,Cv z (dB L) m' a0 h'->m' "left_side"=X->a0 "result"=W (.ref D)->LO h' D (fK l)->Hs z h' cx q' O l->l.length=tp.length-tp.length/2->jG l=jG tp->Fx h h'->Q .next ⟨h',g,d,a6,o⟩):
  aF (MM) A (bg Hu (dB L)) Q aE ⟨h,g,d,tk,o⟩:=by
 have B:=a.bz.bs;have ez:((fK tp).size:Int)=(tp.length:Int):=by simp
 have e2:(tp.length:Int).fdiv 2*2=((2*(tp.length/2):Nat):Int):=by rw[CN _ (by decide)];exact aii
 refine lJ (x:="parts_to_merge_count") a.ns (lX (i:=(tp.length:Int).fdiv 2) (Na (ez▸qi (v:= .ref Rl) (eY B (by nofun) (by boot_by_name) (by decide)) (hZ a (n:="result") hr) λh' f=>rQ (J.keeps f).list (by simp;exact RH sz)) (ct) (by decide) (by decide)) (ct) (IntMulOk.of_right (by decide))) r λP a7 a3 b6 p R t n2=>?_;obtain⟨u,rfl⟩:=R;rw[e2] at n2;have nL:∃w,a7.Ns L w/\w "_context"=X/\w "left_side"=X:=⟨m,a.ns.keeps p,a.nk,hl⟩;obtain⟨w,a4,a8,a9⟩:=nL;have zL:z.get? L=X:=Heap.get?_none_of_le a.zL;have px:Px z h a3:=p.px.trans (Px.but t.extBut (qp a4 a8 a9) zL);have b0:LO a3 Rl (fK tp):=(J.keeps p).but t (by intro S;obtain⟨o,es,ep,E,h2,h3,h4⟩:=a.ns;obtain⟨nn,j⟩:=J;replace j:=(E)▸(S)▸j;cases j;cases h2);refine ur (x:="result") (akF (N:=tp.length/2) ((a.keeps p).qR t n2 (by exact a.nk)) I (by exact hl) hr rfl b0 (hs.px I px a.bz.e) (by exact aij) sz) (λP E T=>by obtain⟨_,_,_,_,_,c,_⟩:=T;exact c) r λP b1 a5 b2 T V b3=>?_;obtain⟨D,q',O,l,rfl,F,lD,b4,len,R,nx⟩:=T;have b5:Px z b1 a5:=Px.but V.extBut (λo j=>by obtain⟨Z,s,f⟩:=F.cell "result" (L+5) rfl;have:=j.symm.trans s;cases this;exact NU f) (Heap.get?_none_of_le (Nat.le_trans a.zL (Nat.le_add_right L 5)));refine cA (qq D q' O l _ _ a5 b2 b3 (hl) rfl (lD.but V ?_) (b4.px I b5 F.bz.e) len R λG o vs hc hd j=>?_)
 .rintro rfl;obtain⟨Z,s,f⟩:=F.cell "result" (L+5) rfl;obtain⟨nn,j⟩:=lD;have:=j.symm.trans s;cases this;cases f
 .have y1:=p G o j;have y2:=t.extBut G o (by intro S;obtain⟨Z,es,ep,E,h2,h3,h4⟩:=a4;rw[S] at y1;have:=y1.symm.trans E;cases this;replace h2:=(hd)▸h2;cases h2) y1;have y3:=nx G o (qT hc (by decide)).1 (qT hc (by decide)).2 y2;refine V.extBut G o ?_ y3;rintro rfl;obtain⟨Z,s,f⟩:=F.cell "result" (L+5) rfl;have:=y3.symm.trans s;cases this;replace f:=(hd)▸f;cases f
end
theorem ae4{m:Nat}{x:Int}(h:x∈iF m):x=2\/x=3:=by
 rcases fM.mp h with h|h
 .exact .inl (ZC h)
 .exact .inr (ZC h)
theorem VZ(n:Nat)(x:Int):(kJ n x).sum=n*x:=by
 induction n with
 |zero=>simp
 |succ n a=>rw[Kl,ZW,a];push_cast;rw[Int.add_mul];exact(cV 0x8091224a045 1).2
theorem ae5{m:Nat}(h:2<=m):(iF m).sum=m:=by unfold iF;rw[Km,VZ,VZ,JH _ (by decide),CN _ (by decide)];exact air h
theorem FR{m:Nat}(h:2<=m):1<=(iF m).length/\(iF m).length<=m:=by unfold iF;rw[gW,ZO,ZO,JH _ (by decide),CN _ (by decide)];exact ais h
theorem aiJ{ns:List Int}{i:Nat}(h:i<ns.length):cq ns (i+1)=cq ns i+ns[i]:=by unfold cq;rw[List.take_succ_eq_append_getElem h,Km];simp
theorem VA{ns:List Int}(d:∀x∈ns,x=2\/x=3):∀i,i<=ns.length->0<=cq ns i/\cq ns i<=ns.sum:=by
 have nn:∀b:List Int,(∀x∈b,x=2\/x=3)->0<=b.sum:=by
  intro b;induction b with
  |nil=>intro _;exact kE _
  |cons f b g=>intro h;simp only[ZW];have:=h f (by simp);have:=g λx c=>h x (by simp[c]);exact(cV 0x9408010a4010a06141441414e8 0x100460080240002008c0100481).2 ‹_› this
 intro i k;have j:ns.sum=(ns.take i).sum+(ns.drop i).sum:=by rw[<-Km,List.take_append_drop]
 unfold cq;exact(dJ 0x4a0280042650021420010a148124a8 0x8023004810800100461).2 j (nn (ns.take i) λx c=>d x (Di c)) (nn (ns.drop i) λx c=>d x (Dh c))
theorem Vz{ns:List Int}(f:∀x∈ns,x=2\/x=3)(i:Nat)(e:i<ns.length):0<=cq ns i/\cq ns i<=cq ns (i+1)/\cq ns (i+1)<=ns.sum/\(cq ns (i+1)-cq ns i=2\/cq ns (i+1)-cq ns i=3):=by have g:=VA f i (iy e);have h:=VA f (i+1) e;have j:=aiJ e;have k:=f _ (jU e);exact(gj 0x1850919441424653a92132501320010986159441594e85a0492a1490a4010990a40500084c8 0x8821004610800100480090210800008026080010048009021080010052100022084011842000020090012042008001004c1000200900120421000200a421).2 g h j k
theorem ai3{q0:Qd}{S:List (az×Pt)}{ns:List Int}(Q:QE q0.n q0.on)(o:∀x∈ns,x=2\/x=3)(hs:ns.sum<=S.length)(g:S.Pairwise λa b=>lx a.2 b.2):
  ∀i,i<=ns.length->∃ps:List gX,Fs (fV q0 S ns i) ps/\ps.length=i/\(∀j p,ps[j]?=W p->p.l=(sat q0 S ns j).1/\p.r=(sat q0 S ns j).2)/\(ps.map (·.V)).flatten=(S.take (cq ns i).toNat).map (·.2):=by
 intro i;induction i with
 |zero=>intro _;exact⟨[],⟨Q,by simp, .nil, .nil⟩,rfl,by simp,by simp[cq]⟩
 |succ i q=>
  intro h;obtain⟨ps,F,hl,s,k⟩:=q (iy h);obtain⟨o1,o2,o3,o4⟩:=Vz o i h;have t:(fz S ns i).length=2\/(fz S ns i).length=3:=by unfold fz;rw[wj,De];exact ait hs o1 o3 o4
  have u:(fz S ns i).Sublist S:=(Ko ..).trans (ZA ..);have cut:S.take (cq ns (i+1)).toNat=S.take (cq ns i).toNat++fz S ns i:=by have c:(cq ns (i+1)).toNat=(cq ns i).toNat+((cq ns (i+1)).toNat-(cq ns i).toNat):=(OP 0x5244820c2940ca20a50329d09429c94b108618c8 0x1004600042108400004810802008c0008c21004a1080200a42008001004c009c2200001004c009c220040100022084000802208000080240046108001184200942100401b0401000220840008022080000802c004410802509400004016002208401284a008421).2 (au (au rfl rfl) rfl) o4;unfold fz;rw[c,List.take_add];congr 2;exact aiu
  have v:∀a∈ps,∀d f,d∈a.V->f∈(fz S ns i).map (·.2)->lx d f:=by
   intro a w d f hl hr;have z:d∈(S.take (cq ns i).toNat).map (·.2):=by rw[<-k];exact List.mem_flatten.mpr ⟨_,mI w,hl⟩
   obtain⟨x,hx,rfl⟩:=dc.mp z;obtain⟨A,hy,rfl⟩:=dc.mp hr;have:=g.sublist (Ko (cq ns (i+1)).toNat S);simp only[cut] at this;exact(Dj.mp this).2.2 x hx A hy
  obtain⟨al,B⟩:=F.chunk t (g.sublist u) v;refine⟨_,B,by rw[gW,hl];rfl,λj p c=>?_,by simp only[kG,List.flatten_append,k,cut,kG];simp⟩;by_cases m:j<ps.length
  .rw[Ka m] at c;exact s j p c
  .have C:j=ps.length:=by have:=(Dc.mp c).1;simp only[gW,ue] at this;exact QM m this
   subst C;simp only[Kb (bT _),wC] at c;cases c;rw[hl];exact⟨rfl,rfl⟩
noncomputable def hf:Nat->Nat->Nat
 |0,a=>a
 |b+1,a=>hf b (a-a/2)
noncomputable def wY(n:Int):Int:=(pH n:Int)-if(!(zi n (n-1) !=0))=af then 1 else 0
theorem ace:∀n:Nat,n<64->1<=n->hf (wY n).toNat n=1/\0<=wY n/\wY n<10:=by decide+kernel
section
variable {k:Nat} {z h H H':Heap} {cx L C D Rl it:Addr} {q:Qd} {Y:Lay} {tp:List Tp} {m cm:Str->Option Value} {N i:Nat} {env:Env}
theorem uH{j e:Expr}{rest:List Expr}{a:cC}{f:Addr}{P1:List Value->Prop}{P:Value->Heap->Prop}(B:Bs h)(w:aO k h (aa j env) (.ref f))(Y:gT k h env (e::rest) P1)
  (x:∀vs h',P1 vs->Ext h h'->eJ k h' (.call (.ref f) ⟨vs,[]⟩) (λv p=>Ext h' p/\P v p))
  (hk:xy (kf pS) (.ref f)=af)(y:autoParam (aa (.Call j (e::rest) [] a) env=(do dH a (<-aa j env) [] (bG a (aH (e::rest) env)) (bZ a (cf [] env)))) rf)
  (E:autoParam (aH (e::rest) env=(aw,aa e env)::aH rest env) rf)(F:autoParam ((bG a (aH rest env)).any (·.1)=aw) rf):Ev k h (aa (.Call j (e::rest) [] a) env) P:=by
 intro s T V g t tk u l b q;refine(y)▸(aB (Ev.at w l b λG I c=>(mQ (B.keeps (b.trans c)).k hk ?_ E F)));exact Y a s _ G g t I u l (b.trans c) λvs J M n O=>⟨(B.keeps ((b.trans c).trans n)).k,dq (x vs J O ((b.trans c).trans n) s _ g t M u l λv R S hr=>q v R S ((c.trans n).trans hr.1) hr.2)⟩
theorem gM.tr{c:vW}{P:Value->Heap->Prop}(x:gM k h c P):eJ k h c (λv h'=>Ext h h'/\P v h'):=λa b g f j l n q=>x a b h g f j l n Ext.rfl λv h' s t u=>q v h' s ⟨t,u⟩
theorem eJ.le{j:Nat}{c:vW}{P:Value->Heap->Prop}(x:eJ k h c P)(hk:k<=j):eJ j h c P:=λa b g e f l n q=>x a b g e f l (n.le hk) q
inductive Lh(J:Addr->Nat->Heap->Prop)(g:Array dQ)(d:dT)(o:df)(I:Addr)(K:Nat)(n:Nat)(s:aT):Prop
 |mk (i:Nat) (H:Heap) (a:Nat) (e:s=⟨H,g,d,a,o⟩) (ri:iw H I (0+(i:Int)*1) ((K:Int)-i) 1) (b:J I i H) (c:i<=K) (f:n=K+1-i)
theorem abE{A:cT}{g:Array dQ}{d:dT}{tk:Nat}{o:df}{Q:dM->aT->Prop}{x:Str}{p1 a5:cC}{V:Expr}{body rest:List cQ}{K:Nat}(B:Addr->Nat->Heap->Prop)
  (a6:Ev k h (aa V env) (λv h'=>∃r t u v',v= .ref r/\CV h' r 0 (K:Int) 1 t u v'))(r:aU k A)(hK:K<100000)
  (a7:∀c h',Ext h h'->h.get? c=X->B c 0 h')
  (nm:∀c i H,B c i H->env.locals≠c/\∃m,H.Ns env.locals m)
  (a8:∀c i H l F tk v (R:dM->aT->Prop),h.get? c=X->i<K->B c i H->z.get? c=X->(∀p,H.get? c=W p->¬GK p)->Heap.SameBut c H l->Heap.SameBut env.locals l F->(∀m,H.Ns env.locals m->F.Ns env.locals (λy=>if y=x then W v else m y))->(∃a b,iw F c a b 1)->
   (∀h' Z,(∀a b,iw F c a b 1->iw h' c a b 1)->B c (i+1) h'->R .next ⟨h',g,d,Z,o⟩)->aF (MM) A (bg body env) R aE ⟨F,g,d,tk,o⟩)
  (done:∀c H l tk,h.get? c=X->B c K H->z.get? c=X->(∀p,H.get? c=W p->¬GK p)->Heap.ExtBut c H l->aF (MM) A (bg rest env) Q aE ⟨l,g,d,tk,o⟩)
  (zh:Ext z h)(hx:autoParam (env.kindOf x=W .local) rf)
  (hp:autoParam ((env.scope.kind== .class||(env.scope.kind== .module&&env.locals !=env.globals))=aw) rf)(hs:∀x,xr V env x=bj x:=by intro _;rfl):
  aF (MM) A (bg (.For (.Name x p1) V body [] a5::rest) env) Q aE ⟨h,g,d,tk,o⟩:=by
 refine de (WY (hY a6 r Ext.rfl λv G a9 P hv=>?_) hs);obtain⟨ra,t1,t2,t3,rfl,b0⟩:=hv;refine HU (s:=⟨G,g,d,a9,o⟩) b0 (kv hK) ?_;rw[BL];have S:Ext G (G.push {cls:= .type "range_iterator",data:= .fields #[fu 0,fu K,fu 1]}):=λb p y=>Heap.get?_push_of_some _ y;have M:iw (G.push {cls:= .type "range_iterator",data:= .fields #[fu 0,fu K,fu 1]}) G.objs.size 0 K 1:=Heap.get?_push_size _ rfl;have O:=ft P (Heap.get?_none_of_le (Nat.le_refl _));generalize (G.push {cls:= .type "range_iterator",data:= .fields #[fu 0,fu K,fu 1]})=a0 at S M⊢;generalize G.objs.size=c at M O⊢;have zI:=ft zh O;refine acj (Lh B g d o c K) ?_ (K+1) ⟨0,a0,_,rfl,by simpa using M,a7 c a0 (P.trans S) O,Nat.zero_le _,rfl⟩;rintro n s ⟨i,H,tk,rfl,M,j,hi,rfl⟩;have gI:∀p,H.get? c=W p->¬GK p:=λo y=>by have e:=y.symm.trans M;cases e;exact se rfl (by decide)
 by_cases aQ:i<K
 .obtain⟨nL,m,ns⟩:=nm c i H j;refine Xg (s:=⟨H,g,d,tk,o⟩) M (RA aQ) λl a3 T=>qZ (fw (env:=env) hx (ns.sameBut T nL) (λF n4 s4=>?_) hp);refine bJ (E:=aE) (a8 c i H l F _ _ (λf a4=>f= .next/\∃m,m<K+1-i/\Lh B g d o c K m a4) O aQ j zI gI T s4 (λm' b1=>by have:m'=m:=Pk b1 ns;subst this;exact n4) ⟨_,_,s4.extBut _ _ nL.symm a3⟩ λh' Z fx j'=>⟨rfl,K+1-(i+1),vj aQ,i+1,h',Z,rfl,?_,j',aQ,rfl⟩) (λf a4 hf=>by obtain⟨rfl,h⟩:=hf;exact h) λw w z=>z.elim
  .have P:(0:Int)+((i+1:Nat):Int)*1=0+(i:Int)*1+1:=by push_cast;exact Qi
   have S:(K:Int)-((i+1:Nat):Int)=(K:Int)-(i:Int)-1:=by push_cast;exact GW
   exact(P)▸(S)▸(fx _ _ (s4.extBut _ _ nL.symm a3))
 .have b2:i=K:=vf hi aQ;subst b2;exact Xf (s:=⟨H,g,d,tk,o⟩) r.h M (GV) λl T=>cA (done c H l _ O j zI gI T)
inductive RJ(z:Heap)(cx L:Addr)(V:List Pt)(K:Nat)(I:Addr)(i:Nat)(H:Heap):Prop
 |mk (m cm:Str->Option Value) (Rl:Addr) (q:Qd) (Y:Lay) (tp:List Tp) (cv:Cv z (dB L) m cm H) (hl:m "left_side"=X) (hr:cm "result"=W (.ref Rl)) (a:LO H Rl (fK tp)) (b:Rl≠I) (lo:∀x,(x=L\/∃n,(n,x)∈(dB L).cells)->x≠I) (hs:Hs z H cx q Y tp)
  (sz:tp.length<64) (c:1<=tp.length) (hz:hf (K-i) tp.length=1) (d:jG tp=V)
theorem LO.ne{a b:Addr}{vs:Array Value}(l:LO h a vs)(n:h.get? b=X):a≠b:=by rintro rfl;obtain⟨nn,y⟩:=l;rw[n] at y;cases y
theorem LO.mh{a:Addr}{vs:Array Value}(l:LO h a vs)(b:Cv z (dB L) m cm h):a≠L:=by rintro rfl;obtain⟨c,d,e,h1,h2,_⟩:=b.ns;obtain⟨nn,y⟩:=l;have:=y.symm.trans h1;cases this;cases h2
theorem ajP{A:cT}{g:Array dQ}{d:dT}{tk:Nat}{o:df}{R:dM->aT->Prop}{V:List Pt}{K:Nat}{t c:Heap}{x:Str}{v:Value}(w:Ctx z cx)(r:aU 18 A)(u:RJ z cx L V K it i H)(B:x≠"_context"/\x≠"left_side")(M:i<K)(E:z.get? it=X)(O:∀F,H.get? it=W F->¬GK F)(f:Heap.SameBut it H t)(j:Heap.SameBut L t c)
  (ns:∀m,H.Ns L m->c.Ns L (λy=>if y=x then W v else m y))(l:∃a b,iw c it a b 1)
  (P:∀h' n,(∀a b,iw c it a b 1->iw h' it a b 1)->RJ z cx L V K it (i+1) h'->R .next ⟨h',g,d,n,o⟩):
  aF (MM) A (bg Hu (dB L)) R aE ⟨c,g,d,tk,o⟩:=by
 obtain⟨m,cm,Rl,q,Y,tp,cv,hl,hr,G,Q,lo,hs,sz,s1,hz,S⟩:=u;have T:=Heap.get?_none_of_le cv.zL;have Z:=cv.ns.sameBut f (lo L (.inl rfl));have px:=(Px.but f.extBut O E).trans (Px.but j.extBut (qp Z cv.nk hl) T);have a0:=(cv.but f.extBut lo E).qR j (ns m cv.ns) (by simp only[if_neg B.1.symm];exact cv.nk);refine ajO a0 w (by simp only[if_neg B.2.symm];exact hl) hr ((G.but f Q).but j (G.mh cv)) (hs.px w px cv.bz.e) (Nat.le_trans sz (by decide)) r λD q' Y' a3 m' a4 h' n a5 a6 a7 I a8 p a9 fx=>?_;have J:∀a b,iw c it a b 1->iw h' it a b 1:=λa b y=>fx _ _ _ rfl rfl y;have ek:K-i=(K-(i+1))+1:=(gm 0x42b12888489010a4485b928538c8 0x9021004a108001384200882108001004c009421004a108001004800802800441084200046108001).2 (au rfl rfl) M;rw[ek] at hz;refine P h' n J ⟨m',a4,D,q',Y',a3,a5,a6,a7,I,?_,lo,a8,aix sz p,aiy s1 p,by rw[p];exact hz,a9.trans S⟩;rintro rfl;obtain⟨a,b,l⟩:=l;obtain⟨nn,y⟩:=I;have s:=y.symm.trans (J _ _ l);injection s with s;have:=congrArg Obj.data s;cases this
theorem ajQ{A:cT}{g:Array dQ}{d:dT}{tk:Nat}{o:df}{Q:dM->aT->Prop}{rest:List cQ}(b:Cv z (dB L) m cm h)(G:Ctx z cx)(hl:m "left_side"=X)(hr:cm "result"=W (.ref Rl))(j:LO h Rl (fK tp))(hs:Hs z h cx q Y tp)
  (J:tp.length<64)(T:1<=tp.length)(r:aU 18 A)
  (qq:∀D q' Y' x m' Z h' a3,Cv z (dB L) m' Z h'->Z "result"=W (.ref D)->LO h' D (fK [x])->Hs z h' cx q' Y' [x]->x.2.V=jG tp->aF (MM) A (bg rest (dB L)) Q aE ⟨h',g,d,a3,o⟩):
  aF (MM) A (bg (VS::rest) (dB L)) Q aE ⟨h,g,d,tk,o⟩:=by
 have l:=b.bz.bs;have ez:((fK tp).size:Int)=(tp.length:Int):=by simp
 obtain⟨c1,c2,c3⟩:=ace tp.length J T;generalize hK:(wY tp.length).toNat=t at c1;have eK:wY tp.length=(t:Int):=aiv c2 hK;refine abE (k:=18) (K:=t) (z:=z) (RJ z cx L (jG tp) t) (eK▸EO (eY l (by nofun) (by boot_by_name) (by decide)) (uH (f:=432) (P1:=λM=>∃a,M=[.int tp.length a]) l (cB l (by nofun)) ?_ (λM h' p c=>by obtain⟨a,rfl⟩:=p;exact(acf (l.keeps c)).le (by decide)) (by nofun))) r (aiw c3 hK)
  (λO h' c w=>⟨m,cm,Rl,q,Y,tp,b.keeps c,hl,hr,j.keeps c,j.ne w,λx hx=>?_,hs.px G c.px b.bz.e,J,T,c1,rfl⟩) (λO i H a=>?_) (λO i H a0 a5 tk E R w hi a F S s s4 ns ri nx=>ajP G r a (by decide) hi F S s s4 ns ri nx) (λO H a0 tk w a F S s=>?_) b.bz.e
 .refine gT.imp (eM (P:=λE=>∃a,E= .int tp.length a) (ez▸qi (v:= .ref Rl) (eY l (by nofun) (by boot_by_name) (by decide)) (hZ b (n:="result") hr) λh' c=>rQ (j.keeps c).list (by simp;exact Nat.le_trans J (by decide))) lU) λM p=>?_;obtain⟨E,rs,rfl,⟨a,rfl⟩,rfl⟩:=p;exact⟨a,rfl⟩
 .obtain⟨ob,y⟩:=b.at hx;rintro rfl;replace y:=(w)▸y;cases y
 .obtain⟨m,cm,_,_,_,_,b,_,_,_,_,lo,_⟩:=a;exact⟨lo L (.inl rfl),m,b.ns⟩
 .obtain⟨m,cm,Rl,q,Y,a4,b,hl,hr,j,RI,lo,hs,_,_,z3,p⟩:=a;rw[Nat.sub_self] at z3;obtain⟨x,rfl⟩:∃x,a4=[x]:=List.length_eq_one_iff.mp z3;obtain⟨nn,y⟩:=j;exact qq Rl q Y x m cm a0 _ (b.but s lo F) hr ⟨nn,s _ _ RI y⟩ (hs.px G (Px.but s S F) b.bz.e) (by rw[<-p];simp[jG])
end
structure Dn(z h:aK)(a t d:az)(q:Qd)(Y:Lay)(p:gX):Prop where
 bz:Bz z h
 jJ:Y.ctx=a
 G:Gx z h Y q
 T:cX h t d (.ref a) (.ref (Y.ad p.l)) (.ref (Y.ad p.r))
 qe:QE q.n q.on
 tr:Wg q.n q.on q.P p.al p.V p.l p.r
inductive YH(z:aK)(c:az)(V:List (az×Pt))(v:aq)(h:aK):Prop
 |mk (b d:az) (f:Qd) (g:Lay) (p:gX) (e:v= .ref b) (D:Dn z h c b d f g p) (sz:p.V.length<60) (mem:∀a,a∈p.V↔a∈V.map (·.2))
theorem Cw:∀{ts:List (az×az)} {ps:List gX},ps.length=ts.length->(ts.zip ps).map (·.1)=ts/\(ts.zip ps).map (·.2)=ps
 |[],[],_=>⟨rfl,rfl⟩
 |a::ts,b::ps,h=>by have:=Cw (ts:=ts) (ps:=ps) (by simpa using h);simp[this.1,this.2]
theorem Pj.hs{z H:aK}{c:az}{Y:Lay}{N:Nat}{S:List (az×Pt)}{ns:List Int}{ts:List (az×az)}{q0:Qd}{ps:List gX}(P:Pj z H c q0 S ns N Y ts)(g:Fs (fV q0 S ns N) ps)(h:N<=2)(hl:ps.length=N)(d:∀j p,ps[j]?=W p->p.l=(sat q0 S ns j).1/\p.r=(sat q0 S ns j).2):
  Hs z H c (fV q0 S ns N) Y (ts.zip ps):=by
 have f:∀x,x∈ts.zip ps->∃j:Nat,ts[j]?=W x.1/\ps[j]?=W x.2:=λx a=>by obtain⟨j,i,b⟩:=uf.mp a;rw[Kf] at i;rw[ZK] at b;subst b;exact⟨j,nR _,nR _⟩
 refine⟨P.jJ,P.G,by simp only[(Cw (ts:=ts) (ps:=ps) (by simp only[hl,P.len])).2];exact g.fo (hl▸h),λx a=>?_,λx a=>?_,?_⟩
 .obtain⟨j,e1,e2⟩:=f x a;simp only[(d j _ e2).1,(d j _ e2).2];exact(P.cZ j _ e1).1
 .obtain⟨j,e1,e2⟩:=f x a;exact(P.cZ j _ e1).2
 .have:(ts.zip ps).map (·.1.2)=ts.map (·.2):=by have b:=congrArg (Kg KU) (Cw (ts:=ts) (ps:=ps) (by simp only[hl,P.len])).1;rw[wo] at b;exact b
  simp only[this];exact P.nd
theorem eJ.imp(x:eJ k h c P)(hk:k<=j)(f:∀v h',P v h'->R v h'):eJ j h c R:=λa R g b e i l m=>x a R g b e i (l.le hk) λv h' n s=>m v h' n (f v h' s)
noncomputable def Y0(b:az):Lay:=⟨λa=>0,λa=>0,λa=>(0,0,0,0),b,λa=> .none⟩
noncomputable def yc:Qd:=⟨0,id,λa=>(0,0)⟩
theorem gx0(c:Ctx h d):Gx z h (Y0 d) yc:=
 ⟨⟨⟨λb a=>absurd a (fT _),λb a=>absurd a (fT _),λb a=>absurd a (fT _),rfl,λb e a=>absurd a (fT _),λb e a=>absurd a (fT _),λf=>rfl⟩,λb a=>absurd a (fT _)⟩,
  ⟨λb a=>absurd a (fT _)⟩,c,λb a=>absurd a (fT _)⟩
theorem qe0:QE yc.n yc.on:=⟨rfl,λb a=>absurd a (fT _),λb a=>absurd a (fT _),λb a=>absurd a (fT _)⟩
theorem aeg{vs:List aq}{ns:List Int}(p:iQ vs ns):vs.length=ns.length:=by
 induction p with
 |nil=>rfl
 |cons _ _ _ a=>exact congrArg (·+1) a
def Ck(h h':aK)(c:az):Prop:=(∃a b,h.get? c=W a/\a.data= .cell b)/\vX c h h'
theorem Ck.keep(x:Ck h H c)(a:∀v,o.data≠ .cell v)(y:h.get? b=W o):H.get? b=W o:=by obtain⟨⟨f,v,d,e⟩,s⟩:=x;refine s b o ?_ y;rintro rfl;have:=y.symm.trans d;cases this;exact a _ e
theorem Cv.uw(C:Cv z env m e H)(a:dE c H h)(b:env.cells.lookup n=W c):Ck H h c:=
 ⟨(C.cell n c b).imp λx d=>⟨_,d⟩,a.extBut⟩
theorem Cv.zc(C:Cv z env m b h)(a:env.cells.lookup n=W c):z.get? c=X:=jq (iy (Dr C.zL (C.above n c (mem_of_lookup a))))
theorem LO.ck(l:LO h a vs)(k:Ck h H c):LO H a vs:=l.imp λb=>k.keep λb d=>by cases d
theorem bN.ck(l:bN h a x y)(k:Ck h H c):bN H a x y:={l with ex:=let⟨b,v,n,y⟩:=l.ex;⟨b,v,n,k.keep (λf d=>by cases d) y⟩}
theorem Zm(l:cU h a vs)(k:Ck h H c):cU H a vs:=let⟨f,y,b,n,d⟩:=l;⟨f,k.keep (λg b=>by replace b:=(d)▸b;cases b) y,b,n,d⟩
theorem Ck.px(k:Ck h H c)(a:z.get? c=X):Px z h H:=by obtain⟨⟨d,v,y,e⟩,s⟩:=k;exact Px.but s (λf b=>by have:=y.symm.trans b;cases this;exact NU e) a
theorem aeV{n:Nat}(h:n<=6):(iF n).length<=2:=(by decide:∀a:Fin 7,(iF a.1).length<=2) ⟨n,uj h⟩
theorem acz{h:aK}{cx la:az}{V:List (az×Pt)}(B:Bs h)(hl:h.IsList la (refs V))(hp:iU h V)(hz:V.length<60)(R:2<=(cR V).length)(h6:(cR V).length<=6)(c:Ctx h cx):
  zU 20 h (.call (.ref 451) ⟨[.ref 488, .ref la],[("context", .ref cx)]⟩) (YH h cx V):=by
 refine WI (k:=19) (fd:=xp) (body:=Es) (binds:=[("cls", .ref 488),("points", .ref la),("context", .ref cx)]) B (abf _) rfl (λM M M M M M=>eR rfl) rfl
  (λJ=>by rfl) rfl rfl rfl rfl λb3 e1 cv A g d tk o Q r ab qq=>?_
 have B1:=B.keeps e1;have dl:=Dr (Ew V) hz;refine mS ?_;have a0:aU 18 A:=r.le (by decide);refine ur (x:="points") (k:=18) (P:=λq C=>Ext b3 C/\∃I L',q= .ref I/\L'.Perm (cR V)/\L'.Pairwise (λa b=>lx a.2 b.2)/\LO C I (refs L')) ?_ (λq h1 j=>cv.keeps j.1) a0 λq c4 a7 c5 j b4 a4=>?_
 .refine dY.BA (ED (P1:=λq C=>∃I,q= .ref I/\LO C I (refs (cR V))) (eY B1 (by nofun) (by boot_by_name) (by decide)) (uH (f:=439) (P1:=λE=>E=[.ref la]) B1 (cB B1 (by nofun)) (kb (hZ cv (n:="points") rfl)) (λE C j w=>?_) (by nofun)) λq C w j=>?_)
  .subst j;exact(acC (B1.keeps w) (ew hl (e1.trans w)) (hp.keeps (e1.trans w)) (QY hz)).imp (by decide) λq c6 j=>⟨j.1,j.2.imp λM y=>⟨y.1,y.2.2⟩⟩
  .obtain⟨I,rfl,l⟩:=j;exact(ab0 (B1.keeps w) l.list (λx hx=>(hp x (uB hx)).keeps (e1.trans w)) (Ex V) R (QY dl)).imp (by decide) λq C M p=>p
 obtain⟨e2,Sl,S,rfl,perm,so,lS⟩:=j;have H:=perm.length_eq;have a8:=(cv.keeps e2).uw b4 (n:="points") rfl;have a9:=lS.ck a8;have p3:iU a7 S:=λx hx=>((hp x (uB (perm.mem_iff.mp hx))).keeps (e1.trans e2)).ck a8;have B3:=a4.bz.bs;have ez:((refs S).size:Int)=(S.length:Int):=by simp
 refine ur (x:="lengths") (k:=18) (P:=λq C=>Ext a7 C/\∃I E,q= .ref I/\cU C I (nU E)/\iQ E (iF S.length)) ?_ (λq h1 j=>a4.keeps j.1) a0 λq c7 c8 c9 j b5 b0=>?_
 .refine dY.BA (uH (f:=272) (P1:=λE=>∃T dv,E=[.int S.length T,dv]) B3 (cB B3 (by nofun)) ?_ (λE C j w=>?_) (by nofun))
  .refine gT.imp (eM (P:=λq=>∃T,q= .int S.length T) (ez▸qi (v:= .ref Sl) (eY B3 (by nofun) (by boot_by_name) (by decide)) (hZ a4 (n:="points") rfl) λC w=>rQ (a9.keeps w).list (by simp;exact(dz 0x8000000000000000df85024a0880f05f0a448 0x12042008421).2 dl H)) (kb (cB (v:= .ref 542) B3 (by nofun)))) λE j=>?_;obtain⟨q,rs,rfl,⟨T,rfl⟩,rfl⟩:=j;exact⟨T,_,rfl⟩
  .obtain⟨T,dv,rfl⟩:=j;exact(acm (B3.keeps w) (sW R H) (QZ dl H)).le (by decide)
 obtain⟨e4,tl,E,rfl,tt,iv⟩:=j;have a5:=(a4.keeps e4).uw b5 (n:="lengths") rfl;have vl:=aeg iv;have hn:=λx=>ae4 (m:=S.length) (x:=x);have sm:=ae5 (m:=S.length) (sW R H);refine de (oU (value:=qh) ?_ rfl);refine akD (S:=S) (vs:=E) (ns:=iF S.length) (q0:=yc) (Y0:=Y0 cx) a0 ab b0 c rfl rfl rfl rfl (Zm tt a5) iv ((a9.keeps e4).ck a5) (λx hx=>((p3 x hx).keeps e4).ck a5) (gx0 (c.keeps b0.bz.e)) rfl ((dz 0x7d02f85024a0880f05f0a448 0x12042008421).2 dl H) ((gm 0x7d05f0a04a58161080c85a0884a8880f05f0a448 0x40118029084013046008c21).2 dl H vl (FR (m:=S.length) (sW R H)))
  (λi hi=>by simp only[vl] at hi;have:=Vz hn i hi;simp only[sm] at this;exact this) λI b6 b1 b7 Y O b8 Z lD d0 p6 N=>?_
 obtain⟨ps,F,pl,pe,pv⟩:=ai3 (q0:=yc) (S:=S) qe0 hn (nO sm) so (iF S.length).length (bT _);replace N:=(vl)▸N;have zz:=Cw (ts:=O) (ps:=ps) (by simp only[pl,N.len]);refine Xi (s:=⟨b6,b1,d,b7,o⟩) rfl rfl rfl (Z.cell "result" _ rfl) λb9 c0 a6=>?_;have lR:LO b9 I (fK (O.zip ps)):=by
  have w:fK (O.zip ps)=(O.map λt:az×az=>cM t.1).toArray:=by have:=congrArg (Kg λt:az×az=>cM t.1) zz.1;rw[wo] at this;exact congrArg nU this
  simp only[w];exact lD.ck (Z.uw a6 (n:="result") rfl)
 have lz:(O.zip ps).length=(iF S.length).length:=by simp only[Kf,pl,N.len,Nat.min_self]
 refine ajQ (Z.HB (n:="result") rfl a6 c0) c rfl rfl lR ((N.hs F (aeV (H▸h6)) pl pe).px c ((Z.uw a6 (n:="result") rfl).px (Z.zc (n:="result") rfl)) Z.bz.e) ((gm 0x1005f0a04b4110a58161080c84a8880f05f0a448 0x4011802908401304a008421).2 dl H (FR (m:=S.length) (sW R H)) lz) ((fq 0x8084094110a48121080c8 0x10842008825).2 (FR (m:=S.length) (sW R H)) lz) a0 λRl q' Y' x m' d1 d2 d3 b2 hr c1 a3 xv=>fL (h₀:=h) (L:=0) (m:=λM=>X) (k:=18) (qj (hZ b2 (n:="result") hr) (ct) c1.list (i:=0) rfl (by decide) rfl) a0 λq c2 c3 e9 j=>?_;subst j;have av:jG (O.zip ps)=S.map (·.2):=by
  have w:cq (iF S.length) (iF S.length).length=S.length:=by unfold cq;rw[zG];exact sm
  simp only[w,Int.toNat_natCast,zG] at pv;simp only[<-pv];have:=congrArg (Kg (·.V)) zz.2;rw[wo] at this;exact congrArg List.flatten this
 refine qq _ c2 b1 c3 b8 ⟨x.1.1,x.1.2,q',Y',x.2,rfl,⟨b2.bz.keeps e9,a3.jJ,a3.G.keeps e9,(a3.cZ x (by simp)).keeps e9,a3.fo.qe,a3.fo.wk _ (by simp)⟩,?_,λa=>?_⟩ _ rfl
 .simp only[xv,av,cO];exact QZ dl H
 rw[xv,av,(perm.map _).mem_iff];exact⟨λh=>let⟨y,hy,w⟩:=dc.mp h;dc.mpr ⟨y,uB hy,w⟩,λh=>let⟨y,hy,w⟩:=dc.mp h;w▸xc hy⟩
noncomputable def jO(on:Nat->Nat)(e:Nat):List Nat:=[on e,gh on e,aZ on e,jz on e]
inductive BR(on:Nat->Nat):List Nat->List Nat->List Nat->Prop
 |done {a}:BR on [] a []
 |skip {q e a b}:e∈a->BR on q a b->BR on (q++[e]) a b
 |take {q e a b}:e∉a->BR on (q++jO on e) (a++[e,U e]) b->BR on (q++[e]) a (e::b)
theorem filter_le{e:Type}{p r:e->Bool}:∀{l:List e},(∀x,r x=af->p x=af)->(l.filter r).length<=(l.filter p).length
 |[],_=>bT _
 |b::l,h=>by
  have:=filter_le (l:=l) h;by_cases d:r b=af
  .rw[ub d,ub (h b d)];exact KQ this
  .rw[zB d];by_cases f:p b=af
   .rw[ub f];exact KD this
   .rw[zB f];exact this
theorem filter_lt{b:Type}{p r:b->Bool}{x:b}:∀{l:List b},(∀x,r x=af->p x=af)->x∈l->p x=af->r x=aw->(l.filter r).length<(l.filter p).length
 |d::l,h,e,g,hr=>by
  rcases cP.mp e with rfl|e
  .rw[ub g,zB (by rw[hr];decide)];exact uj (filter_le h)
  .have:=filter_lt h e g hr;by_cases f:r d=af
   .rw[ub f,ub (h d f)];exact Nat.succ_lt_succ this
   .rw[zB f];by_cases i:p d=af
    .rw[ub i];exact aar this
    .rw[zB i];exact this
theorem Part.nb(A:Part n on P al V)(Q:QE n on)(h:al e):∀x,x∈jO on e->al x:=by
 intro x a;have b:=A.op e h;have hl:al (gh on e):=by simp only[Q.xF (A.lt e h)];exact A.bk _ b
 have c:=A.jI b;simp only[jO,cP,kH,or_false] at a;rcases a with rfl|rfl|rfl|rfl
 .exact A.jI h
 .exact hl
 .exact A.bk _ h
 .exact c
noncomputable def todo(P:Nat->Pt)(V:List Pt)(vs:List Nat):Nat:=((V.flatMap λd=>V.map λf=>(d,f)).filter λx=>decide (∀c∈vs,(P c,P (U c))≠x)).length
theorem aky:todo P V []<=V.length*V.length:=by
 refine eT (ZN _ _) (rD ?_);have:∀c:List Pt,(c.flatMap λd=>V.map λe=>(d,e)).length=c.length*V.length:=by
  intro c;induction c with
  |nil=>simp
  |cons d c f=>simp only[CZ,gW,f,cO,jD,aaC,aac]
 exact this V
theorem Part.key(A:Part n on P al V)(a:al i)(f:al j)(e:(P i,P (U i))=(P j,P (U j))):i=j:=by
 have g:P i=P j:=congrArg zK e;have h:P (U i)=P (U j):=congrArg KU e;by_cases b:i=j
 .exact b
 .have d:=A.un a f g.symm b;rw[<-h] at d;exact(d.hr (ajw (A.ne a))).elim
theorem abP{n:Nat}{on:Nat->Nat}{P:Nat->Pt}{al:Nat->Prop}{V:List Pt}(A:Part n on P al V)(Q:QE n on):∀(k:Nat) (q vs:List Nat),5*todo P V vs+q.length<=k->(∀e∈q,al e)->(∀e∈vs,al e)->∃ys,BR on q vs ys/\ys.length<=todo P V vs:=by
 intro k;induction k with
 |zero=>intro q vs h _ _;have:q=[]:=ZL.mp ((dz 0xa0800a12520808 0x802e2042108001005c1).2 h);subst this;exact⟨[], .done,dN _⟩
 |succ k o=>
  intro q vs h p g;rcases List.eq_nil_or_concat q with rfl|⟨i,e,rfl⟩
  .exact⟨[], .done,dN _⟩
  .rw[List.concat_eq_append] at*;simp only[gW,ue] at h;have d:=p e (by simp);have r:∀x∈i,al x:=λx a=>p x (by simp[a]);by_cases j:e∈vs
   .obtain⟨ys,b,l⟩:=o i vs (pK h) r g;exact⟨ys, .skip j b,l⟩
   .have s:todo P V (vs++[e,U e])<todo P V vs:=by
     refine filter_lt (x:=(P e,P (U e))) (λx a=>?_) ?_ ?_ ?_
     .have:=of_decide_eq_true a;exact decide_eq_true λm f=>this m (by simp[f])
     .exact zE.mpr ⟨_,A.vt e d,dc.mpr ⟨_,A.vo d,rfl⟩⟩
     .exact decide_eq_true λm f t=>j (A.key (g m f) d t▸f)
     .exact decide_eq_false λh=>h e (by simp) rfl
    obtain⟨ys,b,l⟩:=o (i++jO on e) (vs++[e,U e]) (by rw[gW];have:(jO on e).length=4:=rfl;exact(oC 0x5a922414820102a2218812021588214898520808 0x23084012842028c21).2 h s this)
     (λx a=>by exact(fM.mp a).elim (r x) (A.nb Q d x))
     (λx a=>by
      rcases fM.mp a with h|h
      .exact g x h
      .simp only[cP,kH,or_false] at h;rcases h with rfl|rfl
       .exact d
       .exact A.op _ d)
    exact⟨e::ys, .take j b,by simp only[jD];exact(fj (uj l) s)⟩
noncomputable abbrev both(ys:List Nat):List Nat:=ys.flatMap λa=>[a,U a]
theorem BR.ok(b:BR on q vs ys):(∀e∈q,e∈vs++both ys)/\(∀e∈ys,∀x,x∈jO on e->x∈vs++both ys):=by
 induction b with
 |done=>exact⟨λe h=>(by cases h),λe h=>(by cases h)⟩
 |@skip q e vs ys h b c=>
  refine⟨λx a=>?_,c.2⟩;rcases fM.mp a with a|a
  .exact c.1 x a
  .simp only[gb.mp a];exact iT _ h
 |@take q e vs ys h b c=>
  have d:∀x,x∈vs++[e,U e]++both ys->x∈vs++both (e::ys):=λx a=>by simp only[Zv] at a⊢;exact a
  refine⟨λx a=>?_,λg f x a=>?_⟩
  .rcases fM.mp a with a|a
   .exact d x (c.1 x (iT _ a))
   .simp only[gb.mp a];simp[both]
  .rcases cP.mp f with rfl|f
   .exact d x (c.1 x (lC _ a))
   .exact d x (c.2 g f x a)
theorem BR.al{on:Nat->Nat}{al:Nat->Prop}(b:BR on q vs ys)(i:∀e,al e->∀x,x∈jO on e->al x):(∀e∈q,al e)->∀e∈ys,al e:=by
 induction b with
 |done=>exactλk e h=>by cases h
 |skip h b f=>exactλc=>f λe d=>c e (iT _ d)
 |@take q e vs ys h b f=>
  intro c j g;have d:=c e (by simp);rcases cP.mp g with rfl|g
  .exact d
  .refine f (λx a=>?_) j g;rcases fM.mp a with a|a
   .exact c x (iT _ a)
   .exact i e d x a
theorem BR.nd(b:BR on q vs ys)(c:∀e∈vs,U e∈vs):(both ys).Nodup/\∀e,e∈both ys->e∉vs:=by
 induction b with
 |done=>exact⟨.nil,λe h=>(by cases h)⟩
 |skip h b d=>exact d c
 |@take q e vs ys h b d=>
  have g:∀x,x∈vs++[e,U e]->U x∈vs++[e,U e]:=λx a=>by
   rcases fM.mp a with a|a
   .exact iT _ (c x a)
   .simp only[cP,kH,or_false] at a;rcases a with rfl|rfl
    .simp
    .simp[cg]
  obtain⟨i,j⟩:=d g;have k:U e∉vs:=λl=>h (by have:=c _ l;rwa [cg] at this);have f:∀x,x∈both ys->x≠e/\x≠U e/\x∉vs:=λx a=>by have:=j x a;simp only[fM,cP,kH,or_false,not_or] at this;exact⟨this.2.1,this.2.2,this.1⟩
  refine⟨?_,λx a=>?_⟩
  .simp only[both,CZ,Zx,ZR,lF,cP,not_or];exact⟨⟨(Hj e).symm,λh=>(f _ h).1 rfl⟩,λh=>(f _ h).2.1 rfl,i⟩
  .simp only[both,CZ,Zx,ZR,cP] at a;rcases a with rfl|rfl|a
   .exact h
   .exact k
   .exact(f x a).2.2
theorem Ht(p:h.get? a=W (dy 414 b)):eS (MM) h (kY (.ref a)) (.ref 414):=(pI p).andThen .now
theorem VP(B:Bs h)(p:h.get? a=W (dy 414 G))(n:h.get? b=W (dy 414 H))(r:a≠b)(q:Q X ⟨h,g,d,tk,o⟩):
  aF (MM) A (HN (.ref a) "__eq__" (.ref b)) Q aE ⟨h,g,d,tk,o⟩:=by
 have u:aF (MM) A (eU (.builtin "object.__eq__") [.ref a, .ref b]) (λc f=>c= .notImplemented/\f=⟨h,g,d,tk,o⟩) aE ⟨h,g,d,tk,o⟩:=by
  refine dq (oi KY.eq.plain PySem.F.cmpEntry_eq ?_);have t:=PySem.F.cmpArgs_eq (.ref a) (.ref b);simp only[PySem.F.cmpKind_eq,PySem.F.cmpSplit_eq];refine aB ((show eS (MM) h (uO (.ref a) (.type "object")) af from((pI p).andThen .now:eS (MM) h (kY (.ref a)) (.ref 414)).andThen (looks_mroIn B.k (by nofun))).at (cW rfl ?_));cases w:Kr "object.__eq__" with
  |none=>exact aV (aiI (s:=⟨h,g,d,tk,o⟩) r p n (by intro j;cases j) ⟨rfl,rfl⟩)
  |some sg=>simp only[wR,w] at t;have x:=t;simp only[x];exact aV (aiI (s:=⟨h,g,d,tk,o⟩) r p n (by intro j;cases j) ⟨rfl,rfl⟩)
 unfold HN;refine aB (m:=DZ (.ref a) "__eq__" [.ref b]) (bJ (Q:=λc f=>c=W .notImplemented/\f=⟨h,g,d,tk,o⟩) (E:=aE) ?_ (λc f C=>?_) λl l D=>D)
 .simp only[DZ];refine eH (aB (aB (aB ((Ht p).at ((su (M:=MM) B.k (show jK (kf pS) (.ref 414) "__eq__"=W (W (.builtin "object.__eq__")) by nofun)).at (aB (ak3 (Xe ?_))))))));have fin:aF (MM) A (eU (.builtin "object.__eq__") ([.ref a]++[.ref b])>>=λc=>bj (W c)) (λc f=>c=W .notImplemented/\f=⟨h,g,d,tk,o⟩) aE ⟨h,g,d,tk,o⟩:=aB (bJ u (λc f i=>aV ⟨by rw[i.1],i.2⟩) λl l i=>i);split
  .exact aB (oV (KY.eq.bind _) (aV fin))
  .exact wpAny_tryCatch (aB (oV (KY.eq.bind _) (aV fin)))
 .obtain⟨rfl,rfl⟩:=C;exact aV q
theorem acL(B:Bs h)(p:h.get? a=W (dy 414 t))(i:h.get? b=W (dy 414 u))(l:aU k A):nN A ⟨h,g,d,tk,o⟩ (.ref a) (.ref b) (decide (a=b)):=by
 intro v j;dsimp only[eqBool];refine eH ?_;by_cases f:a=b
 .subst f;refine jA (decide_eq_true (by simp)) ?_;rw[decide_eq_true rfl] at j;exact aB (oW (aV j))
 .refine cW (decide_eq_false (λn=>f (by simpa using n))) ?_;rw[decide_eq_false f] at j;refine aB ?_;dsimp only[BJ];simp only[oneThing_ref];refine eH (aB (Xa l.u9 (aB ((Ht p).at (aB ((Ht i).at ?_))))));refine cW rfl (aB (m:=HN (.ref a) "__eq__" (.ref b)) (VP B p i f ?_));refine aB (m:=HN (.ref b) "__eq__" (.ref a)) (VP B i p (fN f) ?_);refine aB (oW (aB (wpAny_isSame_ref_other (s:=⟨h,g,d,tk,o⟩) f p i (by intro r;cases r) (aV ?_))));exact gH j
theorem type_list_extend:kY (.builtin "list.extend")=bj (.type "method_descriptor"):=by show builtinType _=_;rw[builtinType_eq_fast];nofun
theorem OQ{A:cT}{s:aT}{l:az}{a:aI}{pl:dG Bool}{nm:aA}{id:String}{Q:aq×List aq->aT->Prop}(c:s.heap.get? l=W a)(d:a.cls= .type "list")(e:a.dict=X)
  (f:Slot "list" nm id)(g:kY (.builtin id)=bj (.type "method_descriptor"))(q:Q (.builtin id,[.ref l]) s):aF (MM) A (ie (.ref l) nm pl) Q aE s:=by
 have b:s.TypeIs (.ref l) "list":=⟨a,c,d⟩;dsimp only[ie];refine aB (oX b PySem.list_getattribute ?_);show aF _ A (if(Manifest.canonical "list.__getattribute__" !="object.__getattribute__")=af then _ else _) Q _ s;rw[PySem.canon_list_getattribute,if_neg Jt];refine aB (oX b PySem.list_getattr_none (aB (oX b f.lookup ?_)));refine aB (oV g (aB (wpAny_load c ?_)));exact e▸aB (oW (aV q))
theorem akE{k:Nat}{h:aK}{env:gL}{c:Expr}{i b:cC}{D:az}{a:Array aq}{x:aq}(z:aO k h (aa c env) (.ref D))(B:a.size<fv)(hl:LO h D (a.push x))(pl:dG Bool)
  (C:aa (.Call (.Attribute c "pop" i) [] [] b) env=(do
   let n<-aa c env
   fB i.atName
   let(f,first)<-fI [n] (ie n "pop" pl)
   dH b f first (bG b (aH [] env)) (bZ b (cf [] env)))):
  dY k h (aa (.Call (.Attribute c "pop" i) [] [] b) env) (λv h'=>v=x/\∃p,Ext h p/\dE D p h'/\LO h' D a):=by
 intro J L g t M u E G;refine kT (Ev.at z E Ext.rfl λj l w=>?_) C;obtain⟨N,m⟩:=hl.keeps w;refine OQ (s:=⟨j,g,t,l,u⟩) m rfl rfl PySem.F.slot_list_pop PySem.F.type_list_pop ?_;refine PySem.P.pop_list (s:=⟨j,g,t,l,u⟩) m (y:=x) (by simp) ?_ (by rw[CC];exact B);refine G x _ l ⟨rfl,j,w,zm ..,?_⟩;have H:(a.push x).eraseIdxIfInBounds ((a.push x).size-1)=a:=by apply Jq.mp;simp[Array.eraseIdxIfInBounds,List.eraseIdx_append_of_length_le]
 have:=aaQ m λI=>I.eraseIdxIfInBounds ((a.push x).size-1);unfold PySem.IsL at this;rw[H] at this;exact⟨_,this⟩
def TO(h:aK)(a:az)(vs:Array aq):Prop:=∃b,h.get? a=W (gu "tuple" vs b)
theorem AA(i:gT k h env j (λf=>f=vs))(hl:vs.length<=fv):
  Ev k h (aa (.Tuple j B pos) env) (λv h'=>∃a,v= .ref a/\TO h' a vs.toArray):=by
 intro l C m g n p c s t u;refine zW (i pos l _ m g n p c s t λf D E w y=>?_);subst y;exact yr (u _ _ _ (λz c x=>eP _ (w z c x)) ⟨_,rfl,0,jT _ rfl⟩) hl
theorem WK(B:aO k h (aa j env) (.ref D))(n:l.size+its2.size<=fv)(hl:LO h D l)(Y:Ev k h (aa e env) (λv h'=>∃a,v= .ref a/\TO h' a its2))(pl:dG Bool)
  (C:aa (.Call (.Attribute j "extend" p) [e] [] pos) env=(do
   let u<-aa j env
   fB p.atName
   let(f,first)<-fI [u] (ie u "extend" pl)
   dH pos f first (bG pos (aH [e] env)) (bZ pos (cf [] env))))
  (b:autoParam (aH [e] env=(aw,aa e env)::aH [] env) rf):
  dY k h (aa (.Call (.Attribute j "extend" p) [e] [] pos) env) (λv h'=>v= .none/\∃b,Ext h b/\dE D b h'/\LO h' D (l++its2)):=by
 intro E P g w R x y G;refine kT (Ev.at B y Ext.rfl λz H m=>?_) C;obtain⟨I,c⟩:=hl.keeps m;refine OQ (s:=⟨z,g,w,H,x⟩) c rfl rfl aaO type_list_extend ?_;rw[b];refine PySem.seqMethod1_meets aaO PySem.F.entry_list_extend (Y E _ z g w _ x y m λv J S i L=>?_);obtain⟨M,rfl,n1,N⟩:=L;refine⟨⟨_,(i _ _ c),rfl⟩,PySem.F.args_list_extend_2 _ _,_,alL D l I M its2 n1 (by simp[alv];lia) (aai n) (zJ n),(i _ _ c),N,?_⟩;exact G _ _ _ ⟨rfl,J,m.trans i,zm ..,⟨_,aaQ (i _ _ c) λO=>O++its2⟩⟩
noncomputable abbrev fS(L:az):gL:=aY ke L 541
noncomputable def WQ:cQ:=((bodyOf ke)[2]?).getD (.Pass ⟨0,0,0,0⟩)
noncomputable def vI:Expr:=nj WQ 0
noncomputable def th:List cQ:=ou WQ
noncomputable abbrev cY(Y:Lay)(l:List Nat):Array aq:=(l.map λa=>cM (Y.ad a)).toArray
def uM(z1:aK)(L:az)(b:az)(o:aI):Prop:=b=L\/(z1.get? b=X/\o.cls= .type "list")
def Cd(Y:Lay)(all:List Nat)(i:Nat)(v:aq)(s:aT):Prop:=∃a,all[i]?=W a/\v= .ref (Y.ad a)
theorem aU.aiV{K:dM->dG nX}{H:aq->dG nX}{gd:Bool->Bool}{c:List aq->List aq}(r:aU (k+3) A):
  aU k (A.over (.whileLoop t a b env) [jh K H gd c e (.func body env) p]):=by
 have f:(A.over (.whileLoop t a b env) [jh K H gd c e (.func body env) p]).depth=A.depth+(nJ (.func body env)+0)+nJ (.whileLoop t a b env):=rfl;have g:(A.over (.whileLoop t a b env) [jh K H gd c e (.func body env) p]).units=A.units+(nG (.func body env)+0)+nG (.whileLoop t a b env):=rfl;have i:nJ (.func body env)=1:=rfl;have j:nG (.func body env)=3:=rfl;have l:nJ (.whileLoop t a b env)=0:=rfl;have m:nG (.whileLoop t a b env)=0:=rfl;refine⟨r.h,?_,?_⟩
 .rw[f];have:=r.d;exact Rx i l this
 .rw[g];have:=r.u;exact Ry j m this
structure Us(z z1:aK)(L a b:az)(Y:Lay)(q vs:List Nat)(h:aK):Prop where
 ns:∃m,h.Ns L m/\m "visited_edges"=W (.ref a)/\m "queue"=W (.ref b)/\m "_context"=X/\m "left_side"=X
 lv:LO h a (cY Y vs)
 lq:LO h b (cY Y q)
 e:Ext z h
structure Uc(z z1:aK)(L a b:az)(Y:Lay)(n:Nat)(on:Nat->Nat):Prop where
 B:Bs z
 R:Rep z Y n on
 zL:z.get? L=X
 zV:z.get? a=X
 zQ:z.get? b=X
 nV:z1.get? a=X
 nQ:z1.get? b=X
 VQ:a≠b
 VL:a≠L
 QL:b≠L
theorem Rl.more(r:Rl z M c f ⟨h,g,d,tk,o⟩)(i:∀b o,¬M b o->h.get? b=W o->h'.get? b=W o)(e:Ext z h->Ext z h'):Rl z M c f ⟨h',g,d,k,o⟩:=
 ⟨λx=>e (r.base x),λb o a j=>i b o a (r.keep b o a j),r.gens,r.dr,r.os⟩
theorem WS(C:Uc z z1 L f c Y n on)(u:Us z z1 L f c Y (q++[e]) vs h)(F:q.length<100000)(r:aU k A)
  (G:∀h' H,Us z z1 L f c Y q vs h'->(∃m,h'.Ns L m/\m "edge"=W (.ref (Y.ad e))/\m "visited_edges"=W (.ref f)/\m "queue"=W (.ref c)/\m "_context"=X/\m "left_side"=X)->(∀b o,¬uM z1 L b o->h.get? b=W o->h'.get? b=W o)->Q .next ⟨h',g,d,H,o⟩):
  aF (MM) A (exec (match th[0]?with|some st=>st|_=> .Pass ⟨0,0,0,0⟩) (fS L)) Q aE ⟨h,g,d,tk,o⟩:=by
 obtain⟨m,n1,n2,i,n4,l⟩:=u.ns;have I:LO h c ((cY Y q).push (.ref (Y.ad e))):=by
  have J:cY Y (q++[e])=(cY Y q).push (.ref (Y.ad e)):=by simp[cY]
  simp only[<-J];exact u.lq
 refine oU (akE (x:= .ref (Y.ad e)) (ah n1 i) (by simp only[jW,cO];simp only[eO];exact eT F (by decide)) I _ rfl A _ g d tk o r λZ M N O=>?_) rfl;obtain⟨rfl,h0,p,s1,P⟩:=O;refine fw (s:=⟨M,g,d,N,o⟩) (env:=fS L) rfl ((n1.keeps p).sameBut s1 C.QL.symm) (λt w B=>?_) rfl;have j:∀b o,b≠c->b≠L->h.get? b=W o->t.get? b=W o:=λb o R S a=>B.extBut b o S (s1.extBut b o R (p b o a));have D:∀{b o x},z.get? b=W o->z.get? x=X->b≠x:=λa n=>eg a n;refine G t _ ⟨⟨_,w,n2,i,n4,l⟩,?_,P.but B C.QL,λb o a=>j b o (D a C.zQ) (D a C.zL) (u.e b o a)⟩ ⟨_,w,by rfl,n2,i,n4,l⟩ λb o E a=>?_
 .obtain⟨nn,a⟩:=u.lv;exact⟨nn,j _ _ C.VQ C.VL a⟩
 .refine j b o ?_ (λT=>E (.inl T)) a;rintro rfl;obtain⟨nn,V⟩:=u.lq;have:=a.symm.trans V;cases this;exact E (.inr ⟨C.nQ,rfl⟩)
theorem HO(u:Us z z1 L p t Y q vs h)(c:q.length<100000)(r:aU k A)(f:∀h' i,Ext h h'->Q (!q.isEmpty) ⟨h',g,d,i,o⟩):
  aF (MM) A (isTrue vI (fS L) (aa vI (fS L))) Q aE ⟨h,g,d,tk,o⟩:=by
 obtain⟨v,n1,n2,j,n4,w⟩:=u.ns;refine Xd (Ev.at (k:=k) (ah n1 j) r Ext.rfl λa l b=>?_) rfl;have n:(!(cY Y q).isEmpty)=!q.isEmpty:=by cases q<;>simp[cY]
 refine Xj (s:=⟨a,g,d,l,o⟩) (u.lq.keeps b).list (by simp only[jW,cO];exact GJ c) ?_;simp only[n];exact f a _ b
theorem Us.ext(u:Us z z1 L a b Y q vs h)(e:Ext h h'):Us z z1 L a b Y q vs h':=
 ⟨let⟨c,n1,n2⟩:=u.ns;⟨c,n1.keeps e,n2⟩,u.lv.keeps e,u.lq.keeps e,u.e.trans e⟩
theorem WR(C:Uc z z1 L l J Y n on)(u:Us z z1 L l J Y q vs h)(p:e<n)(t:∀x∈vs,x<n)(r:aU 6 A)(v:h.Ns L m)(M:m "edge"=W (.ref (Y.ad e)))(N:m "visited_edges"=W (.ref l))
  (w:∀h' O,Ext h h'->Q (if e∈vs then .cont else .next) ⟨h',g,d,O,o⟩):
  aF (MM) A (exec (match th[1]?with|some st=>st|_=> .Pass ⟨0,0,0,0⟩) (fS L)) Q aE ⟨h,g,d,tk,o⟩:=by
 refine Ci (EF (k:=6) (b:=decide (e∈vs)) (ah v M) (ah v N) (λA Q S T D q=>?_) (by with_unfolding_all rfl) A _ h g d tk o r Ext.rfl λP E F G V=>?_)
 .obtain⟨hp,g,d,tk,o⟩:=S;have Z:=u.lv.keeps D;have H:=u.e.trans D;have I:=C.R.keeps H;refine abV (λa=>decide (a= .ref (Y.ad e))) Z.list (λa hy=>?_) ?_
  .obtain⟨x,hx,rfl⟩:=dc.mp (by simpa [cY] using hy:a∈vs.map λi=>cM (Y.ad i));have:=acL (k:=5) (A:=A.in1) (g:=g) (d:=d) (tk:=tk) (o:=o) (C.B.keeps H) (I.ob x (t x hx)) (I.ob e p) T.in1;simpa using this
  .have:(cY Y vs).any (λa=>decide (a= .ref (Y.ad e)))=decide (e∈vs):=by rw[ze];simp only[cY,Zu,Zt,we,decide_eq_true_eq,YR];exact⟨λ⟨x,hx,j⟩=>by injection j with j;exact C.R.ia x e (t x hx) p j▸hx,λh=>⟨e,h,rfl⟩⟩
   rw[this];exact q
 .subst V;by_cases f:e∈vs
  .rw[decide_eq_true f];refine(if_pos rfl).mpr ?_;have:=w E F G;rw[if_pos f] at this;exact de (wpAny_Continue this)
  .rw[decide_eq_false f];refine(if_neg (by decide)).mpr ?_;have:=w E F G;rw[if_neg f] at this;exact cA this
theorem akS(C:Uc z z1 L i c Y n on)(u:Us z z1 L i c Y q vs h)(p:e<n)(T:q.length<100000)(V:vs.length<100000)(r:aU 10 A)
  (Z:∃m,h.Ns L m/\m "edge"=W (.ref (Y.ad e))/\m "visited_edges"=W (.ref i)/\m "queue"=W (.ref c)/\m "_context"=X/\m "left_side"=X)
  (qq:∀h' a0,Us z z1 L i c Y (q++jO on e) (vs++[e,U e]) h'->(∀b o,¬uM z1 L b o->h.get? b=W o->h'.get? b=W o)->Q .next ⟨h',g,d,a0,o⟩):
  aF (MM) A (bg (th.drop 3) (fS L)) Q aE ⟨h,g,d,tk,o⟩:=by
 obtain⟨m,n1,n2,I,n4,n5,n6⟩:=Z;have a3:∀{h h'},LO h c (cY Y q)->dE i h h'->LO h' c (cY Y q):=λl s=>l.but s C.VQ.symm;refine lK (P:=λw h'=>∃t,Ext h t/\dE i t h'/\LO h' i (cY Y vs++#[.ref (Y.ad e), .ref (Y.ad (U e))])) (k:=10) ?_ r λJ M a8 E=>?_
 .refine WK (its2:=#[.ref (Y.ad e), .ref (Y.ad (U e))]) (ah n1 I) (by simp only[jW,cO];simp only[eO];show _+2<=_;exact Dr V (wy rfl)) u.lv ?_ _ rfl;exact AA (vs:=[.ref (Y.ad e), .ref (Y.ad (U e))]) ((eM (ah n1 n2) (kb (fG (C.B.keeps u.e) (C.R.keeps u.e) p (ah n1 n2)))).imp λvs=>by rintro⟨J,rest,rfl,rfl,rfl⟩;rfl) (by simp only[eO];simp)
 obtain⟨h0,D,s1,a5⟩:=E;have j:=(n1.keeps D).sameBut s1 C.VL.symm;have F:∀{b o x},z.get? b=W o->z.get? x=X->b≠x:=λa n=>eg a n;have f:Ext z M:=λb o a=>s1.extBut b o (F a C.zV) (D b o (u.e b o a));refine lK (P:=λw h'=>∃t,Ext M t/\dE c t h'/\LO h' c (cY Y q++#[.ref (Y.ad (on e)), .ref (Y.ad (gh on e)), .ref (Y.ad (aZ on e)), .ref (Y.ad (jz on e))])) (k:=10) ?_ r λJ N a6 E=>?_
 .refine WK (its2:=#[.ref (Y.ad (on e)), .ref (Y.ad (gh on e)), .ref (Y.ad (aZ on e)), .ref (Y.ad (jz on e))]) (ah j n4) (by simp only[jW,cO];simp only[eO];show _+4<=_;exact ahZ T) (a3 (u.lq.keeps D) s1) ?_ _ rfl;exact AA (vs:=[.ref (Y.ad (on e)), .ref (Y.ad (gh on e)), .ref (Y.ad (aZ on e)), .ref (Y.ad (jz on e))]) (Aq (iX (C.B.keeps f) (C.R.keeps f) p (ah j n2)) (Af (C.B.keeps f) (C.R.keeps f) p (ah j n2)) (oh (C.B.keeps f) (C.R.keeps f) p (ah j n2)) (Ec (C.B.keeps f) (C.R.keeps f) p (ah j n2))) (by simp only[eO];simp)
 obtain⟨h3,e3,s2,a7⟩:=E;have O:∀b o,b≠i->b≠c->h.get? b=W o->N.get? b=W o:=λb o bV bQ a=>s2.extBut b o bQ (e3 b o (s1.extBut b o bV (D b o a)));refine cA (qq N a6 ⟨⟨m,(j.keeps e3).sameBut s2 C.QL.symm,I,n4,n5,n6⟩,?_,?_,λb o a=>O b o (F a C.zV) (F a C.zQ) (u.e b o a)⟩ λb o S a=>O b o ?_ ?_ a)
 .have G:cY Y (vs++[e,U e])=cY Y vs++#[.ref (Y.ad e), .ref (Y.ad (U e))]:=by simp[cY]
  simp only[G];exact(a5.keeps e3).but s2 C.VQ
 .have G:cY Y (q++jO on e)=cY Y q++#[.ref (Y.ad (on e)), .ref (Y.ad (gh on e)), .ref (Y.ad (aZ on e)), .ref (Y.ad (jz on e))]:=by simp[cY,jO]
  simp only[G];exact a7
 .rintro rfl;obtain⟨nn,H⟩:=u.lv;have:=a.symm.trans H;cases this;exact S (.inr ⟨C.nV,rfl⟩)
 .rintro rfl;obtain⟨nn,H⟩:=u.lq;have:=a.symm.trans H;cases this;exact S (.inr ⟨C.nQ,rfl⟩)
noncomputable abbrev uY(z z1:aK)(L:az)(Y:Lay)(all:List Nat):KV:=Yg z z1 [L] [] (uM z1 L) all.length (Cd Y all)
noncomputable abbrev uR(z z1:aK)(L:az):GenEnd:=λa b c d=>c= .ok (.ret .none)/\mN z (uM z1 L) [] a b d
theorem akZ{on:Nat->Nat}{K:dM->dG nX}{H:aq->dG nX}(r:aU 13 A)(C:Uc z z1 L Va Qa Y n on)(G:n%4=0)(T:∀i<n,on i<n)
  (a8:∀t s,Rl z (uM z1 L) [] t s->jX (MM) A (uR z z1 L) (uY z z1 L Y all) 0 t (.func body (fS L)) (K .next) [] s)(b:BR on q vs ys):
  (∀e∈q,e<n)->(∀e∈vs,e<n)->q.length+4*ys.length<100000->vs.length+2*ys.length<100000->(∃pre,all=pre++ys)->∀t s:aT,Us z z1 L Va Qa Y q vs s.heap->Rl z (uM z1 L) [] t s->
   jX (MM) A (uR z z1 L) (uY z z1 L Y all) ys.length t (.whileLoop vI th [] (fS L)) ((MM).den (.whileLoop vI th [] (fS L))) (jh K H id id (fS L) (.func body (fS L)) p::[]) s:=by
 have v:aU 10 (A.over (.whileLoop vI th [] (fS L)) [jh K H id id (fS L) (.func body (fS L)) p]):=r.aiV;induction b with
 |@done vs=>intro _ _ _ _ _ t s I M;obtain⟨V,g,d,tk,c⟩:=s;refine Wj (bJ (E:=aE) (HO I (by decide) v λh' c0 e=>((if_neg (by decide)).mpr (seg_execs_nil (seg_leaf (.ok .next) (a8 _ _ (M.more (λb c a N=>e b c N) λx=>x.trans e)))))) (λa a z=>z) λa a z=>z.elim)
 |@skip q e vs ys hm b ih=>intro O P j Q V t s I M;obtain⟨a9,g,d,tk,c⟩:=s;simp only[gW,ue] at j;refine Wj (bJ (E:=aE) (HO I (by rw[gW,ue];exact wx j) v λb0 b1 R=>?_) (λa a z=>z) λa a z=>z.elim);refine(if_pos (by simp)).mpr (ky (sY (bJ (E:=aE) (WS C (I.ext R) (agy j) v λb2 b3 J l kp=>?_) (λa a z=>z) λa a z=>z.elim)));obtain⟨B,l,S,n4,n5⟩:=l;exact ky (sY (bJ (E:=aE) (WR (e:=e) C J (O e (by simp)) P (v.le (by decide)) l S n4 λb4 b5 D=>((if_pos hm)▸(BM rfl (ih (λx f=>O x (by simp[f])) P (agz j) Q V t _ (J.ext D) (M.more (λb c nb N=>D b c (kp b c nb (R b c N))) λa=>J.e.trans D))))) (λa a z=>z) λa a z=>z.elim))
 |@take q e vs ys hm b ih=>
  intro O P j Q V t s I M;obtain⟨a9,g,d,tk,c⟩:=s;rw[gW,ue,jD] at j;simp only[jD] at Q;refine Wj (bJ (E:=aE) (HO I (by rw[gW,ue];exact wx j) v λb0 b1 R=>?_) (λa a z=>z) λa a z=>z.elim);rw[if_pos (by simp)];refine ky (sY (bJ (E:=aE) (WS C (I.ext R) (Qm j) v λb2 b3 J l kp=>?_) (λa a z=>z) λa a z=>z.elim));obtain⟨B,l,S,n4,n5,n6,n7⟩:=l;have F:=O e (by simp);refine ky (sY (bJ (E:=aE) (WR (e:=e) C J F P (v.le (by decide)) l S n4 λb4 b5 D=>((if_neg hm)▸(ky (Hz rfl rfl rfl (bJ (Ev.at (k:=10) (ah (l.keeps D) S) v Ext.rfl λc1 c2 Z=>?_) (λa a z=>z) λa a z=>z.elim) rfl rfl)))) (λa a z=>z) λa a z=>z.elim));intro c3 b6;obtain⟨pre,a7⟩:=V;have u4:=(J.ext D).ext Z;have b7:all.length=pre.length+(ys.length+1):=by simp only[a7,gW,jD]
  refine⟨⟨e,?_,rfl⟩,M.more (λb c nb N=>Z b c (D b c (kp b c nb (R b c N)))) λa=>u4.e,λa0 hk=>b6 .none a0 ?_⟩
  .have ei:all.length-1-ys.length=pre.length:=agA b7;rw[ei,a7];simp
  have kk:=hk.keep;have ns:∃B,a0.heap.Ns L B/\B "edge"=W (.ref (Y.ad e))/\B "visited_edges"=W (.ref Va)/\B "queue"=W (.ref Qa)/\B "_context"=X/\B "left_side"=X:=by obtain⟨ob,es,ep,y1,y2,y3,y4⟩:=id ((l.keeps D).keeps Z);exact⟨B,⟨ob,es,ep,kk _ _ (.inl (.head _)) (jg ((l.keeps D).keeps Z) n6 y1) y1,y2,y3,y4⟩,S,n4,n5,n6,n7⟩
  have u5:Us z z1 L Va Qa Y q vs a0.heap:=by obtain⟨m',a1,a2,a3,a4,a5,a6⟩:=ns;obtain⟨nv,yv⟩:=u4.lv;obtain⟨nq,yq⟩:=u4.lq;exact⟨⟨m',a1,a3,a4,a5,a6⟩,⟨nv,kk _ _ (.inr C.nV) xD yv⟩,⟨nq,kk _ _ (.inr C.nQ) xD yq⟩,hk.base⟩
  obtain⟨c4,g5,d5,c5,o5⟩:=a0;refine sY (bJ (E:=aE) (akS C u5 F (Qm j) (wx Q) v ns λc6 c7 u6 b8=>?_) (λa a z=>z) λa a z=>z.elim);have b9:∀x,x∈jO on e->x<n:=λx f=>by
   simp only[jO,cP,kH,or_false] at f;rcases f with rfl|rfl|rfl|rfl
   .exact T _ F
   .exact cw G (T _ (bK G (cw G F)))
   .exact cw G (T _ (cw G F))
   .exact T _ (bK G F)
  refine BM rfl (ih (λx f=>(fM.mp f).elim (λh=>O x (by simp[h])) (b9 x)) (λx f=>?_) ?_ ?_ ⟨pre++[e],by rw[a7];simp⟩ _ _ u6 (Rl.refl.more b8 λa=>u6.e))
  .rcases fM.mp f with f|f
   .exact P x f
   .simp only[cP,kH,or_false] at f;rcases f with rfl|rfl
    .exact F
    .exact bK G F
  .rw[gW];show _+4+_<_;exact agB j
  .rw[gW];show _+2+_<_;exact agC Q
theorem acX(n:aO k h (aa f env) v1)(Y:aO k h (aa c env) v2)(p:autoParam (aH [f,c] env=(aw,aa f env)::aH [c] env) rf)(s:autoParam (aH [c] env=(aw,aa c env)::aH [] env) rf):
  Ev k h (aa (.List [f,c] pos) env) (λv h'=>∃a,v= .ref a/\h.get? a=X/\LO h' a #[v1,v2]):=by
 intro w y z g B C t l i u;simp only[LG];refine aB (gG (aB (cF (Ev.at n l i λD E j=>(cF (Ev.at Y l (i.trans j) λF G m=>?_) s)) p)));refine eQ (Cm ?_ (by simp only[eO];simp));exact u _ _ _ ((j.trans m).trans λH t x=>eP _ x) ⟨_,rfl,ft ((i.trans j).trans m) (jq (bT _)),⟨0,jT _ rfl⟩⟩
theorem akM(r:aU 15 A)(B:Bs z)(i:Ext z s.heap)(I:z.get? L=X)(Z:s.heap.Ns L m)(hm:m "triangulation"=W (.ref t))(hx:m "_context"=X)(a7:m "left_side"=X)
  (T:cX z t td (.ref cx) (.ref (Y.ad ls)) (.ref (Y.ad rs)))(R:Rep z Y n on)(hl:ls<n)(hr:rs<n)(b:BR on [ls,rs] [] ys)(hy:ys.length<10000):
  (JE (.func (bodyOf ke) (fS L))).Goes (MM) A (uR z s.heap L) (uY z s.heap L Y ys) ys.length (.send .none) s:=by
 refine⟨rfl,Wi ?_⟩;have r0:aU 13 (A.over (.func (bodyOf ke) (fS L)) []):=aU.Hk r;obtain⟨l,g,d,tk,c⟩:=s;have i:=i;have a8:∃f,l.get? L=W f:=let⟨f,_,_,a,_⟩:=Z;⟨f,a⟩;refine ky (sY (bJ (E:=aE) (oU (hY (k:=13) Nf r0 Ext.rfl λJ a9 b1 M N=>?_) rfl) (λx x z=>z) λx x z=>z.elim));obtain⟨O,rfl,q,lV⟩:=N;have q:=q;refine fw (s:=⟨a9,g,d,_,c⟩) (env:=fS L) rfl (Z.keeps M) (λa0 w P=>?_) rfl;have Q:O≠L:=by rintro rfl;obtain⟨f,a⟩:=a8;replace a:=(q)▸a;cases a
 have u:=iC (i.trans M) P I;have a3:=lV.but P Q;have a4:∀b c,b≠L->l.get? b=W c->a0.get? b=W c:=λb c D a=>(P.2 b D).trans (M b c a);refine ky (sY (bJ (E:=aE) (oU (hY (k:=13) (acX (cG (ah w (v:= .ref t) (by exact hm)) (qU (B.keeps u) (T.keeps u) rfl)) (cG (ah w (v:= .ref t) (by exact hm)) (qV (B.keeps u) (T.keeps u) rfl))) r0 Ext.rfl λJ b0 b2 F N=>?_) rfl) (λx x z=>z) λx x z=>z.elim));obtain⟨h,rfl,nQ,lQ⟩:=N;refine fw (s:=⟨b0,g,d,_,c⟩) (env:=fS L) rfl (w.keeps F) (λb3 n4 G=>?_) rfl;have a5:∀{b c},a0.get? b=W c->b≠h:=λa=>eg a nQ;have S:h≠L:=by obtain⟨f,_,_,a,_⟩:=w;exact(a5 a).symm
 have a6:l.get? h=X:=by
  cases hc:l.get? h with
  |none=>rfl
  |some f=>replace nQ:=(a4 _ _ S hc)▸nQ;cases nQ
 have VQ:O≠h:=by obtain⟨nn,a⟩:=a3;exact a5 a
 have E4:=iC (u.trans F) G I;have C:Uc z l L O h Y n on:=⟨B,R,I,ft i q,ft i a6,q,a6,VQ,Q,S⟩;refine ky (seg_While (test:=vI) (body:=th) (orelse:=[]) λp=>?_);refine akZ (all:=ys) (r.le (by decide)) C R.n4 R.on (λb4 s hr=>Wf (.ok (.ret .none)) ⟨rfl,rfl,hr,λj hj=>by cases hj⟩) b (λe H=>?_) (λe H=>by cases H) (by show 2+_<_;exact ahX hy) (by show 0+_<_;exact(kl 0xc35013e14088008849c407f0a048 0x10421).2 hy) ⟨[],rfl⟩ _ _ ⟨⟨_,n4,by rfl,by rfl,hx,a7⟩,(a3.keeps F).but G Q,lQ.but G S,E4⟩ ?_
 .simp only[cP,kH,or_false] at H;rcases H with rfl|rfl
  .exact hl
  .exact hr
 .exact⟨λx=>E4,λb c D a=>(G.2 b (λV=>D (.inl V))).trans (F b c (a4 b c (λV=>D (.inl V)) a)),λx x=>rfl,rfl,rfl⟩
noncomputable abbrev fH(L:az):gL:=aY kR L 425
noncomputable def MS:cQ:=((bodyOf kR)[0]?).getD (.Pass ⟨0,0,0,0⟩)
noncomputable def uD:Expr:=nj MS 0
noncomputable def xd:List cQ:=ou MS
def oM(z1:aK)(a c:az)(b:az)(o:aI):Prop:=b=c\/uM z1 a b o
noncomputable abbrev oY(z z1:aK)(a b c:az)(d:Nat)(Y:Lay)(ys:List Nat):KV:=Yg z z1 [b,a,c] [d] (oM z1 a b) (both ys).length (Cd Y (both ys))
noncomputable abbrev oR(z z1:aK)(a b:az)(c:Nat):GenEnd:=λd e f g=>f= .ok (.ret .none)/\mN z (oM z1 a b) [c] d e g
structure Oc(z z1:aK)(a b c:az)(Y:Lay)(n:Nat)(on:Nat->Nat):Prop where
 B:Bs z
 R:Rep z Y n on
 z1L:z.get? a=X
 z2L:z.get? b=X
 h1:z1.get? a≠X
 h2:z1.get? b≠X
 LL:a≠b
 aL1:c≠a
 DH:c≠b
 ha:z1.get? c≠X
theorem Ab(ys:List Nat):(both ys).length=2*ys.length:=by
 induction ys with
 |nil=>rfl
 |cons c ys b=>show(both ys).length+1+1=2*(ys.length+1);exact Nat.succ_inj.mpr (congrFun (congrArg YS b) 1)
theorem Mj{ys:List Nat}:∀{i e:Nat},ys[i]?=W e->(both ys)[2*i]?=W e/\(both ys)[2*i+1]?=W (U e):=by
 induction ys with
 |nil=>intro i e h;cases h
 |cons c ys b=>
  intro i e h;cases i with
  |zero=>cases h;exact⟨rfl,rfl⟩
  |succ i=>have:=b h;exact(show 2*(i+1)=2*i+1+1 from rfl)▸this
theorem Rl.gen(r:Rl z M [a] m s)(n:∀{b o},p b o->M b o)(c:Rl z p [] (s.setGen a .running) f)(g:Ext f.heap h'):Rl z M [a] m {f.setGen a q with heap:=h'}:=by refine⟨λx=>(c.base (r.base x)).trans g,λb o i t=>g b o (c.keep b o (λh=>i (n h)) (r.keep b o i t)),λd k=>?_,c.dr.trans r.dr,c.os.trans r.os⟩;have l:d≠a:=λu=>k (by simp[u]);exact((ry f a q).2 d l).trans ((c.gens d (by simp)).trans (((ry s a .running).2 d l).trans (r.gens d k)))
theorem acJ{A:cT}{z z1:aK}{E a G:az}{Y:Lay}{n:Nat}{on:Nat->Nat}{ys:List Nat}{c:Nat}{K:dM->dG nX}{H:aq->dG nX}{body:List cQ}{p:cC}(r:aU 23 A)(C:Oc z z1 E a G Y n on)(a7:∀e∈ys,e<n)
  (a8:∀N s,Rl z (oM z1 E a) [c] N s->(∃x,s.gens[c]?=W x/\x.bare=af)->jX (MM) A (oR z z1 E a c) (oY z z1 E a G c Y ys) 0 N (.func body (fH a)) (K .next) [] s):
  ∀(j i:Nat) (N s:aT) (m:aA->Option aq),ys.length-i=j->i<=ys.length->s.heap.Ns a m->m "_context"=X->m "left_side"=X->Ext z s.heap->s.heap.IsGen G c->
   mG (A.over (.forLoop uD (.ref G) xd [] (fH a)) [jh K H id id (fH a) (.func body (fH a)) p]) z z1 [E] [] (uM z1 E) ys.length (Cd Y ys) c i s->Rl z (oM z1 E a) [c] N s->
   jX (MM) A (oR z z1 E a c) (oY z z1 E a G c Y ys) (2*j) N (.forLoop uD (.ref G) xd [] (fH a)) ((MM).den (.forLoop uD (.ref G) xd [] (fH a))) (jh K H id id (fH a) (.func body (fH a)) p::[]) s:=by
 have rr:aU 20 (A.over (.forLoop uD (.ref G) xd [] (fH a)) [jh K H id id (fH a) (.func body (fH a)) p]):=r.Hl;intro j;induction j with
 |zero=>
  intro i N s m Q hi hn hx a6 T hg V rl;have a9:i=ys.length:=Bn Q hi;subst a9;refine BN (Fm rr T (C.B.keeps T).l hg V λP h' O F e1=>?_);have a4:P.gens[c]?=W .running:=by obtain⟨gs,h1,_⟩:=V;rw[O.gens c (by simp)];exact sZ h1
  refine We (a8 _ _ (rl.gen (Or.inr) O e1) ⟨_,sZ a4,rfl⟩)
 |succ j ih=>
  intro i N s m Q hi hn hx a6 T hg V rl;have aQ:i<ys.length:=Bl Q;have b0:∃st,s.gens[c]?=W st:=V.imp λF h=>h.1;refine BN (Fp rr (C.B.keeps T).l hg V aQ λv P a0 b1 O kp=>?_);obtain⟨e,a5,rfl⟩:=b1;refine oV (rfl:sk uD (.ref G) _=bj ()) ?_;have a4:P.gens[c]?=W .running:=by obtain⟨st,h1⟩:=b0;rw[O.gens c (by simp)];exact sZ h1
  have E1:=O.base T;have n1:P.heap.Ns a m:=by
   obtain⟨I,Z,ep,t,u,J,L⟩:=hn;refine⟨I,Z,ep,O.keep _ _ ?_ t,u,J,L⟩;rintro(h|⟨h,_⟩)
   .exact C.LL h.symm
   .exact C.h2 h
  have g1:P.heap.IsGen G c:=by
   obtain⟨I,nm,qn,t,u,J,L⟩:=hg;refine⟨I,nm,qn,O.keep _ _ ?_ t,u,J,L⟩;rintro(h|⟨h,_⟩)
   .exact C.aL1 h
   .exact C.ha h
  have b2:Rl z (oM z1 E a) [c] N (P.setGen c a0):=rl.gen Or.inr O Ext.rfl;obtain⟨a3,gg,d,tk,f⟩:=P;refine qZ (fw (env:=fH a) rfl n1 (λc0 n2 s2=>?_) rfl);have E2:=iC E1 s2 C.z2L;have b3:=a7 e (ug a5);simp only[show 2*(j+1)=2*j+1+1 from rfl];refine ky (Hz rfl rfl rfl (bJ (Ev.at (k:=20) (ah n2) rr Ext.rfl λb4 b5 e3=>?_) (λF F z=>z) λF F z=>z.elim) rfl rfl);intro c1 b6;have R3:Rl z (oM z1 E a) [c] N ⟨b4,((⟨a3,gg,d,tk,f⟩:aT).setGen c a0).gens,d,b5,f⟩:=
   b2.more (g:=((⟨a3,gg,d,tk,f⟩:aT).setGen c a0).gens) (tk:=tk) (λq f nb D=>e3 q f (s2.extBut q f (λee=>nb (.inl ee)) D)) λF=>E2.trans e3
  refine⟨⟨e,?_,rfl⟩,R3,λs3 hk=>b6 .none s3 ?_⟩
  .have ei:(both ys).length-1-(2*j+1)=2*i:=agi Q (Ab ys);rw[ei];exact(Mj a5).1
  have n3:s3.heap.Ns a (λD=>if D="edge" then W (.ref (Y.ad e)) else m D):=by have M:=n2.keeps e3;obtain⟨I,Z,ep,t,u,J,L⟩:=id M;exact⟨I,Z,ep,hk.keep _ _ (.inl (by simp)) (jg M (hx) t) t,u,J,L⟩
  have g3:s3.heap.IsGen G c:=by obtain⟨I,nm,qn,t,u,J,L⟩:=g1;exact⟨I,nm,qn,hk.keep _ _ (.inl (by simp)) (qT u (by decide)).1 (e3 _ _ (s2.extBut _ _ C.DH t)),u,J,L⟩
  have b7:=(hk.gens c (by simp)).trans (sZ (s:=⟨a3,gg,d,tk,f⟩) a4);have b8:∀q f,(q∈[E]\/z1.get? q=X)->¬gz f->a3.get? q=W f->s3.heap.get? q=W f:=λq f hb M D=>by have bL:q≠a:=λe=>hb.elim (λh=>C.LL ((e.symm.trans (gb.mp h)).symm)) λh=>C.h2 (e▸h);exact hk.keep q f (hb.imp (λh=>by simp only[gb.mp h];simp) id) M (e3 q f (s2.extBut q f bL D))
  obtain⟨c2,c3,d3,c4,o3⟩:=s3;refine ky (Hz rfl rfl rfl (bJ (Ev.at (k:=20) (fG (C.B.keeps hk.base) (C.R.keeps hk.base) b3 (ah n3)) rr Ext.rfl λc5 c6 e4=>?_) (λF F z=>z) λF F z=>z.elim) rfl rfl);intro c7 b9;refine⟨⟨U e,?_,rfl⟩,Rl.refl.more (λq f F D=>e4 q f D) λx=>x.trans e4,λs5 S=>b9 .none s5 ?_⟩
  .have ei:(both ys).length-1-2*j=2*i+1:=agj Q (Ab ys);rw[ei];exact(Mj a5).2
  refine BM rfl (ih (i+1) s5 s5 (λD=>if D="edge" then W (.ref (Y.ad e)) else m D) (sM Q) aQ ?_ (hx) (a6) S.base ?_ ⟨a0,(S.gens c (by simp)).trans b7,kp _ ⟨S.base,λq f hb M D=>?_,λF h=>by cases h⟩⟩ Rl.refl)
  .have M:=n3.keeps e4;obtain⟨I,Z,ep,t,u,J,L⟩:=id M;exact⟨I,Z,ep,S.keep _ _ (.inl (by simp)) (jg M (hx) t) t,u,J,L⟩
  .obtain⟨I,nm,qn,t,u,J,L⟩:=g3;exact⟨I,nm,qn,S.keep _ _ (.inl (by simp)) (qT u (by decide)).1 (e4 _ _ t),u,J,L⟩
  .exact S.keep q f (hb.imp (λh=>by simp only[gb.mp h];simp) id) M (e4 q f (b8 q f hb M D))
structure Ge(z:aK)(t b c d a f g:Nat)(s:aT):Prop where
 e:Ext z s.heap
 Ym:z.get? b=X
 zL2:z.get? c=X
 LL:b≠c
 a1:d≠b
 a2:d≠c
 n1:∃m,s.heap.Ns b m/\m "triangulation"=W (.ref t)/\m "_context"=X/\m "left_side"=X
 n2:∃m,s.heap.Ns c m/\m "edges"=W (.ref d)/\m "_context"=X/\m "left_side"=X
 ig:s.heap.IsGen d f
 io:s.heap.IsGen a g
 b1:a≠b
 b2:a≠c
 ne:f≠g
 f1:s.gens[f]?=W (.fresh (.func (bodyOf ke) (fS b)))
 f2:s.gens[g]?=W (.fresh (.func (bodyOf kR) (fH c)))
theorem acI(r:aU 25 A)(B:Bs z)(G:Ge z t u c D a q i s)(L:cX z t td (.ref cx) (.ref (Y.ad H)) (.ref (Y.ad I)))(R:Rep z Y n on)(hl:H<n)(hr:I<n)(b:BR on [H,I] [] ys)(M:ys.length<10000)(N:∀e∈ys,e<n):
  mG A z s.heap [c,u,D] [q] (oM s.heap u c) (both ys).length (Cd Y (both ys)) i 0 s:=by
 refine⟨_,G.f2,rfl,Wi ?_⟩;have r0:aU 22 (A.in1.over (.func (bodyOf kR) (fH c)) []):=aU.Hk r.in1;have O:(s.setGen i .running).gens[q]?=W (.fresh (.func (bodyOf ke) (fS u))):=((ry s i .running).2 q G.ne).trans G.f1;obtain⟨h,g,d,l,m⟩:=s;have e:Ext z h:=G.e;obtain⟨m1,n1,P,Q,S⟩:=G.n1;obtain⟨V,n2,Z,a0,a3⟩:=G.n2;have E:h.IsGen D q:=G.ig;have J:∀{x mx},h.Ns x mx->h.get? x≠X:=λn z=>by obtain⟨_,y⟩:=Gk n;rw[z] at y;cases y
 have C:Oc z h u c D Y n on:=⟨B,R,G.Ym,G.zL2,J n1,J n2,G.LL,G.a1,G.a2,by obtain⟨ob,_,_,y,_⟩:=E;rw[y];simp⟩;refine ky (Wh (gR (iK (env:=fH c) (s:=⟨h,(((⟨h,g,d,l,m⟩:aT).setGen i .running)).gens,d,l,m⟩) rfl rfl n2 Z (HS E λp=>?_)) rfl) (by intro _;rfl));have rr:aU 15 ((A.in1.over (.forLoop uD (.ref D) xd [] (fH c)) [jh (λf=>match f with| .next=>(bg [] (fH c)).wrap (λf=> .pure (.done (.ret (match f with| .ret F=>F|_=> .none)))) (λe=>(leaving (fH c) e).wrap (λw=> .raise e) .raise id id) id id|f=> .pure (.done (.ret (match f with| .ret F=>F|_=> .none)))) (λe=>(leaving (fH c) e).wrap (λw=> .raise e) .raise id id) id id (fH c) (.func (bodyOf kR) (fH c)) p]).in1):=(aU.Hl (k:=16) (r.in1.le (by decide))).in1;have a4:=akM (s:=(⟨h,(((⟨h,g,d,l,m⟩:aT).setGen i .running)).gens,d,l,m⟩:aT).setGen q .running) rr B e G.Ym n1 P Q S L R hl hr b M;exact(show(both ys).length-0=2*ys.length from Ab ys)▸acJ (r.in1.le (by decide)) C N (λa5 s hr hb=>Wf (.ok (.ret .none)) ⟨rfl,rfl,hr,λj hj=>by rw[gb.mp hj];exact hb⟩) ys.length 0 ((⟨h,g,d,l,m⟩:aT).setGen i .running) ((⟨h,g,d,l,m⟩:aT).setGen i .running) V rfl (dN _) n2 a0 a3 e E ⟨_,O,a4⟩ Rl.refl
theorem akx(B:Bs h)(r:aU 8 A)
  (q:∀s u w a h' P,Ge h t s u w a g.size (g.size+1) ⟨h',(g.push (.fresh (.func (bodyOf ke) (fS s)))).push (.fresh (.func (bodyOf kR) (fH u))),d,P,o⟩->
   R (.ok (.ret (.ref a))) ⟨h',(g.push (.fresh (.func (bodyOf ke) (fS s)))).push (.fresh (.func (bodyOf kR) (fH u))),d,P,o⟩):
  lT (MM) A (.call (.ref 520) ⟨[.ref t],[]⟩) R ⟨h,g,d,tk,o⟩:=by
 obtain⟨c,dd,sl,lk⟩:=(Lr pS).obj;refine MC (fd:=xq) (body:=bodyOf xq) (binds:=[("triangulation", .ref t)]) (by have:=r.d;show A.depth<1000;exact wx this) (B.k _ _ lk) rfl B.l (Ak B.k (Lr pS).code) rfl
  (eR rfl) (by decide) (λx hx=>by rw[gb.mp hx];rfl) (λa5 hn D=>?_) rfl rfl rfl
 have C:aU 7 (A.deeper (aY xq h.objs.size 520)):=r.deep;have m:=B.keeps D;refine bJ (E:=aE) (Q:=λf s'=>R (.ok (.ret (match f with|lA I=>I|_=> .none))) s') (de (qY ?_)) (λi i x=>x) (λi i x=>x.elim);refine mE (Ev.at (k:=7) (cB (x:="edges_with_opposites") (v:= .ref 425) m (by nofun)) C Ext.rfl λa6 a7 J=>(mQ (m.keeps J).k (by nofun) (cF ?_)));refine mE (Ev.at (k:=7) (cB (x:="to_unique_edges") (v:= .ref 541) (m.keeps J) (by nofun)) C Ext.rfl λa8 a9 e2=>?_);have L:=J.trans e2;refine mQ (m.keeps L).k (by nofun) (cF (Ev.at (k:=7) (ah (hn.keeps L)) C Ext.rfl λb0 b1 e3=>?_));have F:=L.trans e3;refine eQ ⟨(m.keeps F).k,dq (Fl (k:=6) (fd:=ke) (body:=bodyOf ke) (binds:=[("triangulation", .ref t)]) (m.keeps F) (abl _) rfl (λi i i i i i=>eR rfl) (by nofun) (by nofun) rfl rfl rfl C λs w G b2 e4 nL na aL S T=>?_)⟩;have H:=F.trans e4;refine eQ ⟨(m.keeps H).k,dq (Fl (k:=6) (fd:=kR) (body:=bodyOf kR) (binds:=[("edges", .ref w)]) (m.keeps H) (abj _) rfl (λi i i i i i=>eR rfl) (by nofun) (by nofun) rfl rfl rfl C λu a V a0 M N a3 a4 n2 io=>?_)⟩;have ez:Ext h V:=λp o j=>M _ _ (H _ _ (D p o j));have z1:=ft (λp o j=>F _ _ (D p o j)) nL;have z2:=ft (λp o j=>H _ _ (D p o j)) N;have O:∀{p o x},G.get? p=W o->G.get? x=X->p≠x:=λj n=>eg j n;have s1:∃o,G.get? s=W o:=Gk S;have s2:∃o,G.get? w=W o:=let⟨ob,_,_,j,_⟩:=T;⟨ob,j⟩;obtain⟨o1,Y⟩:=s1;obtain⟨o2,y2⟩:=s2;exact q s u w a V a0 ⟨ez,z1,z2,O Y N,aL,O y2 N,⟨_,S.keeps M,by rfl,by rfl,by rfl⟩,⟨_,n2,by rfl,by rfl,by rfl⟩,T.keeps M,by simpa using io,(O Y a3).symm,a4,o73,by simp[Array.getElem?_push],by have Z:=Jo (xs:=g.push (.fresh (.func (bodyOf ke) (fS s)))) (x:=JE (.func (bodyOf kR) (fH u)));simp only[CC] at Z;exact Z⟩
def Got(d:Nat->aq->Prop)(i:Nat)(b:Array aq):Prop:=b.size=i/\∀a<i,∃c,b[a]?=W c/\d a c
theorem adp(r:aU (k+1) A)(B:Bs z)(zS:z.get? S=X)(hS:z1.get? S≠X)(SL:S∉Lz)(aS:a≠S)(nM:∀o,¬M S o)(aM:∀o,¬M a o)(a0:m∉gp)(hv:∀i v s,a4 i v s->P i v)(hn:N<=fv):
  ∀(j i:Nat) (s:aT) (q:Array aq),N-i=j->i<=N->s.drawn=d->s.os=o->Ext z s.heap->s.heap.IsGen a m->mG A.in1 z z1 Lz gp M N a4 m i s->LO s.heap S q->Got P i q->Bx (m::gp) s.gens->
  (∀C a3,jC C.gens->Ext z C.heap->C.drawn=d->C.os=o->LO C.heap S a3->Got P N a3->R (.ok (.ret .none)) C)->lT (MM) A (.builtin "list.extend.loop" ⟨[.ref S, .ref a, .none],[]⟩) R s:=by
 intro j;induction j with
 |zero=>intro i s q t hi Y Z D J L lS n bx hR;have a5:i=N:=Bn t hi;cases a5;refine uz aaM ((Cz Dx _)▸(aB (bJ (E:=aE) (Fm r.in1 D (B.keeps D).l J L λu h' g f e=>?_) (λp p x=>x) λp p x=>x.elim)));obtain⟨nn,H⟩:=lS;exact aV (hR _ q (bx.fin g f) (λO G H=>e _ _ (g.base D O G H)) (g.dr.trans Y) (g.os.trans Z) ⟨nn,e _ _ (g.keep _ _ (nM _) H)⟩ n)
 |succ j ih=>
  intro i s q t hi Y Z D J L lS n bx hR;have aQ:i<N:=Bl t;have a6:∃st,s.gens[m]?=W st:=L.imp λp h=>h.1;refine uz aaM ?_;rw[Cz Dx _];refine aB (bJ (E:=aE) (Fp r.in1 (B.keeps D).l J L aQ λv u Q a7 g kp=>?_) (λp p x=>x) λp p x=>x.elim);obtain⟨nn,H⟩:=lS;have T:=g.keep _ _ (nM _) H;have a8:u.gens[m]?=W .running:=by obtain⟨st,h1⟩:=a6;rw[g.gens m a0];exact sZ h1
  refine aB ?_;have hE:Ext z (u.heap.update S (iA (·.push v))):=λO G V=>(vY _ _ (gng V zS)).trans (g.base D O G V);refine HX (s:=u.setGen m Q) T rfl (aV ⟨xZ Dx _,ih (i+1) _ (q.push v) (sM t) aQ (g.dr.trans Y) (g.os.trans Z) hE ?_ ⟨Q,sZ a8,kp _ ⟨hE,λO G I p V=>?_,λj t=>?_⟩⟩ ⟨_,vZ _ T rfl⟩ ⟨by rw[CC,n.1],λj t=>?_⟩ (bx.run g) hR⟩) (n.1▸(eT (aak aQ) hn)) (by show(q.push v).size<=fv+1;rw[CC,n.1];exact fj aQ (zJ hn))
  .obtain⟨G,nm,qn,T,y2,y3,y4⟩:=J;exact⟨G,nm,qn,(vY _ _ aS.symm).trans (g.keep _ _ (aM _) T),y2,y3,y4⟩
  .refine(vY _ _ ?_).trans V;rintro rfl;rcases I with I|I
   .exact SL I
   .exact hS I
  .have ne:j≠m:=by rintro rfl;exact a0 t
   exact((ry {u.setGen m Q with heap:=u.heap.update S (iA (·.push v))} m .running).2 j ne).trans ((ry u m Q).2 j ne)
  .by_cases c:j<i
   .obtain⟨v',e1,e2⟩:=n.2 j c;exact⟨v',by rw[Array.getElem?_push_lt (n.1▸c),<-e1,yZ],e2⟩
   .have:j=q.size:=by simp only[n.1];exact He t c
    subst this;exact⟨v,Jo ..,by rw[n.1];exact hv _ _ _ a7⟩
theorem Ge.keeps(G:Ge z t f g h a i j s)(e:Ext s.heap c.heap)(d:c.gens=s.gens):Ge z t f g h a i j c:=
 {G with e:=G.e.trans e,n1:=(let⟨b,x,y⟩:=G.n1;⟨b,x.keeps e,y⟩),n2:=(let⟨b,x,y⟩:=G.n2;⟨b,x.keeps e,y⟩),ig:=G.ig.keeps e,io:=G.io.keeps e,f1:=d▸G.f1,f2:=d▸G.f2}
theorem adZ(g:Got (λi v=>∃e,l[i]?=W e/\v= .ref (Y.ad e)) l.length b):b=cY Y l:=by
 apply Jq.mp;refine List.ext_getElem? λi=>?_;rw[zb];by_cases a:i<l.length
 .obtain⟨v,e1,e,e2,rfl⟩:=g.2 i a;rw[e1];simp[cY,e2]
 .have d:b.size<=i:=by simp only[g.1];exact qJ a
  exact(Array.getElem?_eq_none d)▸(List.getElem?_eq_none (by simp[cY];exact qJ a)).symm
theorem ae7(r:aU 28 A)(ab:jC g)(B:Bs z)(G:Ge z t E H ga a gi g2 ⟨h,g,d,tk,o⟩)(ne:g2≠gi)(T:cX z t td (.ref cx) (.ref (Y.ad ls)) (.ref (Y.ad rs)))(R:Rep z Y n on)(hl:ls<n)(hr:rs<n)
  (b:BR on [ls,rs] [] ys)(hy:ys.length<10000)(a8:∀e∈ys,e<n)
  (q:∀S h' I Z,jC I->Ext z h'->z.get? S=X->LO h' S (cY Y (both ys))->Q (.ref S) ⟨h',I,d,Z,o⟩):aF (MM) A (eU (.type "list") [.ref a]) Q aE ⟨h,g,d,tk,o⟩:=by
 refine PySem.callType_codes (Q₁:=λa3 a4=>a3= .ref h.objs.size/\a4=⟨h.push {cls:= .type "list",data:= .seq #[]},g,d,tk,o⟩) PySem.F.called_list (PySem.F.typeCall_list_1 _) PySem.F.entry_list_init (PySem.code_list_new _ ⟨rfl,rfl⟩) λa3 a4 J=>?_;obtain⟨rfl,rfl⟩:=J;have u:(h.push {cls:= .type "list",data:= .seq #[]}).get? h.objs.size=W {cls:= .type "list",data:= .seq #[]}:=jT _ rfl;have e1:Ext h (h.push {cls:= .type "list",data:= .seq #[]}):=λb o f=>eP _ f;have nS:h.get? h.objs.size=X:=jq (bT _);generalize (h.push {cls:= .type "list",data:= .seq #[]})=J at u e1⊢;generalize h.objs.size=S at u nS⊢;have zS:=ft G.e nS;have p:∀{b o},h.get? b=W o->b≠S:=λf=>eg f nS;refine⟨⟨_,u,rfl⟩,PySem.F.args_list_init_2 _ _,(aB ?_)⟩;unfold als;refine aB (Cn u rfl (aV (aB (HX u rfl ?_))));have L:=vZ (iA (λM=>(#[]:Array aq))) u rfl;have N:Ext h (J.update S (iA (λM=>(#[]:Array aq)))):=λb o f=>(vY _ _ (p f).symm).trans (e1 b o f);generalize (J.update S (iA (λM=>(#[]:Array aq))))=O at L N⊢;refine aB (wpAny_letGo ?_);have aS:a≠S:=by obtain⟨C,_,_,f,_⟩:=G.io;exact p f
 have hT:(⟨O,g,d,tk,o⟩:aT).TypeIs (.ref a) "generator":=by obtain⟨C,_,_,f,c,_⟩:=G.io;exact⟨C,N _ _ f,c⟩
 dsimp only[alr];refine aB (HW hT ?_);have h1:Yy (.ref S) (.ref a)=aw:=by simp[Yy,aS.symm]
 have h2:(rL "generator"==rL "list")=aw:=by decide
 have h3:(rL "generator"==rL "tuple")=aw:=by decide
 simp only[h1,Yw,ly,if_false];refine aB (HS (s:=⟨O,g,d,tk,o⟩) (G.io.keeps N) (aB (eH ?_)));unfold alu;refine aB (oX hT PySem.F.gen_no_len (aB (oX hT PySem.F.gen_no_hint ?_)));refine aV ?_;show aF _ _ (rule "list.extend.makes-room">>=λM=>alw (.ref S)>>=λM=>
  again (.builtin "list.extend.loop" ⟨[.ref S, .ref a, .none],[]⟩)) _ _ _
 refine aB (oW (aB ?_));refine aB (HX L rfl (HX (hz:=by seq_fits) (vZ (iA (·.push pW)) L rfl) rfl ?_));have a0:=vZ (iA (·.pop)) (vZ (iA (·.push pW)) L rfl) rfl;have e4:Ext h ((O.update S (iA (·.push pW))).update S (iA (·.pop))):=λb o f=>(vY _ _ (p f).symm).trans ((vY _ _ (p f).symm).trans (N b o f));generalize ((O.update S (iA (·.push pW))).update S (iA (·.pop)))=D at a0 e4⊢;have V:Ge z t E H ga a gi g2 ⟨D,g,d,tk,o⟩:=G.keeps e4 rfl;have a5:S≠E:=by obtain⟨m,⟨C,_,_,f,_⟩,_⟩:=G.n1;exact(p f).symm
 have a6:S≠H:=by obtain⟨m,⟨C,_,_,f,_⟩,_⟩:=G.n2;exact(p f).symm
 have a9:S≠ga:=by obtain⟨C,_,_,f,_⟩:=G.ig;exact(p f).symm
 have a7:D.get? S≠X:=by rw[a0];simp
 have b0:D.get? a≠X:=by obtain⟨C,_,_,f,_⟩:=V.io;rw[f];simp
 have nM:∀x,D.get? x≠X->x≠E->x≠H->∀o,¬oM D E H x o:=λx hx x1 x2 o hm=>by
  rcases hm with h|h|⟨h,_⟩
  .exact x2 h
  .exact x1 h
  .exact hx h
 refine aV ⟨xZ Dx _,?_⟩;refine adp (k:=20) (P:=λi v=>∃e,(both ys)[i]?=W e/\v= .ref (Y.ad e)) (r.in1.le (by decide)) B zS a7 (by simp[a5,a6,a9]) aS (nM S a7 a5 a6) (nM a b0 G.b1 G.b2) (λz=>ne (by simpa using z)) (λi v s h=>h) (by rw[Ab];exact(kl 0x10000002fc2811009c407f0a048 0x10421).2 hy)
  (both ys).length 0 _ #[] (aaB _) (dN _) rfl rfl V.e V.io (acI (A:=A.in1.in1) (r.in1.in1.le (by decide)) B V T R hl hr b hy a8) ⟨_,a0⟩ ⟨rfl,λj hj=>absurd hj (fT _)⟩ (Bx.of ab) λs' b6 b3 es hd ho l b4=>?_
 obtain⟨hp,I,d',Z,o'⟩:=s';subst hd;subst ho;simp only[adZ b4] at l;exact⟨rfl,q S hp I Z b3 es zS l⟩
def TK(h h':aK):Prop:=∀c a,a.cls= .type "tuple"->h.get? c=W a->h'.get? c=W a
theorem Ext.tq(e:Ext h h'):TK h h':=λa c f d=>e a c d
structure Kd(c:Type)[DecidableEq c] where
 is:aK->aq->c->Prop
 hash:c->Int
 rk:Nat
 dp:Nat
 un:∀{h v a b},is h v a->is h v b->a=b
 tq:∀{h h' v a},TK h h'->is h v a->is h' v a
 hs:∀{A:cT} {s:aT} {v a} {Q:Int->aT->Prop},aU rk A->is s.heap v a->(∀tk,Q (hash a) {s with toks:=tk})->aF (MM) A (pyHash v) Q aE s
 eq:∀{A:cT} {s:aT} {v u a b},aU rk A->is s.heap v a->is s.heap u b->nN A s v u (decide (a=b))
 qu:∀{A:cT} {s:aT} {v a n} {Q:Bool->aT->Prop},dp<=n->is s.heap v a->Q af s->aF (MM) A (As n v) Q aE s
 nc:∀{A:cT} {s:aT} {v a n} {Q:Bool->aT->Prop},dp<=n->is s.heap v a->Q aw s->aF (MM) A (By n v) Q aE s
 bv:∀{A:cT} {s:aT} {v a n} {Q:Bool->aT->Prop},dp<=n->is s.heap v a->Q af s->aF (MM) A (NY n v) Q aE s
section
noncomputable def kI:Kd Int where
 is:=λk l x=>∃g,l= .int x g
 hash:=hashInt
 rk:=0
 dp:=0
 un:=λy B=>by obtain⟨g,rfl⟩:=y;obtain⟨C,e⟩:=B;injection e with e _
 tq:=λk h=>h
 hs:=λ{m o l j p} k d f=>by obtain⟨g,rfl⟩:=d;exact wpAny_pyHash_int (f _)
 eq:=λ{m o l C j w} k d D=>by
  obtain⟨g,rfl⟩:=d;obtain⟨F,rfl⟩:=D;intro p f;refine Cj ?_;have:(j==w)=decide (j=w):=by by_cases E:j=w<;>simp[E]
  rw[this];exact f
 qu:=λ{m o l j r p} k d f=>by obtain⟨g,rfl⟩:=d;rw[eqIsQuiet_byValue r rfl];exact aV f
 nc:=λ{m o l j r p} k d f=>by obtain⟨g,rfl⟩:=d;cases r<;>exact aV f
 bv:=λ{m o l j r p} k d f=>by obtain⟨g,rfl⟩:=d;unfold NY;exact aV f
theorem tg(a:cU s.heap r vs)(q:Q vs s):aF (MM) A (zg (.ref r)) Q aE s:=by obtain⟨b,y,c,n,d⟩:=a;exact wpAny_tupleItemsOf y d q
theorem AP(a:cU s.heap r vs)(q:Q af s):aF (MM) A (uO (.ref r) (.type "tuple")) Q aE s:=
 wpAny_isInstance a.typeIs PySem.isSubtype_tuple_tuple q
variable {α:Type} [DecidableEq α]
def kr(K:Kd α)(h:aK)(v:aq)(a:α×α):Prop:=∃b x c,v= .ref b/\cU h b #[x,c]/\K.is h x a.1/\K.is h c a.2
theorem aiY(K:Kd α)(d:aU (K.rk+1) A)(f:kr K s.heap v a)(q:∀tk,Q (VY (CG [K.hash a.1,K.hash a.2])) {s with toks:=tk}):aF (MM) A (pyHash v) Q aE s:=by
 obtain⟨e,x,y,rfl,b,hx,hy⟩:=f;refine aB (m:=cRoomFor "hash" [.ref e]) (wpAny_cRoomFor_or (.inr (d.le (dN _):aU 0 A).u9) ?_);refine aB (oX (b.typeIs) zN.lookup ?_);rw[if_neg (by rw[beq_builtin_none];exact Jt)];refine aB (oX (b.typeIs) zN.lookup (aB (wpAny_callSpecialIfBoundUnlessNone?_slot (b.typeIs) zN (yp zN (b.typeIs) PySem.F.entry_tuple_hash ?_ (PySem.F.args_tuple_hash_1 _)))));show aF _ _ (zg (.ref e)>>=_) _ _ s;refine aB (tg b (aB ?_));rw[<-CA];refine jw (aB (K.hs d.in1 hx λg=>aV (jw (aB (K.hs (s:={s with toks:=g}) d.in1 hy λh=>aV (qo ?_))))));show aF _ _ (retInt (CG [K.hash a.1,K.hash a.2])) _ _ _;generalize CG [K.hash a.1,K.hash a.2]=c at q⊢;refine wpAny_ret_mkInt ?_;show aF _ _ (if(decide (-(2:Int)^63<=c)&&decide (c<2^63))=af then _ else _) Q _ _;unfold VY at q;by_cases hr:(decide (-(2:Int)^63<=c)&&decide (c<2^63))=af
 .rw[if_pos hr];rw[if_pos hr] at q;exact aV (q _)
 .rw[if_neg hr];rw[if_neg hr] at q;exact aB (oW (aV (q _)))
theorem VE(K:Kd α)(i:kr K h v a)(j:kr K h v b):a=b:=by obtain⟨p,x,y,rfl,⟨q,k,_,n,d⟩,hx,hy⟩:=i;obtain⟨s,t,u,c,⟨w,g,_,z,f⟩,l,m⟩:=j;injection c with c;subst c;replace g:=(k)▸g;cases g;simp only[d] at f;injection f with f _;have c:=congrArg Array.toList f;injection c with e1 c;injection c with e2 _;subst e1 e2;exact kL (K.un hx l) (K.un hy m)
theorem EA{a b:α×α}:decide (a=b)=(decide (a.1=b.1)&&decide (a.2=b.2)):=by rw[<-Js];exact decide_eq_decide.mpr ⟨λc=>c▸⟨rfl,rfl⟩,λc=>kL c.1 c.2⟩
theorem aiX(K:Kd α)(h:aU (K.rk+1) A)(m:kr K s.heap v a)(n:kr K s.heap u b):nN A s v u (decide (a=b)):=by
 obtain⟨i,x,y,rfl,d,hx,hy⟩:=m;obtain⟨o,p,t,rfl,f,j,k⟩:=n;intro C g;refine eH ?_;by_cases l:i=o
 .subst l;refine jA (decide_eq_true (by simp)) ?_;have:a=b:=VE K ⟨i,x,y,rfl,d,hx,hy⟩ ⟨i,p,t,rfl,f,j,k⟩;rw[decide_eq_true this] at g;exact aB (oW (aV g))
 .refine cW (decide_eq_false (λw=>l (by simpa using w))) ?_;rw[EA] at g;exact aB (Xh (op:= .Eq) d.typeIs f.typeIs zM
   (yp zM d.typeIs aaN (HG (AP f) (tg d) (tg f) (K.eq h.in1 hx j _) (K.eq h.in1 hy k _) ⟨_,rfl,(λB=>nomatch B),gH g⟩) (aaL _ _)) (h.le (dN _):aU 0 A).u9)
theorem ai0(K:Kd α)(f:K.dp+1<=n)(h:kr K s.heap v a)(q:Q af s):aF (MM) A (As n v) Q aE s:=by obtain⟨j,x,y,rfl,b,hx,hy⟩:=h;obtain⟨e,rfl⟩:∃e,n=e+1:=⟨n-1,Gy f⟩;have g:K.dp<=e:=Gz f;unfold As;refine aB (oX b.typeIs zM.lookup (aB (AP b (cW rfl ?_))));obtain⟨k,i,c,nn,d⟩:=b;refine aB (Cn i d (aB ?_));rw[<-CA];exact jw (aB (K.qu g hx (cW rfl (aV (jw (aB (K.qu g hy (cW rfl (aV (qo (aV q)))))))))))
theorem aiZ(K:Kd α)(e:K.dp+1<=n)(h:kr K s.heap v a)(q:Q aw s):aF (MM) A (By n v) Q aE s:=by obtain⟨j,x,y,rfl,f,hx,hy⟩:=h;obtain⟨b,rfl⟩:∃b,n=b+1:=⟨n-1,Gy e⟩;have g:K.dp<=b:=Gz e;unfold By;refine aB (HW f.typeIs (jA (decide_eq_true rfl) (aB (aV (cW rfl ?_)))));obtain⟨k,i,c,nn,d⟩:=f;refine aB (Cn i d (aB ?_));rw[<-CA];exact jw (aB (K.nc g hx (cW rfl (aV (jw (aB (K.nc g hy (cW rfl (aV (qo (aV q)))))))))))
theorem aiW(K:Kd α)(e:K.dp+1<=n)(h:kr K s.heap v a)(q:Q af s):aF (MM) A (NY n v) Q aE s:=by obtain⟨j,x,y,rfl,f,hx,hy⟩:=h;obtain⟨b,rfl⟩:∃b,n=b+1:=⟨n-1,Gy e⟩;have g:K.dp<=b:=Gz e;refine aB (oX f.typeIs zN.lookup ?_);obtain⟨k,i,c,nn,d⟩:=f;refine aB (Cn i d (aB ?_));rw[<-CA];exact jw (aB (K.bv g hx (cW rfl (aV (jw (aB (K.bv g hy (cW rfl (aV (qo (aV q)))))))))))
noncomputable def kP(K:Kd α):Kd (α×α) where
 is:=kr K
 hash:=λe=>VY (CG [K.hash e.1,K.hash e.2])
 rk:=K.rk+1
 dp:=K.dp+1
 un:=VE K
 tq:=λb=>iO λc=>iO λc=>iO λc=>vT (yY (iO λc d=>⟨b _ _ d.2.1 d.1,d.2⟩) (yY (K.tq b) (K.tq b)))
 hs:=aiY K
 eq:=aiX K
 qu:=ai0 K
 nc:=aiZ K
 bv:=aiW K
end
theorem Pg:∀(m:Nat) (l:List Nat),l.length<=m->∃j,j<=m/\j∉l
 |0,l,h=>⟨0,bT _,by have:l=[]:=ZL.mp (Nat.le_zero.mp h);subst this;simp⟩
 |m+1,l,h=>by
  by_cases a:m+1∈l
  .obtain⟨j,h1,h2⟩:=Pg m (l.erase (m+1)) ((ZM a)▸(Nat.sub_le_of_le_add h));exact⟨j,KD h1,λb=>h2 ((ZQ ((dz 0x4291208a4a008 0x8822).2 h1)).mpr b)⟩
  .exact⟨m+1,bT _,a⟩
def nW(m:Nat):Prop:=m=7\/m=31\/m=127
noncomputable def f5(m:Nat):Nat->Nat->Nat
 |0,a=>a
 |b+1,a=>f5 m b ((a*5+1)%(m+1))
theorem AB(m:Nat):∀a b i,f5 m (a+b) i=f5 m b (f5 m a i)
 |0,b,i=>by rw[wD];rfl
 |a+1,b,i=>by rw[KO];exact AB m a b _
theorem adq(h:nW m):(fD (m+1)).all (λi=>(fD (m+1)).any λk=>f5 m k 0==i)=af/\f5 m (m+1) 0=0:=by rcases h with rfl|rfl|rfl<;>decide+kernel
theorem ads(h:nW m)(d:i<=m)(p:j<=m):∃k,k<=m/\f5 m k i=j:=by
 obtain⟨al,z⟩:=adq h;have l:∀i,i<=m->∃k,k<=m/\f5 m k 0=i:=λi d=>by have:=nP.mp al i (jV.mpr (uj d));obtain⟨k,hk,e⟩:=we.mp this;exact⟨k,pK (jV.mp hk),beq_iff_eq.mp e⟩
 obtain⟨f,ha,n⟩:=l i d;obtain⟨g,hb,eb⟩:=l j p;by_cases o:f<=g
 .refine⟨g-f,ah5 hb,?_⟩;rw[<-n,<-AB,Kw o,eb]
 .refine⟨m+1-f+g,(gm 0x10a5880a48148428084842812dc8 0x10046008c21000240840100461).2 rfl hb o,?_⟩;rw[<-n,<-AB,<-aab,Kw (KD ha),AB,z,eb]
noncomputable def jx(m:Nat):Nat->Nat×Nat->Nat×Nat
 |0,a=>a
 |b+1,a=>jx m b (wM m a.1 a.2)
theorem OL(m:Nat):∀a b p,jx m (a+b) p=jx m b (jx m a p)
 |0,b,p=>by rw[wD];rfl
 |a+1,b,p=>by rw[KO];exact OL m a b _
theorem OO(m:Nat):∀k p,(jx m k p).2=p.2/32^k
 |0,p=>by show p.2=p.2/1;rw[Nat.div_one]
 |k+1,p=>by show(jx m k (wM m p.1 p.2)).2=_;simp only[OO m k,KI,Nat.mul_comm,<-Nat.div_div_eq_div_mul];rfl
theorem OM(m:Nat):∀k i,(jx m k (i,0)).1=f5 m k i
 |0,i=>rfl
 |k+1,i=>by show(jx m k ((i*5+1+0/32)%(m+1),0/32)).1=f5 m k ((i*5+1)%(m+1));exact OM m k _
theorem ON(h:nW m)(a:p<2^64)(b:j<=m):∃k,k<m+15/\(jx m k (i,p)).1=j:=by
 have c:(jx m 13 (i,p)).2=0:=by rw[OO];exact aag (fj a (by decide))
 have hl:(jx m 13 (i,p)).1<=m:=by exact pK (wB _ (um _))
 obtain⟨k,hk,e⟩:=ads h hl b;refine⟨13+k,ah6 hk,?_⟩;rw[OL,show jx m 13 (i,p)=((jx m 13 (i,p)).1,0) from kL rfl c,OM];exact e
noncomputable def dC(t:gZ):Nat->rI->rI
 |0,a=>a
 |b+1,a=>dC t b (t.advance a)
theorem sJ(t:gZ):∀a b p,dC t (a+b) p=dC t b (dC t a p)
 |0,b,p=>by rw[wD];rfl
 |a+1,b,p=>by rw[KO];exact sJ t a b _
noncomputable def oT(m:Nat)(x:Nat×Nat):rI:={j:=x.1,more:=iB m x.1-x.1,i:=x.1,perturb:=x.2,dummy:=X}
theorem Gl(t:gZ):∀(r:Nat) (p:rI),p.more=r->p.dummy=X->dC t (r+1) p=oT t.mask (wM t.mask p.i p.perturb)
 |0,p,h,a=>by show t.advance p=_;unfold wJ;rw[if_neg (by exact(kl 0x100089400a088 0x8421).2 h)];rw[a];rfl
 |r+1,p,h,a=>by
  show dC t (r+1) (t.advance p)=_;have b:t.advance p={p with j:=p.j+1,more:=p.more-1}:=by unfold wJ;rw[if_pos (by exact wy h)]
  exact b▸Gl t r _ (by show p.more-1=r;exact kD (aah h.symm)) a
theorem Po(t:gZ):∀(k:Nat) (x:Nat×Nat),∃K,K<=10*k/\dC t K (oT t.mask x)=oT t.mask (jx t.mask k x)
 |0,x=>⟨0,bT _,rfl⟩
 |k+1,x=>by
  obtain⟨K,a,e⟩:=Po t k (wM t.mask x.1 x.2);have hr:iB t.mask x.1-x.1<=9:=by unfold iB;split<;>lia
  refine⟨iB t.mask x.1-x.1+1+K,(oC 0x10ac4a22821608404858042d4450109431c8 0x220840110420).2 rfl a hr,?_⟩;simp only[sJ,(Gl t (iB t.mask x.1-x.1) (oT t.mask x) rfl rfl)];exact e
theorem afE(a:nW t.mask)(b:j<=t.mask):∃K,K<10*uq t.mask/\(dC t K (t.probeStart h)).j=j:=by
 have c:hO h<2^64:=by unfold hO;lia
 obtain⟨d,hk,e⟩:=ON (i:=hO h%(t.mask+1)) a c b;obtain⟨K,f,e2⟩:=Po t d (hO h%(t.mask+1),hO h);refine⟨K,by unfold uq;exact(fq 0xf0a44a2204a5110043c2912848 0x10048908421).2 hk f,?_⟩;have g:t.probeStart h=oT t.mask (hO h%(t.mask+1),hO h):=rfl;simp only[g,e2];exact e
noncomputable abbrev lI(xs:Array Nat):Prop:=xs.toList.Pairwise (·<·)
theorem lI.lt(r:lI xs)(a:j<xs.size)(h:i<j):xs[i]'(wA h a)<xs[j]:=by have:=Dm.mp r i j (by simpa using wA h a) (by simpa using a) h;simpa using this
theorem DT(r:lI xs):∀(d b a:Nat),a<=b+d->b<=a->a<=xs.size->(∀i,(h:i<xs.size)->i<b->xs[i]<j)->(∀i,(h:i<xs.size)->a<=i->j<=xs[i])->
  (∀i,(h:i<xs.size)->i<DA xs j d b a->xs[i]<j)/\(∀i,(h:i<xs.size)->DA xs j d b a<=i->j<=xs[i])/\DA xs j d b a<=xs.size
 |0,b,a,m,p,l,n,o=>by have:b=a:=wq p m;subst this;exact⟨n,o,l⟩
 |d+1,b,a,m,p,l,n,o=>by
  unfold DA;by_cases f:b<a
  .rw[if_pos f];have q:(b+a)/2<xs.size:=ah7 l f;have t:xs.getD ((b+a)/2) j=xs[(b+a)/2]:=by simp[Jl,q]
   dsimp only;rw[t];by_cases k:xs[(b+a)/2]<j
   .rw[if_pos k];refine DT r d _ a (ah8 m) (ah9 f) l (λi h s=>?_) o;rcases aaq i ((b+a)/2) with g|g
    .exact wA (r.lt q g) k
    .have:i=(b+a)/2:=Nat.eq_of_le_of_lt_succ g s;subst this;exact k
   .rw[if_neg k];refine DT r d b _ (aia m) (aib f) (iy q) n λi h s=>?_;rcases aaq ((b+a)/2) i with g|g
    .have:=r.lt h g;exact eT (aaj k) this
    .have:i=(b+a)/2:=wq g s;subst this;exact qJ k
  .rw[if_neg f];have:b=a:=vf p f;subst this;exact⟨n,o,l⟩
theorem DU(r:lI xs)(j:Nat):(∀i,(h:i<xs.size)->i<wK xs j->xs[i]<j)/\(∀i,(h:i<xs.size)->wK xs j<=i->j<=xs[i])/\wK xs j<=xs.size:=
 DT r xs.size 0 xs.size (aic) (dN _) (bT _) (λi b h=>absurd h (fT _)) λi h a=>by exact(gm 0x250052c085a848 0x8822).2 h a
structure Wt(t:gZ)(n:Nat):Prop where
 d:t.dummies=#[]
 p:t.place.size=n
 r:lI t.place
 m:(t.mask=7/\n<5)\/(t.mask=31/\n<19)\/(t.mask=127/\n<77)
theorem Wt.OY(w:Wt t n):nW t.mask:=w.m.imp Jj λh=>h.imp Jj Jj
theorem Wt.le(w:Wt t n):n<=t.mask:=by have:=w.m;exact(dz 0x94004d17c2810fe2f852434c2817c3f0a4863942811c29218e8 0x1004a008421000200940108421000200940108421).2 this
theorem Wr(w:Wt t n)(h:j∉t.place.toList):t.slot j= .empty:=by
 dsimp only[aa3];have a:(t.place[wK t.place j]?==W j)=aw:=by rw[beq_eq_false_iff_ne];intro b;exact h (Array.mem_toList_iff.mpr (Yt b))
 have:aa0 t.dummies j=aw:=by rw[w.d];unfold aa0;simp
 simp[a,this]
theorem HC(w:Wt t n)(h:t.place[i]?=W j):t.slot j= .live i:=by
 obtain⟨a,e⟩:=tY.mp h;obtain⟨b,b2,d⟩:=DU w.r j;have:wK t.place j=i:=by
  rcases KH (wK t.place j) i with g|g|g
  .have c:=w.r.lt a g;exact(oC 0x250462c08530485a888 0x210840110440).2 e c (b2 _ (wA g a) (bT _))
  .exact g
  .have:=b i a g;exact(gm 0x25045a8485a888 0x100460).2 e this
 unfold aa3;dsimp only;rw[this,h];simp
theorem Wq(w:Wt t n)(j:Nat):(t.slot j= .empty/\j∉t.place.toList)\/∃i,t.slot j= .live i/\i<n/\t.place[i]?=W j:=by
 by_cases a:j∈t.place.toList
 .obtain⟨i,e⟩:=Kc a;rw[zb] at e;exact .inr ⟨i,HC w e,w.p▸(tY.mp e).1,e⟩
 .exact .inl ⟨Wr w a,a⟩
theorem akd(w:Wt t n):∃j,j<=t.mask/\t.slot j= .empty:=by obtain⟨j,h1,h2⟩:=Pg t.mask t.place.toList (by rw[CB,w.p];exact w.le);exact⟨j,h1,Wr w h2⟩
theorem NX{hashAt:Nat->Int}(w:Wt t n):∀(d K:Nat) (p:rI),K<d->p.dummy=X->t.slot (dC t K p).j= .empty->
  ∃a,a<=K/\(∀k<a,∃i,t.slot (dC t k p).j= .live i/\hashAt i≠h)/\
  ((t.slot (dC t a p).j= .empty/\Ll t hashAt h d p=W (.empty (dC t a p).j X))\/
  (∃i,a<K/\Ll t hashAt h d p=W (.candidate (dC t a p).j i (dC t (a+1) p))/\t.slot (dC t a p).j= .live i/\i<n))
 |d+1,K,p,o,m,f=>by
  dsimp only[Ll];rcases Wq w p.j with⟨b,_⟩|⟨i,b,q,_⟩
  .refine⟨0,dN _,λk hk=>absurd hk (fT _), .inl ⟨b,?_⟩⟩;simp only[b,m];rfl
  .simp only[b];cases K with
   |zero=>rw[show dC t 0 p=p from rfl,b] at f;cases f
   |succ K=>
    by_cases e:(hashAt i==h)=af
    .exact⟨0,dN _,λk hk=>absurd hk (fT _), .inr ⟨i,um _,by rw[e];rfl,b,q⟩⟩
    .have r:(t.advance p).dummy=X:=by dsimp only[wJ];split<;>exact m
     obtain⟨a,h1,h2,s⟩:=NX w d K (t.advance p) (GX o) r f;refine⟨a+1,RD h1,λk hk=>?_,?_⟩
     .cases k with
      |zero=>exact⟨i,b,by simpa using e⟩
      |succ k=>exact h2 k (GX hk)
     .rcases s with⟨g,l⟩|⟨u,g,l,v⟩
      .exact .inl ⟨g,by simp only[e];exact l⟩
      .exact .inr ⟨u,Bw g,by simp only[e];exact l,v⟩
theorem AI{b:Type}{f g:Nat->Option b}:∀{l:List Nat},(∀i∈l,g i=f i)->l.filterMap g=l.filterMap f
 |[],_=>rfl
 |c::l,h=>by rw[ZD,ZD,h c (by simp),AI λi d=>h i (by simp[d])]
theorem NH{n:Type}{f g:Nat->Option n}{j:Nat}{b:n}(hf:f j=X)(o:g j=W b)(e:∀i,i≠j->g i=f i):∀{l:List Nat},l.Nodup->j∈l->(l.filterMap g).Perm (b::l.filterMap f)
 |k::l,r,h=>by
  obtain⟨s,n2⟩:=lF.mp r;by_cases m:k=j
  .subst m;have:l.filterMap g=l.filterMap f:=AI λi t=>e i (λh=>s (h▸t));rw[wg o,JX hf,this]
  .have p:=NH hf o e n2 ((cP.mp h).resolve_left (fN m));have q:=e k m;cases d:f k with
   |none=>rw[JX d,JX (q.trans d)];exact p
   |some u=>rw[wg d,wg (q.trans d)];exact(p.cons u).trans (List.Perm.swap ..)
theorem NF{b:Type}{f:Nat->Option b}:∀{l:List Nat},(∀i∈l,f i≠X)->(l.filterMap f).length=l.length
 |[],_=>rfl
 |c::l,h=>by obtain⟨g,d⟩:=aaF.mp (h c (by simp));rw[wg d,jD,NF λi e=>h i (by simp[e])];rfl
noncomputable abbrev live(m:Nat)(o:Array (Option Nat)):List (Nat×Nat):=(fD (m+1)).filterMap λa=>(o.getD a X).map (a,·)
noncomputable abbrev sq(t:gZ)(h:Int)(K:Nat):Nat:=(dC t K (t.probeStart h)).j
structure Ow(t:gZ)(hs:List Int)(o:Array (Option Nat))(k:Nat):Prop where
 sz:o.size=t.mask+1
 pm:((live t.mask o).map (·.2)).Perm (fD k)
 pa:∀j v,o.getD j X=W v->∃h,hs[v]?=W h/\∃K,sq t h K=j/\∀a<K,o.getD (sq t h a) X≠X
theorem getD_none{o:Array (Option Nat)}{j:Nat}(h:(o.getD j (W 0)).isNone=af):j<o.size/\o.getD j X=X:=by
 by_cases a:j<o.size
 .refine⟨a,?_⟩;simp only[Jl,a,dif_pos] at h⊢;exact aaE.mp h
 .simp only[Jl,a] at h;simp at h
theorem getD_some{o:Array (Option Nat)}{j:Nat}(b:j<o.size)(h:(o.getD j (W 0)).isNone=aw):o.getD j X≠X:=by intro a;simp only[b,dif_pos] at h a;replace h:=(a)▸h;cases h
theorem adU{o:Array (Option Nat)}{j k:Nat}(b:j<o.size)(i:Nat):(o.setIfInBounds j (W k)).getD i X=if i=j then W k else o.getD i X:=by
 simp only[Jn,Array.getElem?_setIfInBounds];by_cases a:j=i
 .subst a;simp[b]
 .rw[if_neg a,if_neg (fN a)]
set_option tactic.hygienic true in
theorem Ow.set{t:gZ}{hs:List Int}{o:Array (Option Nat)}{k j K:Nat}{h:Int}(w:Ow t hs o k)(s:(o.getD j (W 0)).isNone=af)(u:hs[k]?=W h)(e:sq t h K=j)(p:∀d<K,o.getD (sq t h d) X≠X):Ow t hs (o.setIfInBounds j (W k)) (k+1):=by
 obtain⟨r,h2⟩:=getD_none s;have l:=adU (k:=k) r;have st:∀a,o.getD a X≠X->(o.setIfInBounds j (W k)).getD a X≠X:=λa n=>by
  rw[l];split
  .simp
  .exact n
 refine⟨by simp[w.sz],?_,λa x m=>?_⟩
 .have:=NH (f:=λj=>(o.getD j X).map (j,·)) (g:=λa=>((o.setIfInBounds j (W k)).getD a X).map (a,·)) (j:=j) (b:=(j,k)) (by rw[h2];rfl) (by rw[l,if_pos rfl];rfl) (λa n=>by rw[l,if_neg n]) ZT (jV.mpr (w.sz▸r));have:=(this.map (λz:Nat×Nat=>z.2)).trans (w.pm.cons k);exact Kj▸this.trans (ZV k _).symm
 .rw[l] at m;split at m
  .cases m;rename_i A;exact⟨h,u,K,e.trans A.symm,λd q=>st _ (p d q)⟩
  .obtain⟨B,a1,C,a2,D⟩:=w.pa a x m;exact⟨B,a1,C,a2,λd q=>st _ (D d q)⟩
set_option tactic.hygienic true in
theorem Ow.free{t:gZ}{hs:List Int}{o:Array (Option Nat)}{k:Nat}(w:Ow t hs o k)(hk:k<=t.mask):∃j,j<=t.mask/\(o.getD j (W 0)).isNone=af:=by
 false_or_by_contra
 rename_i f;have:(live t.mask o).length=t.mask+1:=by
  rw[NF (l:=fD (t.mask+1)),ud];intro a g h;have b:=jV.mp g;refine f ⟨a,pK b,?_⟩;have m:a<o.size:=by simp only[w.sz];exact b
  have d:=Option.map_eq_none_iff.mp h;simp only[m,dif_pos] at d⊢;rw[d];rfl
 have e:=w.pm.length_eq;simp only[cO,this,ud] at e;exact(dz 0x5a021488884a008 0x8821).2 hk e
theorem Gm(t:gZ):∀(k:Nat) (p:rI),k<=p.more->(dC t k p).j=p.j+k
 |0,p,_=>rfl
 |k+1,p,h=>by
  have a:t.advance p={p with j:=p.j+1,more:=p.more-1}:=by dsimp only[wJ];rw[if_pos (KS h)]
  show(dC t k (t.advance p)).j=_;rw[a,Gm t k _ (by show k<=p.more-1;exact aal h)];show p.j+1+k=p.j+(k+1);exact agm
theorem Wc(h:i<=m):i<=iB m i/\iB m i<=m:=by unfold iB;split<;>lia
theorem Pl(t:gZ):∀(k:Nat) (p:rI),p.j+p.more<=t.mask->(dC t k p).j<=t.mask
 |0,p,h=>eT (fF ..) h
 |k+1,p,h=>by
  refine Pl t k (t.advance p) ?_;dsimp only[wJ];split
  .show p.j+1+(p.more-1)<=_;exact(gm 0xa58428108090044852502020214adc8 0x200940110420004a10802008c0110421).2 rfl h ‹_›
  .have a:(wM t.mask p.i p.perturb).1<=t.mask:=pK (wB _ (um _));have:=Wc a;exact Qj this
theorem Wu(t:gZ)(h:Int)(K:Nat):sq t h K<=t.mask:=by refine Pl t K _ ?_;have a:hO h%(t.mask+1)<=t.mask:=pK (wB _ (um _));have:=Wc a;exact Qj this
inductive YQ(t:gZ)(o:Array (Option Nat))(f:Nat)(x:Nat×Nat):Prop
 |mk (c d:Nat) (e:wL t.mask o f x.1 x.2=W c) (n:(o.getD c (W 0)).isNone=af) (a:(dC t d (oT t.mask x)).j=c) (b:∀k<d,(o.getD (dC t k (oT t.mask x)).j (W 0)).isNone=aw)
theorem NR:∀(d K:Nat) (x:Nat×Nat),K<d->(o.getD (jx t.mask K x).1 (W 0)).isNone=af->
  YQ t o d x
 |d+1,K,x,p,h=>by
  have l:x.1<=iB t.mask x.1:=by unfold iB;split<;>lia
  cases hf:(fD (iB t.mask x.1+1-x.1)).find? λa=>(o.getD (x.1+a) (W 0)).isNone with
  |some a=>obtain⟨q,a2,r⟩:=List.find?_range_eq_some.mp hf;have m:∀b,b<=a->(dC t b (oT t.mask x)).j=x.1+b:=λb f=>Gm t b _ (by show b<=iB t.mask x.1-x.1;exact agn (jV.mp a2) f);exact⟨x.1+a,a,(by dsimp only[wL];rw[hf]),q,m a (bT _),λb f=>by rw[m b (iy f)];simpa using r b f⟩
  |none=>
   cases K with
   |zero=>have:=(ZG.mp hf) 0 (jV.mpr ((fq 0x500224240848428129c8 0x8421004611000120441).2 rfl l));simp only[aaf] at this;exact absurd h this
   |succ K=>
    obtain⟨s,u,b1,b2,v,w⟩:=NR d K (wM t.mask x.1 x.2) (GX p) h;have g:=Gl t (iB t.mask x.1-x.1) (oT t.mask x) rfl rfl;have g:=g;refine⟨s,iB t.mask x.1-x.1+1+u,(by dsimp only[wL];rw[hf];exact b1),b2,by simp only[sJ,g];exact v,λa hk=>?_⟩;by_cases i:a<iB t.mask x.1-x.1+1
    .rw[Gm t a _ (by show a<=iB t.mask x.1-x.1;exact pK i)];exact(Bool.not_eq_true _).mp ((ZG.mp hf) a (jV.mpr (ago l i)))
    .have n:a=iB t.mask x.1-x.1+1+(a-(iB t.mask x.1-x.1+1)):=(oC 0xc08562120810ac48129010ac48639495b8c8 0x8c210002008c2000401280240840008c210042108420).2 (au rfl rfl) i;rw[n,sJ,g];exact w _ (agp hk n)
theorem Oz{t:gZ}{d:List Int}(g:nW t.mask):∀(hs:List Int) (o:Array (Option Nat)) (k:Nat),Ow t d o k->(∀i,hs[i]?=d[k+i]?)->k+hs.length<=t.mask->∃c,Ow t d c (k+hs.length)/\(hs.foldl (λ(q:Option (Array (Option Nat)×Nat)) h=>do
  let(a,k)<-q;let j<-wL t.mask a (uq t.mask) (hO h%(t.mask+1)) (hO h)
  bj (a.setIfInBounds j (W k),k+1)) (W (o,k)))=W (c,k+hs.length)
 |[],o,k,b,_,_=>⟨o,b,rfl⟩
 |x::hs,o,k,b,l,hl=>by
  simp only[jD] at hl;obtain⟨z,h1,h2⟩:=b.free (aai hl);have r:hO x<2^64:=by unfold hO;lia
  obtain⟨m,s,e⟩:=ON (i:=hO x%(t.mask+1)) g r h1;obtain⟨j,u,e1,e2,e4,v⟩:=NR (t:=t) (o:=o) (uq t.mask) m (hO x%(t.mask+1),hO x) (by unfold uq;exact s) (e▸h2);have f:=b.set (h:=x) (K:=u) e2 (by have:=l 0;simpa using this.symm) e4 λn y=>getD_some (b.sz▸uj (Wu t x n)) (v n y);obtain⟨c,f,e3⟩:=Oz g hs _ (k+1) f (λi=>by have:=l (i+1);simp only[ZH] at this;rw[this];congr 1;exact Qk) ((fq 0xa484281080a0852240808 0x8421).2 hl);have p:k+(x::hs).length=k+1+hs.length:=by simp only[jD];exact Qk
  refine⟨c,p▸f,?_⟩;rw[wh,p];have:(do
   let(a,k)<-W (o,k);let j<-wL t.mask a (uq t.mask) (hO x%(t.mask+1)) (hO x)
   bj (a.setIfInBounds j (W k),k+1))=W (o.setIfInBounds j (W k),k+1):=by
   show(wL t.mask o (uq t.mask) (hO x%(t.mask+1)) (hO x)).bind _=_;rw[e1];rfl
  exact this▸e3
def Gd(t:gZ)(hs:List Int):Prop:=∀(a:Nat) (h:Int) (b:Nat),hs[a]?=W h->t.place[a]?=W b->∃c,sq t h c=b/\∀d<c,sq t h d∈t.place.toList
theorem Pq(e:t.mask=t'.mask):∀(k:Nat) (p:rI),dC t k p=dC t' k p
 |0,_=>rfl
 |k+1,p=>by
  show dC t k (t.advance p)=dC t' k (t'.advance p);have:t.advance p=t'.advance p:=by dsimp only[wJ];rw[e]
  rw[this];exact Pq e k _
theorem Wv(e:t.mask=t'.mask)(h:Int)(k:Nat):sq t h k=sq t' h k:=by
 have:t.probeStart h=t'.probeStart h:=by unfold SetTable.probeStart;rw[e]
 unfold sq;rw[this,Pq e]
theorem NG{hs:Array Int}:∀{l:List (Nat×Nat)},(∀y∈l,∃x,hs.toList[y.2]?=W x)->(l.map (·.2)).filterMap (hs[·]?)=l.map λy=>(hs.toList[y.2]?).getD 0
 |[],_=>rfl
 |y::l,h=>by obtain⟨x,hx⟩:=h y (by simp);rw[nT,wg (b:=x) (by rw[zb] at hx;exact hx),nT,hx,NG λa c=>h a (by simp[c])];rfl
inductive Zp(m f v:Nat)(led pl:Bool)(hs:Array Int)(n:Nat):Prop
 |mk (a:gZ) (b:Array Nat) (e:aa1 m f v led pl hs=W (a,b)) (h1:a.mask=m) (h2:a.dummies=#[]) (c:a.place.size=n) (d:lI a.place) (g:b.toList.Perm (fD n)) (h:Gd a (b.toList.filterMap (hs[·]?)))
theorem aeI{m f v:Nat}{led pl:Bool}{hs:Array Int}{n:Nat}(M:nW m)(I:hs.size=n)(hl:n<=m):
  Zp m f v led pl hs n:=by
 generalize N:(⟨m,#[],#[],0,af,0,af⟩:gZ)=c;have O:c.mask=m:=by rw[<-N]
 subst O;have w0:Ow c hs.toList (Jp (c.mask+1) X) 0:=by
  have g:∀l,(Jp (c.mask+1) (X:Option Nat)).getD l X=X:=λl=>by simp only[Jn,Array.getElem?_replicate];split<;>rfl
  refine⟨by simp,?_,λl v p=>by rw[g] at p;cases p⟩;have:live c.mask (Jp (c.mask+1) (X:Option Nat))=[]:=by refine List.eq_nil_iff_forall_not_mem.mpr λx C=>?_;obtain⟨l,_,p⟩:=Df.mp C;rw[g] at p;cases p
  rw[this];exact Zr _
 obtain⟨q,w,p⟩:=Oz M hs.toList _ 0 w0 (λD=>by simp only[wD]) (by simp only[CB,I];exact(dz 0x128004404a008 0x8421).2 hl);simp only[CB,I,wD] at w p;have P:aa2 c.mask hs=W q:=by dsimp only[aa2];rw[<-Array.foldl_toList];exact(congrArg (Du (·.1)) p)
 have Q:(live c.mask q).length=n:=by have:=w.pm.length_eq;rwa [cO,ud] at this
 have E:∀l F,(l,F)∈live c.mask q↔l<c.mask+1/\q.getD l X=W F:=λl F=>by
  constructor
  .intro h;obtain⟨Z,R,p⟩:=Df.mp h;obtain⟨v,G,p⟩:=kK.mp p;cases p;exact⟨jV.mp R,G⟩
  .rintro⟨r,s⟩;exact Df.mpr ⟨l,jV.mpr r,by rw[s];rfl⟩
 refine⟨⟨c.mask,((live c.mask q).map (·.1)).toArray,#[],f,led,v,pl⟩,((live c.mask q).map (·.2)).toArray,by unfold aa1;rw[P];rfl,rfl,rfl,?_,?_,w.pm,?_⟩
 .simp only[jW,cO];exact Q
 .show List.Pairwise (·<·) ((live c.mask q).map (·.1));rw[List.pairwise_map];refine alE _ (λJ b S x C d z=>?_) (List.pairwise_lt_range);obtain⟨v,_,rfl⟩:=kK.mp C;obtain⟨u,_,rfl⟩:=kK.mp z;exact S
 .intro D h l r s;have T:∀d,d∈live c.mask q->∃x,hs.toList[d.2]?=W x:=λd z=>by obtain⟨x,J,_⟩:=w.pa d.1 d.2 ((E d.1 d.2).mp z).2;exact⟨x,J⟩
  have r:(((live c.mask q).map (·.2)).filterMap (hs[·]?))[D]?=W h:=r;replace r:=(kF)▸((NG T))▸r;obtain⟨d,z,A⟩:=kK.mp r;have s:((live c.mask q).map (·.1)).toArray[D]?=W l:=s;replace s:=(z)▸(kF)▸(Ke)▸s;cases s;obtain⟨x,a1,B,a2,V⟩:=w.pa d.1 d.2 ((E d.1 d.2).mp (ug z)).2;replace A:=(a1)▸A;have A:x=h:=A;subst A;have L:=λB=>Wv (t:=⟨c.mask,((live c.mask q).map (·.1)).toArray,#[],f,led,v,pl⟩) (t':=c) rfl x B;refine⟨B,(L B).trans a2,λH Y=>?_⟩;rw[L H];obtain⟨v,G⟩:=aaF.mp (V H Y);exact dc.mpr ⟨(_,v),(E _ v).mpr ⟨uj (Wu c x H),G⟩,rfl⟩
def SO(h:aK)(S:az)(a:Array (Int×aq))(t:gZ):Prop:=∃b,h.get? S=W ⟨.type "set",X, .set a b t,#[]⟩
section
variable {α:Type} [DecidableEq α] {A:Around} {s:Shared} {S:Addr} {es:Array (Int×Value)} {t:SetTable} {x:Value} {a:α}
def YI(K:Kd α)(h:aK)(es:Array (Int×Value)):Prop:=∀c∈es.toList,∃d f,c.2= .ref d/\K.is h c.2 f
theorem fits_of(b:Wt t es.size):t.fits es.size=af:=by
 have c:t.fill=es.size:=by unfold SetTable.fill;rw[b.d,b.p];rfl
 unfold SetTable.fits;rw[c,b.p];simp[b.le]
theorem aj3(K:Kd α)(d:K.dp<=8)(h:K.is s.heap x a)(m:∀y∈ys,∃b,K.is s.heap y b)(q:Q aw s):aF (MM) A (aj1 x ys) Q aE s:=by
 unfold aj1;refine aB (wpAny_forIn_list _ (λe i c=>i.1=X/\c=s/\∀y∈e,∃b,K.is s.heap y b) _ ?_ ?_ _ _ ⟨rfl,rfl,m⟩)
 .rintro f e i c ⟨hr,rfl,j⟩;obtain⟨b,hb⟩:=j f gO;have k:∀g∈e,∃b,K.is c.heap g b:=λg n=>j g (fZ _ n);have o:∀{l:ForInStep (Option Bool×PUnit)->Shared->Prop},l (.yield (X,())) c->aF (MM) A (do
    if(!(<-As 8 x))=af then bj (CM (W af,())) else do
    if(!(<-As 8 f))=af then bj (CM (W af,())) else do
    if(<-By 8 x)=af then bj (CM (W af,())) else do
    if(<-By 8 f)=af then bj (CM (W af,())) else bj (mF (X,()))) l aE c:=λw=>by
   refine aB (K.qu d h (cW rfl (aB (K.qu d hb (cW rfl ?_)))));refine aB (K.nc d h (cW rfl (aB (K.nc d hb (cW rfl ?_)))));exact aV w
  refine Xe ?_;split
  all_goals
   split
   .exact aV ⟨rfl,rfl,k⟩
   .exact o ⟨rfl,rfl,k⟩
 .rintro⟨z,B⟩ c ⟨hr,rfl,_⟩;simp only at hr;subst hr;exact aV q
theorem Pn(t:SetTable):∀(k:Nat) (p:SetTable.Probe),(dC t k p).dummy=p.dummy
 |0,p=>rfl
 |k+1,p=>by show(dC t k (t.advance p)).dummy=_;simp only[Pn t k];dsimp only[SetTable.advance];split<;>rfl
def zX(K:Kd α)(h:aK)(es:Array (Int×Value))(t:SetTable)(a:α)(c:Int)(n:Nat):Prop:=∀d<n,∃f,t.slot (sq t c d)= .live f/\∀b,es[f]?=W b->b.1=c->¬K.is h b.2 a
theorem w_eq(h:c=e)(x:aF (MM) A e Q aE s):aF (MM) A c Q aE s:=h▸x
theorem aeW[Decidable c](hs:∀R:Bool->Shared->Prop,R aw s->aF (MM) A d R aE s)(rest:aF (MM) A b Q aE s):
  aF (MM) A (if c then(d>>=λl=>if l=af then T else b) else b) Q aE s:=
 ak7 (λe=>aB (hs _ (cW rfl rest))) λe=>rest
theorem aj2(K:Kd α)(hd:K.dp<=8)(rm:aU K.rk A)(J:Wt t es.size)(L:SO s.heap S es t)(Y:K.is s.heap x a)(G:YI K s.heap es)
  (v:∀i,(∃e∈es.toList,K.is s.heap e.2 a)->Q (.there i) s)(Z:∀n,t.slot (sq t h n)= .empty->zX K s.heap es t a h n->Q (.free (sq t h n) aw) s):
  ∀(m n d:Nat) (st:Option SetTable.Probe),st.getD (t.probeStart h)=dC t d (t.probeStart h)->zX K s.heap es t a h d->n<10*SetTable.turns t.mask->n<m->t.slot (sq t h (d+n))= .empty->
   aF (MM) A (Wn S x h af m st) Q aE s:=by
 obtain⟨ep,L⟩:=L;have a0:=λ{Q:Array (Int×Value)×Nat×SetTable->Shared->Prop} (M:Q (es,ep,t) s)=>HV (prog:=pw) (w:=wS) (A:=A) (E:=aE) (s:=s) L rfl (fits_of J) M;intro m;induction m with
 |zero=>intro n d st _ _ _ H;exact(QJ H).elim
 |succ m ih=>
  intro n d st B a3 N H O;have h3:(st.getD (t.probeStart h)).dummy=X:=by simp only[B,Pn];rfl
  have a4:t.slot (dC t n (st.getD (t.probeStart h))).j= .empty:=by rw[B,<-sJ];exact O
  refine w_eq (rfl:Wn S x h af (m+1) st=setState S>>=_) (aB (a0 ?_));have gw:t.gaveWay=aw:=by unfold SetTable.gaveWay;rcases J.OY with e|e|e<;>rw[e]<;>rfl
  refine cW (decide_eq_false (pG.mp gw)) ?_;obtain⟨f,e0,pre,cs⟩:=NX J (hashAt:=λi=>(Du zK es[i]?).getD 0) (h:=h) (10*SetTable.turns t.mask) n (st.getD (t.probeStart h)) N h3 a4;have C:∀g,(dC t g (st.getD (t.probeStart h))).j=sq t h (d+g):=λg=>by rw[B,<-sJ]
  have P:zX K s.heap es t a h (d+f):=λg hk=>by
   by_cases l:g<d
   .exact a3 g l
   .obtain⟨i,p1,p2⟩:=pre (g-d) ((gm 0x29624a04a429224090942dc8 0x200940100460004a1080210840108461).2 rfl hk l);rw[C,Kw (by exact qJ l)] at p1;refine⟨i,p1,λe G hh z=>p2 ?_⟩;show(Du zK es[i]?).getD 0=h;rw[G];exact hh
  have o:∀e i,f<n->t.slot (dC t f (st.getD (t.probeStart h))).j= .live i->es[i]?=W e->¬K.is s.heap e.2 a->aF (MM) A (Wn S x h af m (W (dC t (f+1) (st.getD (t.probeStart h))))) Q aE s:=λe i p D u nk=>by
   refine ih (n-(f+1)) (d+f+1) (W (dC t (f+1) (st.getD (t.probeStart h)))) ?_ (λg hk=>?_) (by exact aaz N) (by exact(gm 0x14b121224042a120480852242dc8 0x8033004810802008c000982100441080230840108621).2 rfl H p) ?_
   .show dC t (f+1) (st.getD (t.probeStart h))=_;rw[B,<-sJ];rfl
   .by_cases ck:g<d+f
    .exact P g ck
    .have:g=d+f:=by exact KA hk ck
     subst this;rw[C] at D;exact⟨i,D,λa7 T z=>by replace T:=(u)▸T;cases T;exact nk⟩
   .rw[show d+f+1+(n-(f+1))=d+n by exact(gm 0x5204b0852810844524480852252dc8 0x4011800118421000230840108420004012802408421).2 rfl p];exact O
  rw[C] at cs;clear ih N H O pre h3 a4 a3 B;generalize I:t.probe _ h (st.getD (t.probeStart h))=pr;have I:SetTable.probe.go t (λi=>(Du zK es[i]?).getD 0) h (10*SetTable.turns t.mask) (st.getD (t.probeStart h))=pr:=I;rw[I] at cs;clear I;generalize dC t (f+1) (st.getD (t.probeStart h))=np at cs o;rcases cs with⟨p,rfl⟩|⟨i,p,rfl,D,e4⟩
  .exact aV (Z _ p P)
  .obtain⟨e,u⟩:∃e,es[i]?=W e:=⟨es[i],by simp[e4]⟩;have hm:=Array.mem_toList_iff.mpr (Array.mem_of_getElem? u);obtain⟨r,b,V,F⟩:=G e hm;replace o:=((C f))▸o;have o:=o e i p D u;have v:=v;refine aeW (λR M=>aj3 K hd Y (λy hy=>?_) M) ?_
   .obtain⟨e',a5,rfl⟩:=dc.mp hy;obtain⟨_,b',_,a6⟩:=G e' (by rw[Array.toList_filter] at a5;exact(Ki.mp a5).1);exact⟨b',a6⟩
   .clear e4 Z P C;obtain⟨eh,y⟩:=e;have V:=V;have F:=F;have v:b=a->∀i,Q (.there i) s:=λl i=>v i ⟨(eh,y),hm,l▸F⟩;refine(u)▸(aB (eH (K.eq rm F Y _ (aB (a0 ?_)))));by_cases l:b=a
    .exact jA (by rw[decide_eq_true l];rfl) (aV (v l _))
    .refine cW (by rw[decide_eq_false l];rfl) ?_;have sm:t.sameMemory t.moves t.mask=W af:=by unfold SetTable.sameMemory;rw[if_pos (by simp)]
     rw[sm];dsimp only;rw[if_pos rfl,D];dsimp only;rw[u];subst V;refine aB (wpAny_isSame_ref_self ((if_pos rfl)▸(aB (aV ?_))));exact cW (by rw[decide_eq_false l];rfl) (o λha=>l (K.un F ha))
end
section
variable {α:Type} [DecidableEq α] {A:Around} {s:Shared} {S:Addr} {es:Array (Int×Value)} {t:SetTable} {x:Value} {a:α}
theorem Ol:(SetTable.insertAt xs p y).size=xs.size+1:=by have:=(Lb xs p y).length_eq;simpa using this
theorem Oj(e:p<=xs.size):(SetTable.insertAt xs p y)[i]?=if i<p then xs[i]?else if i=p then W y else xs[i-1]?:=by
 rw[<-Array.getElem?_toList,aaT];have hl:(xs.toList.take p).length=p:=by rw[wj];exact Ds e
 by_cases b:i<p
 .rw[Ka (by simp only[hl];exact b),List.getElem?_take_of_lt b,if_pos b,Array.getElem?_toList]
 .rw[Kb (by rw[hl];exact qJ b),hl,if_neg b];by_cases d:i=p
  .subst d;simp
  .simp only[if_neg d,show i-p=(i-1-p)+1 by exact agO b d,ZH,List.getElem?_drop,show p+(i-1-p)=i-1 by exact agP b d,Array.getElem?_toList]
theorem aef(r:lI xs)(h:j∉xs.toList):lI (SetTable.insertAt xs (SetTable.below xs j) j):=by
 obtain⟨k,b2,v⟩:=DU r j;unfold lI;simp only[aaT];have g:∀{b} (c:b<xs.toList.length),xs.toList[b]=xs[b]'(by simpa using c):=λc=>by simp
 refine Dj.mpr ⟨r.sublist (Ko ..),Dk.mpr ⟨λl d=>?_,r.sublist (ZA ..)⟩,λw n l d=>?_⟩
 .obtain⟨b,c,e⟩:=uf.mp d;rw[ZI] at e;have f:SetTable.below xs j+b<xs.size:=by simp only[De,Array.length_toList] at c;exact Qn c
  have:=b2 _ f (fF ..);rw[g] at e;have o:l≠j:=λp=>h (p▸Dh d);exact agQ e this o
 .obtain⟨b,c,e⟩:=uf.mp n;rw[List.getElem_take] at e;have f:b<SetTable.below xs j/\b<xs.size:=by simp only[wj,Array.length_toList] at c;exact Nat.lt_min.mp c
  rw[g] at e;rcases cP.mp d with rfl|d
  .exact e▸(k b f.2 f.1)
  .obtain⟨q,m,e2⟩:=uf.mp d;rw[ZI] at e2;have u:SetTable.below xs j+q<xs.size:=by simp only[De,Array.length_toList] at m;exact Qn m
   have:=b2 _ u (fF ..);rw[g] at e2;exact(oC 0x250262c084b0885a84842888 0x40130023084012842009821).2 e (k b f.2 f.1) e2 this
theorem VN(b:Wt t n)(c:j∉t.place.toList):(t.put j).1.dummies=#[]/\(t.put j).1.place.size=n+1/\(t.put j).1.mask=t.mask/\lI (t.put j).1.place/\(t.put j).1.place=SetTable.insertAt t.place (t.put j).2 j/\(t.put j).2<=n:=by
 have e:SetTable.has t.dummies j=aw:=by rw[b.d];unfold SetTable.has;simp
 dsimp only[SetTable.put];refine⟨?_,?_,rfl,aef b.r c,rfl,b.p▸(DU b.r j).2.2⟩
 .show(if SetTable.has t.dummies j=af then _ else t.dummies)=_;rw[e];exact b.d
 .show(SetTable.insertAt t.place _ j).size=_;simp only[Ol,b.p]
theorem VU:∀l:List c,(fD l.length).filterMap (l[·]?)=l
 |[]=>rfl
 |a::l=>by simp only[jD,List.range_succ_eq_map,wg (f:=λx=>(a::l)[x]?) (a:=0) (b:=a) rfl,ZE];exact congrArg (a::·) (VU l)
structure Ss(K:Kd α)(h:aK)(S:Addr)(es:Array (Int×Value))(t:SetTable):Prop where
 so:SO h S es t
 wt:Wt t es.size
 el:∀e∈es.toList,∃r b,e.2= .ref r/\K.is h e.2 b/\e.1=K.hash b
 gd:Gd t (es.toList.map (·.1))
theorem SO.store(o:SO h S es t):SO (h.update S (wG b t')) S b t':=by obtain⟨c,y⟩:=o;exact⟨c+1,(vZ _ y rfl)⟩
theorem ajB(F:SO h S es t)(G:t.fits es.size=af)(z1:es.size=n+1)(l:SetTable.sizeAbove (SetTable.grown (n+1))=j+1)(mk:nW j)(k:(j=31/\n+1<19)\/(j=127/\n+1<77))
  (q:∀c b,SO (h.update S (wG c b)) S c b->Wt b c.size->c.toList.Perm es.toList->Gd b (c.toList.map (·.1))->Q () ⟨h.update S (wG c b),g,d,tk,o⟩):
  aF (MM) A (Wm S (SetTable.grown (n+1))) Q aE ⟨h,g,d,tk,o⟩:=by
 obtain⟨H,y⟩:=F;dsimp only[Wm];refine aB (HV (prog:=pw) (w:=wS) (s:=⟨h,g,d,tk,o⟩) y rfl G ?_);dsimp only;refine cW (decide_eq_false (l▸(dz 0x850280000017e11284d17c210a4421fc5f0a086984214885f0fc28218e8 0x4410800110421).2 k)) ?_;obtain⟨b,ord,er,I,J,L,M,u,B⟩:=aeI (m:=j) (f:=t.finger) (v:=t.movedTo j) (led:=t.led) (pl:=t.plain) (hs:=es.map (·.1)) (n:=es.size) mk (by simp) (by exact(fq 0x4a00268be10854210fe2f852434c210a842f87e1490c74042a12088 0x46108020094012042000461080200940120421).2 z1 k);have C:t.relaid (es.map (·.1)) (SetTable.grown (n+1))=W (b,ord):=by unfold SetTable.relaid;rw[l];exact er
 have p:(ord.filterMap (es[·]?)).toList=ord.toList.filterMap (es.toList[·]?):=by rw[Array.toList_filterMap];exact AI λN O=>by simp only[Array.getElem?_toList]
 have r:(ord.filterMap (es[·]?)).toList.Perm es.toList:=by rw[p];have:=u.filterMap (es.toList[·]?);simp only[<-Array.length_toList,VU] at this;exact this
 have D:Gd b ((ord.filterMap (es[·]?)).toList.map (·.1)):=by
  have P:(ord.filterMap (es[·]?)).toList.map (·.1)=ord.toList.filterMap ((es.map (·.1))[·]?):=by simp only[p,List.map_filterMap];exact AI λN O=>by simp only[Array.getElem?_map,Array.getElem?_toList]
  simp only[P];exact B
 have z2:(ord.filterMap (es[·]?)).size=es.size:=by have:=r.length_eq;rwa [Array.length_toList,Array.length_toList] at this
 refine aB ?_;rw[C];have E:((ord.filterMap (es[·]?)).size !=es.size)=aw:=by rw[z2];exact bne_self_eq_false _
 refine cW (decide_eq_false (pG.mp E)) (aV ?_);clear E p C er u B l;generalize ord.filterMap (es[·]?)=c at r D z2⊢;refine ale (s:=⟨h,g,d,tk,o⟩) y rfl (q c b (SO.store ⟨H,y⟩) ⟨J,L.trans z2.symm,M,?_⟩ r D) (by simp only[z2,z1];exact(dz 0x4000000bf084281004d17c210a0421fc5f0a486984214085f0fc29218e8 0x4210800108421).2 k);simp only[I,z2,z1];exact .inr k
theorem abw(y:b.get? S=W ⟨.type "set",X, .set L z h,#[]⟩)(p:(h.mask=7/\n<5)\/(h.mask=31/\n<19)\/(h.mask=127/\n<77))(u:n<70)
  (v:t.dummies=#[])(p1:t.place.size=n+1)(l:t.mask=h.mask)(B:lI t.place)(z1:es.size=n+1)(gd:Gd t (es.toList.map (·.1)))
  (fin:∀q c i,dE S b q->SO q S c i->Wt i c.size->c.toList.Perm es.toList->Gd i (c.toList.map (·.1))->Q af ⟨q,g,d,tk,o⟩):
  aF (MM) A (do
   storeSet S es t
   if(!aw&&t.tooFull)=af then do Wm S (SetTable.grown (n+1));bj af else bj af) Q aE ⟨b,g,d,tk,o⟩:=by
 have r:t.fill=n+1:=by unfold SetTable.fill;rw[v,p1];rfl
 refine aB (ale (s:=⟨b,g,d,tk,o⟩) y rfl ?_ (z1▸(eT u (by decide))));have w:SO (b.update S (wG es t)) S es t:=SO.store ⟨z,y⟩;cases f:t.tooFull with
 |true=>
  have m:h.mask*3<=(n+1)*5:=by unfold SetTable.tooFull at f;rw[r,l] at f;exact of_decide_eq_true f
  have C:t.fits es.size=af:=by unfold SetTable.fits;simp only[p1,r,z1,l];simp;exact agR p
  have D:=agS u m p;have E:∃j,SetTable.sizeAbove (SetTable.grown (n+1))=j+1/\nW j/\((j=31/\n+1<19)\/(j=127/\n+1<77)):=by
   rcases D with⟨_,k⟩|⟨_,k⟩
   .exact⟨31,by rw[k];rfl, .inr (.inl rfl), .inl ⟨rfl,agU k⟩⟩
   .exact⟨127,by rw[k];rfl, .inr (.inr rfl), .inr ⟨rfl,agV k⟩⟩
  obtain⟨j,em,mk,F⟩:=E;exact aB (ajB w C z1 em mk F λc i G H I J=>aV (fin _ c i (vC (zm b S (wG es t)) (zm ..)) G H I J))
 |false=>
  have m:¬(t.mask*3<=(n+1)*5):=by unfold SetTable.tooFull at f;rw[r] at f;exact of_decide_eq_false f
  rw[l] at m;exact aV (fin _ es t (zm b S (wG es t)) w ⟨v,p1.trans z1.symm,B,by rw[l,z1];exact agW m p⟩ (Zr _) gd)
theorem adP(K:Kd α)(j:Ss K h S es t)(l:t.slot (sq t (K.hash a) n)= .empty)(r:zX K h es t a (K.hash a) n):sq t (K.hash a) n∉t.place.toList/\(∀k<n,sq t (K.hash a) k∈t.place.toList)/\∀e∈es.toList,¬K.is h e.2 a:=by
 have g:=j.wt;have m:sq t (K.hash a) n∉t.place.toList:=λC=>by obtain⟨f,e⟩:=Kc C;replace e:=(Array.getElem?_toList)▸e;replace l:=(HC g e)▸l;cases l
 refine⟨m,λk hk=>?_,λe u v=>?_⟩
 .obtain⟨f,e,_⟩:=r k hk;rcases Wq g (sq t (K.hash a) k) with⟨d,_⟩|⟨D,_,_,d⟩
  .replace e:=(d)▸e;cases e
  .exact Array.mem_toList_iff.mpr (Array.mem_of_getElem? d)
 .obtain⟨f,w⟩:=Kc u;have y:es[f]?=W e:=by rw[<-Array.getElem?_toList];exact w
  have o:f<t.place.size:=by simp only[g.p];exact(Array.getElem?_eq_some_iff.mp y).1
  obtain⟨E,b,_,hb,eb⟩:=j.el e u;have:b=a:=K.un hb v;subst this;obtain⟨z,q,B⟩:=j.gd f e.1 t.place[f] (by simp only[kF,w];rfl) (Array.getElem?_eq_getElem o);rw[eb] at q B;rcases KH z n with d|d|d
  .obtain⟨D,v1,v2⟩:=r z d;replace v1:=(HC g (Array.getElem?_eq_getElem o))▸(q)▸v1;cases v1;exact v2 e y eb v
  .subst d;exact m (q▸Array.mem_toList_iff.mpr (Array.getElem_mem o))
  .exact m (B n d)
theorem adQ(D:Wt t es.size)(gd:Gd t (es.toList.map (·.1)))(L:sq t b n∉t.place.toList)(M:∀k<n,sq t b k∈t.place.toList):
  Gd (t.put (sq t b n)).1 ((SetTable.insertAt es (t.put (sq t b n)).2 (b,v)).toList.map (·.1)):=by
 obtain⟨_,_,m1,_,l,u⟩:=VN D L;have w:∀y∈t.place.toList,y∈(t.put (sq t b n)).1.place.toList:=λy N=>by rw[l];exact((Lb t.place _ (sq t b n)).mem_iff).mpr (by simp[Array.mem_toList_iff.mp N])
 generalize (t.put (sq t b n)).1=m at m1 l w⊢;generalize (t.put (sq t b n)).2=E at l u⊢;intro o j B d f;have q:=λh k=>Wv (t:=m) (t':=t) m1 h k;replace d:=(Oj (u))▸(Array.getElem?_toList)▸(kF)▸d;replace f:=(Oj (D.p▸u))▸(l)▸f;have F:∀r,(es[r]?.map λO:Int×Value=>O.1)=W j->t.place[r]?=W B->∃G,sq m j G=B/\∀g<G,sq m j g∈m.place.toList:=λr P Q=>by obtain⟨H,R,T⟩:=gd r j B (by rw[kF,Array.getElem?_toList];exact P) Q;exact⟨H,(q j H).trans R,λg C=>by rw[q];exact w _ (T g C)⟩
 by_cases I:o<E
 .rw[if_pos I] at d f;exact F o d f
 .rw[if_neg I] at d f;by_cases J:o=E
  .rw[if_pos J] at d f;cases d;cases f;exact⟨n,q b n,λg C=>by rw[q];exact w _ (M g C)⟩
  .rw[if_neg J] at d f;exact F (o-1) d f
theorem abv(K:Kd α)(N:K.dp<=8)(O:aU K.rk A)(q:Ss K s.heap S es t)(Y:es.size<70)(D:K.is s.heap x a)(hr:∃r,x= .ref r)
  (Z:∀tk,(∃e∈es.toList,K.is s.heap e.2 a)->Q aw {s with toks:=tk})
  (q2:∀h' P t' tk,dE S s.heap h'->Ss K h' S P t'->P.toList.Perm ((K.hash a,x)::es.toList)->(∀e∈es.toList,¬K.is s.heap e.2 a)->Q af {s with heap:=h',toks:=tk}):
  aF (MM) A (setAdd S x) Q aE s:=by
 obtain⟨r,rfl⟩:=hr;unfold setAdd;refine eH (aB (K.hs O D λtk=>?_));unfold setAddHashed;refine eH ?_;obtain⟨E,g,d,a8,B⟩:=s;have f:=q.wt;obtain⟨ep,l⟩:=q.so;refine w_eq (rfl:setAddHashedIn S (.ref r) (K.hash a) (99999+1)=setState S>>=_) (aB (HV (prog:=pw) (w:=wS) (s:=⟨E,g,d,tk,B⟩) l rfl (fits_of f) ?_));refine cW (decide_eq_false (pG.mp (show byScan (.ref r) es=aw by unfold byScan;rfl))) ?_;obtain⟨j0,j1,j2⟩:=akd f;obtain⟨u,n1,n2⟩:=afE (h:=K.hash a) f.OY j1;refine aB (aj2 K (s:=⟨E,g,d,tk,B⟩) N O f (q.so) D (λe C=>(q.el e C).imp λJ=>iO λJ l=>⟨l.1,l.2.1⟩) (λi h=>aV (Z tk h)) (λu hj a0=>?_) 100000 u 0 X rfl (λk hk=>absurd hk (fT _)) n1 ((gm 0x186a027c2813c2a124881345f0ac43f8be1510d30ac5f0fc2a218e50ac470a8863a12a22048 0x9821004410a4260840009821004410a42608420004c1080220852130421).2 n1 f.m rfl) (by show t.slot (dC t (0+u) (t.probeStart (K.hash a))).j=_;rw[wD,n2];exact j2));obtain⟨R,a4,fresh⟩:=adP K q hj a0;refine aB (HV (prog:=pw) (w:=wS) (s:=⟨E,g,d,tk,B⟩) l rfl (fits_of f) ?_);have G:=VN f R;have a5:(SetTable.insertAt es (t.put (sq t (K.hash a) u)).2 (K.hash a,Value.ref r)).toList.Perm ((K.hash a,Value.ref r)::es.toList):=by have:=Lb es (t.put (sq t (K.hash a) u)).2 (K.hash a,Value.ref r);simp only[Array.toList_push] at this;exact this.trans (ZV _ _)
 have H:=λF=>abw (A:=A) (S:=S) (tk:=tk) (g:=g) (d:=d) (o:=B) (Q:=Q) l f.m Y G.1 G.2.1 G.2.2.1 G.2.2.2.1 (Ol (xs:=es) (p:=(t.put (sq t (K.hash a) u)).2) (y:=(K.hash a,Value.ref r))) (adQ (v:= .ref r) f q.gd R a4) F;have H:=H λh2 a9 t2 T so a6 pm a7=>by
  have V:TK E h2:=λL ob M I=>(T.2 L (by rintro rfl;replace I:=(l)▸I;cases I;injection M with M;exact absurd M (by decide))).trans I;have pm:=pm.trans a5;refine q2 _ _ _ tk T ⟨so,a6,λe C=>?_,a7⟩ pm fresh;rcases cP.mp (pm.mem_iff.mp C) with rfl|C
  .exact⟨r,a,rfl,K.tq V D,rfl⟩
  .obtain⟨r',L,a1,a2,a3⟩:=q.el e C;exact⟨r',L,a1,K.tq V a2,a3⟩
 refine ak7 (λJ=>aB (K.bv N D H)) λJ=>aB (aV H)
end
section
variable {α:Type} [DecidableEq α] {k:Nat} {A:Around} {h h':Heap} {s:Shared} {S I l:Addr} {es:Array (Int×Value)} {t:SetTable} {items:Array Value} {L:List α}
def Lo(K:Kd α)(h:Heap)(es:Array (Int×Value)):Prop:=es.toList.Pairwise λc d=>∀a,K.is h c.2 a->¬K.is h d.2 a
structure iV(K:Kd α)(h:Heap)(S:Addr)(es:Array (Int×Value))(t:SetTable)(L:List α):Prop extends Ss K h S es t where
 sep:Lo K h es
 mem:∀a,(∃e∈es.toList,K.is h e.2 a)↔a∈L
theorem Ss.tq(K:Kd α)(x:Ss K h S es t)(e:TK h h')(a:SO h' S es t):Ss K h' S es t:=
 {x with so:=a,el:=λb c=>(x.el b c).imp λd=>iO λd=>vT (Yp (K.tq e))}
theorem Ss.back{K:Kd α}{e':Int×Value}{a:α}(x:Ss K h S es t)(e:TK h h')(c:e'∈es.toList)(d:K.is h' e'.2 a):K.is h e'.2 a:=by obtain⟨f,b,a1,a2,g⟩:=x.el e' c;rw[K.un d (K.tq e a2)];exact a2
theorem iV.tq{K:Kd α}(x:iV K h S es t L)(e:TK h h')(g:SO h' S es t):iV K h' S es t L where
 toSs:=x.toSs.tq K e g
 sep:=x.sep.imp_of_mem λc i j m n o=>j m (x.toSs.back e c n) (x.toSs.back e i o)
 mem:=λf=>⟨λ⟨d,he,c⟩=>(x.mem f).mp ⟨d,he,x.toSs.back e he c⟩,λc=>let⟨d,he,h⟩:=(x.mem f).mpr c;⟨d,he,K.tq e h⟩⟩
theorem iV.same{K:Kd α}{a:α}(x:iV K h S es t L)(c:a∈L):iV K h S es t (L++[a]):=
 {x with mem:=λd=>(x.mem d).trans ⟨λh=>List.mem_append_left _ h,λh=>(List.mem_append.mp h).elim id λh=>List.mem_singleton.mp h▸c⟩}
theorem iV.more{K:Kd α}{a:α}{v:Value}{j:Array (Int×Value)}{t':SetTable}(x:iV K h S es t L)(tk:TK h h')(n:Ss K h' S j t')(pm:j.toList.Perm ((K.hash a,v)::es.toList))(o:∀e∈es.toList,¬K.is h e.2 a)(m:K.is h v a):iV K h' S j t' (L++[a]) where
 toSs:=n
 sep:=by unfold Lo;rw[List.Perm.pairwise_iff (λq f g i=>q f i g) pm];refine List.pairwise_cons.mpr ⟨λe d f g i=>?_,x.sep.imp_of_mem λr c u f g i=>u f (x.toSs.back tk r g) (x.toSs.back tk c i)⟩;have:f=a:=K.un g (K.tq tk m);subst this;exact o e d (x.toSs.back tk d i)
 mem:=λf=>by
  constructor
  .rintro⟨e,d,c⟩;rcases List.mem_cons.mp (pm.mem_iff.mp d) with rfl|d
   .exact List.mem_append_right _ (by simp only[K.un c (K.tq tk m)];simp)
   .exact List.mem_append_left _ ((x.mem f).mp ⟨e,d,x.toSs.back tk d c⟩)
  .intro c;rcases List.mem_append.mp c with c|c
   .obtain⟨e,d,g⟩:=(x.mem f).mpr c;exact⟨e,pm.mem_iff.mpr (List.mem_cons_of_mem _ d),K.tq tk g⟩
   .rw[List.mem_singleton.mp c];exact⟨_,pm.mem_iff.mpr (List.mem_cons_self ..),K.tq tk m⟩
theorem akW{R:zR->Shared->Prop}(K:Kd α)(hd:K.dp<=8)(rm:aU (K.rk+1) A)(hl:L.length=items.size)(hz:L.length<=70)(SI:S≠I)(Sl:S≠l)(Il:I≠l)(hr:∀v∈items,∃r,v= .ref r):
  ∀(j i:Nat) (h:Heap) (g:Array dQ) (d:dT) (tk:Nat) (o:df) (es:Array (Int×Value)) (t:SetTable),items.size-i=j->i<=items.size->h.IsListIter I l i->h.IsList l items->(∀(i:Nat) (v:Value) (a:α),items[i]?=W v->L[i]?=W a->K.is h v a)->iV K h S es t (L.take i)->es.size<=i->
  (∀h' B C t',(∀b o,b≠S->b≠I->h.get? b=W o->h'.get? b=W o)->iV K h' S C t' L->R (.ok (.ret .none)) ⟨h',g,d,B,o⟩)->lT (MM) A (.builtin "set.update.loop" ⟨[.ref S, .ref I],[]⟩) R ⟨h,g,d,tk,o⟩:=by
 intro j;induction j with
 |zero=>
  intro i h g d tk o es t D hi G M N H O P;have b0:i=items.size:=Bn D hi;subst b0;refine uz aaI ((Around.under_plainId Dv _)▸(aB (alc (s:=⟨h,g,d,tk,o⟩) rm.in1.h G M (by simp) λh' e=>?_)));have b3:SO h' S es t:=by obtain⟨Q,f⟩:=H.so;exact⟨Q,e _ _ SI f⟩
  obtain⟨oI,yI,cI,_⟩:=G;have b4:TK h h':=λb m p f=>e b m (by rintro rfl;replace f:=(yI)▸f;cases f;rw[cI] at p;injection p with p;exact absurd p (by decide)) f;refine aV (P h' tk es t (λb m T u f=>e b m u f) ?_);have:=H.tq b4 b3;rwa [<-hl,List.take_length] at this
 |succ j ih=>
  intro i h g d tk o es t D hi G M N H O P;have aQ:i<items.size:=Bl D;have a0:i<L.length:=hl▸aQ;refine uz aaI ?_;rw[Around.under_plainId Dv _];obtain⟨oI,yI,cI,_⟩:=id G;refine aB (ald (s:=⟨h,g,d,tk,o⟩) (x:=items[i]) G M (by simp[aQ]) λw a4 J=>?_);have V:TK h w:=λb m p f=>J.extBut b m (by rintro rfl;replace f:=(yI)▸f;cases f;rw[cI] at p;injection p with p;exact absurd p (by decide)) f;have a5:SO w S es t:=by obtain⟨Q,f⟩:=H.so;exact⟨Q,J.extBut _ _ SI f⟩
  have Y:=H.tq V a5;have ki:K.is h items[i] L[i]:=N i _ _ (by simp[aQ]) (by simp[a0]);have a6:=K.tq V ki;have eL:L.take (i+1)=L.take i++[L[i]]:=by simp only[List.take_succ_eq_append_getElem a0]
  refine aB (eH ?_);have a7:w.IsList l items:=by obtain⟨m,f,p,n,dd⟩:=M;exact⟨m,J.extBut _ _ Il.symm f,p,n,dd⟩
  refine bJ (E:=aE) (abv K (s:=⟨w,g,d,tk,o⟩) hd (rm.in1.le (Nat.le_refl _)) Y.toSs (by exact Nat.lt_of_lt_of_le (Nat.lt_of_le_of_lt O a0) hz) a6 (hr _ (Array.getElem_mem aQ)) (λa3 b5=>?_) (λh2 a8 t2 a3 Z b6 pm nw=>?_)) (λT T x=>x) λT T x=>x.elim
  .exact aV ⟨xZ Dv _,ih (i+1) w g d a3 o es t (by exact sM D) aQ a4 a7 (λi v a e1 e2=>K.tq V (N i v a e1 e2)) (eL▸Y.same ((Y.mem _).mp b5)) (by exact Nat.le_add_right_of_le O) λh' B C t' kp sx=>(P h' B C t' (λb m b1 u f=>kp b m b1 u (J.extBut b m u f)) sx)⟩
  .have a9:TK w h2:=λb m p f=>by obtain⟨Q,yS⟩:=a5;exact Z.extBut b m (by rintro rfl;replace f:=(yS)▸f;cases f;injection p with p;exact absurd p (by decide)) f
   have zz:a8.size=es.size+1:=by have:=pm.length_eq;simpa using this
   refine aV ⟨xZ Dv _,ih (i+1) h2 g d a3 o a8 t2 (by exact sM D) aQ ?_ ?_ (λi v a e1 e2=>K.tq a9 (K.tq V (N i v a e1 e2))) (eL▸Y.more a9 b6 pm nw a6) (by exact af9 O zz) λh' B C t' kp sx=>?_⟩
   .obtain⟨m,f,p⟩:=a4;exact⟨m,Z.extBut _ _ SI.symm f,p⟩
   .obtain⟨m,f,p⟩:=a7;exact⟨m,Z.extBut _ _ Sl.symm f,p⟩
   .exact P h' B C t' (λb m b1 u f=>kp b m b1 u (Z.extBut b m b1 (J.extBut b m u f))) sx
theorem abZ(K:Kd α)(hd:K.dp<=8)(B:aU (K.rk+4) A)(hl:L.length=items.size)(hz:L.length<=70)(O:h.IsList l items)(hr:∀v∈items,∃r,v= .ref r)(hv:∀(i:Nat) (v:Value) (a:α),items[i]?=W v->L[i]?=W a->K.is h v a)
  (q:∀S h' C es t,Ext h h'->h.get? S=X->iV K h' S es t L->Q (.ref S) ⟨h',g,d,C,o⟩):aF (MM) A (eU (.type "set") [.ref l]) Q aE ⟨h,g,d,tk,o⟩:=by
 obtain⟨c,tl,b0⟩:=wI.mro;have b1:=wI.made;have b2:=wI.sub;refine dq (ack (aV ⟨YF _ (by decide+kernel),uz PySem.F.entry_type_call ?_⟩));simp only[Around.under_plain (weight_type_call_type "set" [.ref l] []) rfl];have b3:=PySem.F.typeCall_set_1 (.ref l)
 repeat (any_goals (first|assumption|wp_step))
 have D:h.get? h.objs.size=X:=Heap.get?_none_of_le (Nat.le_refl _);refine Ei (PySem.code_set_new_1 (.ref l) (E:=aE) (Q₁:=λP T=>∃m:Bool,P= .ref h.objs.size/\T=⟨h.push {cls:= .type "set",dict:=X,data:= .set #[] 0 (.fresh 0 0 m)},g,d,tk,o⟩) λm=>⟨m,rfl,rfl⟩) λr T G=>?_;cases r with
 |error V=>exact G
 |ok fl=>
  cases fl with
  |ret P=>
   obtain⟨m,rfl,rfl⟩:=G;have x:(h.push {cls:= .type "set",dict:=X,data:= .set #[] 0 (.fresh 0 0 m)}).get? h.objs.size=W {cls:= .type "set",dict:=X,data:= .set #[] 0 (.fresh 0 0 m)}:=Heap.get?_push_size _ rfl;have u:Ext h (h.push {cls:= .type "set",dict:=X,data:= .set #[] 0 (.fresh 0 0 m)}):=λn o f=>Heap.get?_push_of_some _ f;generalize (h.push {cls:= .type "set",dict:=X,data:= .set #[] 0 (.fresh 0 0 m)})=p at x u⊢;generalize h.objs.size=S at x D⊢;have hT:Shared.TypeIs ⟨p,g,d,tk,o⟩ (.ref S) "set":=⟨_,x,rfl⟩;have b5:=wI.init.lookup;have b6:=wI.init.bind (.ref S)
   repeat (any_goals (first|assumption|wp_step))
   refine Ei (oi (R:=wants (λr z=>r= .none/\Q (.ref S) z) aE) wI.init.plain PySem.F.entry_set_init (PySem.check_set_init_1 hT ?_)) λa3 z H=>?_
   .have J:=ew O u;have Y:∀{n w},h.get? n=W w->n≠S:=λf=>eg f D;have Sl:S≠l:=by obtain⟨w,f,_⟩:=O;exact(Y f).symm
    obtain⟨ol,a4,Z,nl,sh⟩:=id J;obtain⟨b7,b8,b9,c0⟩:=ol;simp only at Z sh;subst Z;subst sh;have c1:=PySem.F.sub_list_set;have c2:=PySem.F.sub_list_frozenset;have c3:(Value.type "list"==Value.type "dict")=aw:=by decide
    unfold kC.«set.__init__» noKeywords alq;generalize a5:Hr=PI
    wp_walk
    subst a5;refine HT (s:=⟨p,g,d,tk,o⟩) J (aB (wpAny_runValue ?_));have a6:(p.push {cls:= .type "list_iterator",data:= .fields #[.ref l, .int 0 0]}).IsListIter p.objs.size l 0:=⟨_,Heap.get?_push_size _ rfl,rfl,rfl⟩;have M:Ext p (p.push {cls:= .type "list_iterator",data:= .fields #[.ref l, .int 0 0]}):=λn o f=>Heap.get?_push_of_some _ f;have N:∀{n w},p.get? n=W w->n≠p.objs.size:=λf=>Nat.ne_of_lt (Heap.lt_size f);have a0:=u.trans M;have s0:iV K (p.push {cls:= .type "list_iterator",data:= .fields #[.ref l, .int 0 0]}) S #[] (.fresh 0 0 m) (L.take 0):=
     ⟨⟨⟨0,M _ _ x⟩,⟨rfl,rfl, .nil, .inl ⟨rfl,by decide⟩⟩,λV he=>by simp at he,λi hh j u=>by simp at u⟩, .nil,λa=>by simp⟩
    refine Ei (akW K (A:=_) (g:=g) (d:=d) (o:=o) (R:=λr z=>r= .ok (.ret .none)/\Q (.ref S) z) hd ?_ hl hz (N x) Sl (N a4).symm hr (items.size-0) 0 _ tk _ _ rfl (Nat.zero_le _) a6 (ew J M) (λi v a a1 a2=>K.tq a0.tq (hv i v a a1 a2)) s0 (Nat.le_refl _) λh' C a7 t' kp sx=>?_) λr' s' a8=>?_
    .first|exact B.in1.in1.in1.le (Nat.le_refl (K.rk+1))|exact B.in1.in1.le (Nat.le_succ (K.rk+1))|exact B.in1.le (by show K.rk+1<=K.rk+3;omega)
    .exact⟨rfl,q S h' C a7 t' (λn w f=>kp n w (Y f) (N (u _ _ f)) (a0 _ _ f)) D sx⟩
    .obtain⟨rfl,hq⟩:=a8;exact aV (aV ⟨rfl,hq⟩)
   .cases a3 with
    |error V=>exact H
    |ok a9=>
     cases a9 with
     |ret r=>
      obtain⟨rfl,hq⟩:=H
      repeat (any_goals (first|assumption|wp_step))
     |_=>exact H.elim
  |_=>exact G.elim
end
def Lg(R:WRecords)(j:aA->Option az)(h:aK)(v:aq)(d:wO)(e:List az):Prop:=match d with
 | .int k=>e=[]/\∃l,v= .int k l
 | .list m=>∃b c f p g,e=b::g/\v= .ref b/\h.get? b=W c/\c.cls= .type "list"/\c.data= .seq f p/\Dz R j h f.toList m g
 |_=>True
theorem VX(r:ReadsW R cl h v d b):Lg R cl h v d b:=
 ReadsW.casesOn (motive_1:=λv d b a=>Lg R cl h v d b) r ⟨⟩ (λa=>⟨⟩) (λa c=>⟨rfl,c,rfl⟩) (λa a=>⟨⟩) (λe f g i=>⟨_,_,_,_,_,rfl,rfl,e,f,g,i⟩) (λa a a a=>⟨⟩) (λa a a a a=>⟨⟩) (λa a=>⟨⟩) (λa a=>⟨⟩) (λa a a=>⟨⟩) (λa a a a a a=>⟨⟩) (λa a a a a a=>⟨⟩) (λa a a a a a a a a a a a a a=>⟨⟩)
def Le(R:WRecords)(e:aA->Option az)(h:aK)(vs:List aq)(c:List wO)(f:List az):Prop:=match c with
 |[]=>vs=[]/\f=[]
 |l::c=>∃g i j k,vs=g::i/\f=j++k/\ReadsW R e h g l j/\Dz R e h i c k
theorem BI(r:Dz R cl h vs c d):Le R cl h vs c d:=
 ReadsAllW.casesOn (motive_2:=λvs c d i=>Le R cl h vs c d) r ⟨rfl,rfl⟩ λe f=>⟨_,_,_,_,rfl,rfl,e,f⟩
theorem has_int(h:DG R d .int=af):∃i,d= .int i:=by
 cases d with
 |int i=>exact⟨i,rfl⟩
 |_=>exact Yu (h)
theorem has_list(h:DG R d (.list .int)=af):∃xs,d= .list xs/\abp R xs .int=af:=by
 cases d with
 |list xs=>exact⟨xs,rfl,(Yw _).symm.trans h⟩
 |_=>exact Yu (h)
theorem abQ(h:DF (.int n)<=2^20):Bt KB n:=by
 unfold DF at h;unfold Bt KB;by_cases a:n=0
 .subst a;exact Nat.pow_pos (by decide)
 .rw[if_neg (by simpa using a)] at h;exact(aam (Int.natAbs_ne_zero.mpr a)).mp (h)
theorem aj0(xs:List wO):∀(vs:List aq) (c:List az),abp R xs .int=af->Dz R cl h vs xs c->(∀d∈xs,DF d<=2^20)->c=[]/\∃ns:List Int,iQ vs ns/\ns.length=xs.length/\∀n∈ns,Bt KB n:=by
 induction xs with
 |nil=>intro vs c _ f _;obtain⟨rfl,rfl⟩:=BI f;exact⟨rfl,[], .nil,rfl,λn h=>by cases h⟩
 |cons d q l=>
  intro vs c e f j;have e:=pE.mp e;obtain⟨s,ws,a,b,rfl,rfl,m,rs⟩:=BI f;obtain⟨rfl,ns,a1,a2,o⟩:=l ws b e.2 rs λd p=>j d (fZ _ p);obtain⟨k,rfl⟩:=has_int e.1;obtain⟨rfl,t,rfl⟩:=VX m;refine⟨rfl,k::ns, .cons k t a1,congrArg (·+1) a2,λn g=>?_⟩;rcases cP.mp g with rfl|g
  .exact abQ (j _ (gO ..))
  .exact o n g
theorem ak2{xs:List wO}:∀{d:wO},d∈xs->DF d<=WData.weightAll xs:=by
 induction xs with
 |nil=>intro d h;cases h
 |cons x xs a=>
  intro d h;rcases cP.mp h with rfl|h
  .exact(dz 0x4842810900 0x802c).2
  .have:=a h;exact Nat.le_add_left_of_le this
theorem ae3(p2:(WTm.and (.not (.lt (.lit (.int 63)) (.len (.arg 0)))) (.lit (.bool af))).holds [] {args:=[.list xs]}=af):xs.length<=63:=by
 by_cases a:(63:Int)<xs.length
 .exfalso;have d:less? (.int 63) (.int (xs.length:Int))=W af:=by simp[less?,Num.less?,a]
  have f:Lu [] (WTm.and (.not (.lt (.lit (.int 63)) (.len (.arg 0)))) (.lit (.bool af))) {args:=[.list xs]}=W (.bool aw):=by simp[Lu,d]
  unfold Ls at p2;replace p2:=(f)▸p2;cases p2
 .exact(kl 0x1f8be1401060fc5f08d48 0x8421).2 a
theorem ajD(xs:List wO):(DG [] (.bool af) .bool&&Ls [] (.eq .res (.lit (.bool af))) {args:=[.list xs],res:=W (.bool af),after:=[.list xs]})=af:=by rw[show DG [] (.bool af) .bool=af from rfl];simp[Ls,Lu,same]
theorem aeQ(D:∀(h:aK) (la:az) (vs:List aq) (ns:List Int),Bs h->h.IsList la vs.toArray->iQ vs ns->ns.length<=63->(∀n∈ns,Bt KB n)->zU 500 h (.call (.ref 582) ⟨[.ref la],[]⟩) (λv h'=>v= .bool af/\Ext h h')):ji.Holds:=by
 refine ad2 λw a0 c x E f s y o pm cd a3 dV kV h1 h2 h3 h4 F H A vals as pre I rd wl ns=>?_;obtain⟨rfl,s⟩:=s;have C:Bs c.heap:=⟨s,f.T.nolimit,⟨x,f.T.g⟩,⟨E,f.T.b,f.T.builtins⟩⟩;have J:y=582:=by have i:x "law"=W (.ref 582):=mg_of C.k f.T.g (by nofun);have:=F.symm.trans i;injection this with this;injection this
 subst J;obtain⟨j,p2⟩:=pE.mp pre;have j:=j;obtain⟨m,rfl⟩:∃m,A=[m]:=by
  cases A with
  |nil=>cases j
  |cons m L=>
   cases L with
   |nil=>exact⟨m,rfl⟩
   |cons _ _=>cases(pE.mp j).2
 obtain⟨t,rfl,M⟩:=has_list (pE.mp j).1;obtain⟨v,ws,a1,b1,rfl,rfl,p,rs⟩:=BI rd;obtain⟨rfl,rfl⟩:=BI rs;obtain⟨la,ol,vs,n,N,rfl,rfl,O,P,Q,R⟩:=VX p;obtain⟨rfl,nn,S,V,Z⟩:=aj0 t vs.toList N M R λm hd=>by have:=nP.mp I (.list t) (by simp);have:=of_decide_eq_true (pE.mp this).2;exact eT (ak2 hd) this
 refine dq (Ei (D c.heap la vs.toList nn C ⟨ol,O,P,n,Q⟩ S (V▸ae3 p2) Z callerA (λp q=>p= .ok (.ret (.bool af))/\Ext c.heap q.heap/\q.os=c.os/\jC q.gens) c.gens c.drawn c.toks c.os ⟨rfl,by decide,by decide⟩ (.of_eq H) λv h' g' a4 u hv=>?_) λp q hr=>?_)
 .obtain⟨rfl,i⟩:=hv;exact⟨rfl,i,rfl,u⟩
 .obtain⟨rfl,i,eo,u⟩:=hr;exact⟨.inl ⟨.bool af, .bool af,[],rfl,λz=>rfl, .bool af,ajD t,λz=>⟨.nil,λy ha=>by cases ha⟩⟩, .of_keep i,eo,u⟩
theorem xh(D:Ev k h (isTrue t env (aa t env)) (λb z=>b=c))(Y:c=af->Ev k h (aa E env) P)(F:c=aw->Ev k h (aa G env) P):
  Ev k h (aa (.IfExp t E G pos) env) P:=by
 intro f L H g i I j l m y;refine wpAny_IfExp (D f _ H g i I j l m λb B C a J=>?_);subst J;cases b with
 |true=>exact Y rfl f _ B g i C j l (m.trans a) λn s u w x=>y n s u (a.trans w) x
 |false=>exact F rfl f _ B g i C j l (m.trans a) λn s u w x=>y n s u (a.trans w) x
theorem adl(j:aO k h (aa e env) (.ref l))(hl:h.IsList l items)(m:items.size<2^60)(n:∀a,isTrue e env a=(do let v<-a;fB e.pos;fI [v] (HM v)):=by intro _;rfl):
  Ev k h (isTrue e env (aa e env)) (λb z=>b=!items.isEmpty):=by
 intro y B C g p D t u c w;exact Xd (Ev.at j u c λf x i=>(Xj (s:=⟨f,g,p,x,t⟩) (ew hl (c.trans i)) (by exact PA m) (w _ f _ i rfl))) (n _)
theorem ac9{k:Nat}{h:aK}{env:gL}{i s t:Expr}{p E:cC}{l:az}{items:Array aq}{a b:Nat}(F:aO k h (aa i env) (.ref l))(G:aX k h (aa s env) a)(H:aX k h (aa t env) b)(hl:h.IsList l items)(a0:a<=b)(I:items.size<=fv)
  (J:∀o r,me i o r=bj ():=by intro _ _;rfl):Ev k h (aa (.Subscript i (.Slice (W s) (W t) X p) E) env) (λv h'=>∃c,v= .ref c/\LO h' c ((items.toList.drop a).take (b-a)).toArray):=by
 intro w Q a3 g z tk o r f L;refine WZ (Ev.at F r f λM N j=>?_) J;simp only[xl,xl];refine G w _ M g z N o r (f.trans j) λv O P B m=>?_;obtain⟨R,rfl⟩:=m;refine H w _ O g z P o r ((f.trans j).trans B) λv C a4 S m=>?_;obtain⟨T,rfl⟩:=m;have D:=(j.trans B).trans S;refine⟨l,items,W a,W b,rfl,ew hl (f.trans D),I,zw _ _,zw _ _,?_⟩;have V:(C.push {cls:= .type "slice",data:= .fields #[.int (a:Int) R, .int (b:Int) T, .none]}).objs.size=C.objs.size+1:=Heap.size_push ..;refine L _ _ _ (D.trans λx ob Y=>eP _ (eP _ Y)) ⟨_,rfl,0,?_⟩;have Z:slicePick items (W (a:Int)) (W (b:Int)) X=((items.toList.drop a).take (b-a)).toArray:=by
  rw[slicePick_plain];simp only[Option.elim,clipAt_nat];congr 1;by_cases c:a<=items.size
  .rw[Ds c];by_cases n:b<=items.size
   .rw[Ds n]
   .rw[aat (PB n),Kn (by simp),Kn (by simp;exact(gm 0x2962401090290a4adc8 0x24084010842000401300250840108421).2 rfl n)]
  .rw[Zz (by simp;exact(fq 0xa40109029084a9e8 0x46108001084a1).2 rfl c),Zz (by simp;exact PB c)];simp
 exact(Z)▸(V)▸(jT _ rfl)
theorem aj4{i n:Nat}(h:i<n):HA (i:Int) n=W i:=by unfold HA;simp;lia
theorem uI{k:Nat}{h:aK}{env:gL}{a b:Expr}{z:cC}{t:az}{items:Array aq}{i:Nat}{j:Int}{x:aq}(B:aO k h (aa a env) (.ref t))(Y:aX k h (aa b env) j)(hl:cU h t items)(n:items[i]?=W x)(C:i<100000)(D:j=(i:Int))
  (hs:∀o t,yh b aw o (.int i t)=vu [o, .int i t] (sd o (.int i t)):=by intro _ _;with_unfolding_all rfl)
  (E:∀o r,me a o r=bj ():=by intro _ _;with_unfolding_all rfl):aO k h (aa (.Subscript a b z) env) x:=by
 subst D;intro F L M g c N o r f G;refine Subscript_ (Ev.at B r f λH I l=>(Y F _ H g c I o r (f.trans l) λO m p w J=>?_));obtain⟨P,rfl⟩:=J;have y:=hl.keeps ((f.trans l).trans w);refine ako (s:=⟨m,g,c,p,o⟩) y.typeIs BQ.lookup (alH (s:=⟨m,g,c,p,o⟩) y (afP) (GJ C) (aj4 (tY.mp n).1) n (G x m _ (l.trans w) rfl)) (hs _ _) (E _)
section
open PySem.Calls
open Builtin Builtin.ObjectAttr Builtin.Getset_descriptor
section
variable {k:Nat} {z h h':Heap} {m cm:Str->Option Value} {env:Env}
theorem Bs.peek{a:Type}(B:Bs h){t:dG a}{r:a}(e:peek (kf pS) ⟨pw,pS⟩ t=W r):eS (MM) h t r:=ZZ B.k e
theorem ajj(B:Bs h):eS (MM) h (Bind.madeHere "tuple.__new__" (.ref 132)) ():=B.peek (by nofun)
theorem Hq(B:Bs h):eS (MM) h (typeLookup (.ref 132) "__init__") (W (.builtin "object.__init__")):=B.peek (by nofun)
theorem ajr(B:Bs h):eS (MM) h (isSubtype (.ref 132) (.type "tuple")) af:=B.peek (by nofun)
theorem ajh(B:Bs h):eS (MM) h (isType (.ref 132)) af:=B.peek (by nofun)
theorem ajd(B:Bs h){t:Value}:eS (MM) h (Ed "tuple.__new__" ⟨[.ref 132,t],[]⟩) ():=B.peek (by nofun)
theorem VK(B:Bs h):eS (MM) h (Bind.madeBy (.ref 132)) X:=B.peek (by nofun)
theorem ajk(B:Bs h):eS (MM) h (mroOf (.ref 132)) [.ref 132, .type "tuple", .type "object"]:=B.peek (by nofun)
theorem aje(B:Bs h):eS (MM) h (classHasDel 132) aw:=B.peek (by nofun)
theorem akw{t:az}{w x:Value}(B:Bs h)(G:cU h t #[w,x]):Ev 1 h (eU (.builtin "tuple.__new__") [.ref 132, .ref t]) (λv h'=>∃a,v= .ref a/\fC h' a w x):=by intro O P C g p H j R D I;have i:=B.keeps D;refine dq (oi F.plain_tuple_new F.entry_tuple_new ((ajd i).here ?_));unfold kC.«tuple.__new__»;refine aB ((ajh i).here (cW rfl ?_));refine aB ((ajr i).here (cW rfl ?_));refine aB ((ajj i).here (aB ((Hq i).here ?_)));show aF _ _ (collect (.ref t)>>=λJ=>bj J.toArray>>=λL=>alloc {cls:= .type "dict",data:= .dict #[]}>>=λp=>newObj (.ref 132) (.seq L) (W p)>>=λv=>ret v) _ _ _;obtain⟨S,f,c,n,dt⟩:=G.keeps D;refine aB (ak4 (s:=⟨C,g,p,H,j⟩) t (.inr rfl) f c dt (λh' M=>aB (aV (aB (wpAny_alloc (aB ?_))))) (by simp only[eO];simp));have E:Ext C (h'.push {cls:= .type "dict",data:= .dict #[]}):=λu j f=>Heap.get?_push_of_some _ (M u j f);have N:=i.keeps E;show aF _ _ (newObjAsIs _ _ _) _ _ _;dsimp only[newObjAsIs];refine aB (wpAny_alloc (aB ((aje (N.keeps λu j f=>Heap.get?_push_of_some _ f)).here ?_)));refine aV (aV (I _ _ _ (E.trans λu j f=>Heap.get?_push_of_some _ f) ⟨_,rfl,⟨(0,W _),Heap.get?_push_size _ rfl⟩⟩))
theorem TO.tup{t:az}{vs:Array Value}(a:TO h t vs):cU h t vs:=let⟨b,y⟩:=a;⟨_,y,rfl,b,rfl⟩
theorem MT{d c:Expr}{v1 v2:Value}(e:aO k h (aa d env) v1)(Y:aO k h (aa c env) v2)
  (f:autoParam (aH [d,c] env=(aw,aa d env)::aH [c] env) rf)(g:autoParam (aH [c] env=(aw,aa c env)::aH [] env) rf):gT k h env [d,c] (λvs=>vs=[v1,v2]):=
 (eM e (eM Y lU g) f).imp λvs=>by rintro⟨i,j,rfl,rfl,b,l,rfl,rfl,rfl⟩;rfl
theorem ab5{A:cT}{s:aT}{Q:Value->aT->Prop}{id:String}{e:Expr}{rest:List Expr}{a:cC}{first:List Value}(h:aF (MM) A (yf (bG a (aH (e::rest) env))) (λvs b=>aF (MM) A (eU (.builtin id) (first++vs)) Q aE b) aE s)
  (c:autoParam (aH (e::rest) env=(aw,aa e env)::aH rest env) rf)(d:autoParam ((bG a (aH rest env)).any (·.1)=aw) rf):aF (MM) A (dH a (.builtin id) first (bG a (aH (e::rest) env)) (bZ a (cf [] env))) Q aE s:=by
 rw[c] at h⊢;exact callWith_builtin (by show(aw||(bG a (aH rest env)).any (·.1))=aw;rw[d];rfl) (evalArgs_plain h)
theorem ajm{c d:Value}(B:Bs h):gM 6 h (.call (.ref 82) ⟨[.ref 132,c,d],[]⟩) (λv h'=>∃a,v= .ref a/\fC h' a c d):=by
 refine mR (k:=5) (fd:=AF) (body:=bodyOf AF) (binds:=[("_cls", .ref 132),("x",c),("y",d)]) B (aa5 _) rfl (λz z z z z z=>eR rfl) (by nofun) (by nofun) rfl rfl rfl ?_;intro a4 L a5 G e n p g dr tk u i f j;refine mS (de (qY ?_));refine kT (Ev.at (eY (v:= .type "tuple") n (by nofun) (by boot_by_name) (by decide)) f Ext.rfl λH I b=>?_);have J:kY (.type "tuple")=bj (.type "type"):=by nofun
 have M:aaa "tuple"=aw:=by decide+kernel
 have N:NC (kf pS) (.type "tuple") (.type "type") "__new__"=W (.val (.builtin "tuple.__new__")):=by nofun
 have O:ik (.builtin "tuple.__new__")=af:=by nofun
 refine(λx i j=>method_type (prog:=pw) (w:=wS) (A:=p) (E:=aE) (s:=⟨H,g,dr,I,u⟩) (T:="tuple") (name:="__new__") (pl:=x) (Q:=i) (v:= .builtin "tuple.__new__") (eZ e b) (B.keeps G).k J M N O j) _ _ ?_;dsimp only;refine ab5 (cF (Ev.at (ah (eZ e b).ns) f Ext.rfl λR a6 y=>?_));refine cF (hY (h:=R) (k:=5) (P:=λv h'=>∃a,v= .ref a/\TO h' a #[c,d]) ?_ f Ext.rfl λv S V Y l=>?_)
 .have C:=eZ (eZ e b) y;exact AA (MT (ah C.ns) (ah C.ns)) (by simp only[eO];simp)
 obtain⟨t,rfl,T⟩:=l;refine eQ ?_;have D:=y.trans Y;exact akw ((n.keeps b).keeps D) (TO.tup T) _ _ S g dr V u (f.le (by decide)) Ext.rfl λv Z a0 a3 l=>j v Z a0 (Ext.trans e.keep (b.trans (D.trans a3))) l _ rfl
theorem ajc(B:Bs h):eS (MM) h (specialOf (.ref 132) "__call__") (W (.builtin "type.__call__")):=B.peek (by nofun)
theorem ajs(B:Bs h):eS (MM) h (uO (.ref 132) (.type "type")) af:=B.peek (by nofun)
theorem ajq(B:Bs h):eS (MM) h (isSubtype (.ref 132) (.ref 132)) af:=B.peek (by nofun)
theorem ajn(B:Bs h):∃b c f d,h.get? 132=W ⟨b,c, .cls f,d⟩:=by
 have g:(((kf pS).lookup 132).bind λa=>match a.data with| .cls _=>W ()|_=>X)=W ():=by nofun
 obtain⟨a,h1,h2⟩:=Option.bind_eq_some_iff.mp g;obtain⟨b,c,dt,d⟩:=a;cases dt<;>first|exact⟨_,_,_,_,B.k _ _ h1⟩|cases h2
theorem ajl{A:cT}{E:Value->aT->Prop}{s:aT}{Q:Value->aT->Prop}(B:Bs s.heap)(q:Q (.ref 82) {s with toks:=s.toks+1}):aF (MM) A (fc (.ref 132) "__new__") Q E s:=by
 obtain⟨h,g,d,e,f⟩:=s;have b:∃i,jQ (kf pS) 133 "staticmethod"=W (.ref 82::i):=by
  have h:((jQ (kf pS) 133 "staticmethod").bind rA)=W (.ref 82):=by nofun
  obtain⟨c,h1,h2⟩:=Option.bind_eq_some_iff.mp h;cases c with
  |nil=>cases h2
  |cons x c=>cases h2;exact⟨c,h1⟩
 obtain⟨i,b⟩:=b;exact bJ (Ai (s:=⟨h,g,d,e,f⟩) (Q:=Q) (E:=λz z=>False) (mc:= .type "type") (g:= .builtin "staticmethod.__get__") (a:= .ref 133) (obj:= .none) (tp:= .ref 132) B.k (by nofun) (by nofun) (dq (sm_get (s:=⟨h,g,d,e+1,f⟩) B.k b (sf rfl q)))) (λz z x=>x) λz z x=>x.elim
theorem ajo{a:az}{c f:Value}(B:Bs h)(p:fC h a c f):gM 1 h (.call (.builtin "object.__init__") ⟨[.ref a,c,f],[]⟩) (λv z=>v= .none):=by
 intro w x i g C l D E b s;obtain⟨F,y⟩:=(p.keeps b).ex;have j:eS (MM) i (kY (.ref a)) (.ref 132):=(pI y).andThen .now;refine oi oi_plain entry_oi ?_;have t:wR "object.__init__" ⟨[.ref a,c,f],[]⟩:=by unfold wR;nofun
 have u:eS (MM) i (uO (.ref a) (.type "object")) af:=j.andThen ((B.keeps b).peek (by nofun));refine Mv oi_kind oi_split u t ?_;unfold kC.«object.__init__»;refine aB (j.here (aB ((Hq (B.keeps b)).here ?_)));refine aB ((VK (B.keeps b)).here ?_);dsimp only;rw[if_neg (by rw[bne_self_eq_false];exact Jt),if_neg (by show¬(!(aw||((X:Option String) !=W "object.__new__")))=af;decide)];exact aV (s _ i l Ext.rfl rfl)
theorem abY{c f:Value}(B:Bs h):gM 8 h (.call (.ref 132) ⟨[c,f],[]⟩) (λv h'=>∃a,v= .ref a/\fC h' a c f):=by
 intro x M C g l D s E F G;have b:=B.keeps F;obtain⟨N,O,cd,sl,H⟩:=ajn b;refine ack (nd_load H ?_);show aF _ _ (ab4 (.ref 132) _) _ _ _;dsimp only[ab4];refine aB ((ajc b).at ?_);dsimp only;rw[tc_bind];refine aB (aV (aB (aV (aV (a:=Fin.again (.call (.builtin "type.__call__") ⟨[.ref 132,c,f],[]⟩)) (au rfl ?_)))));refine codeAny_call_builtin_at (YF _ (by decide+kernel)) entry_typeCall (Mv tc_kind tc_split (ajs b) (tc_args _ _ _) ?_);have t:aU 7 (x.under (.builtin "type.__call__" ⟨[.ref 132,c,f],[]⟩)):=E.HP (Xk _ _ _) (Er _ _ _);unfold kC.«type.__call__»;have P:=ajk b;have Q:=VK b
 repeat (first|rw[List.isEmpty_cons,ly,if_false]|with_reducible refine ajl b ?_|with_reducible refine dq ?_|lk)
 refine ajm b _ _ C g l (D+1) s (t.le (by decide:6<=7)) Ext.rfl λv u I i j=>?_;obtain⟨a,rfl,p⟩:=j;obtain⟨S,y⟩:=p.ex;have V:eS (MM) u (kY (.ref a)) (.ref 132):=(pI y).andThen .now;have Y:=ajq (b.keeps i);have Z:=Hq (b.keeps i);have Ob:=oi_bind (.ref a);unfold uO callSpecial? specialOf
 repeat (first|rw[Ju,ly,if_false]|with_reducible refine dq ?_|lk)
 refine ajo (b.keeps i) p _ _ u g l I s (t.le (by decide)) Ext.rfl λv J L w j=>?_;subst j;exact aV (aV (G _ J L (i.trans w) ⟨a,rfl,p.keeps w⟩))
end
end
section
open PySem.Calls
theorem abU(B:Bs h):gM 3 h (.call (.ref 261) ⟨[],[]⟩) (λv h'=>∃c,v= .ref c/\Ctx h' c):=by
 intro z D a g E n p s f t;have i:=B.keeps f;have j:=OV (M:=MM) i.k (C:=261) (by nofun);refine OT j (su i.k (name:="__init__") (r:=W (.builtin "object.__init__")) (by nofun)) (λu=>Looks.of_pure (oi_bind u)) (.inr ⟨rfl,rfl⟩) ?_;have l:Ext a ((a.push lW).push (dy 261 a.objs.size)):=λF p f=>eP _ (eP _ f);have m:((a.push lW).push (dy 261 a.objs.size)).get? (a.objs.size+1)=W (dy 261 a.objs.size):=by heap_get
 have w:((a.push lW).push (dy 261 a.objs.size)).get? a.objs.size=W lW:=by heap_get
 have x:eS (MM) ((a.push lW).push (dy 261 a.objs.size)) (kY (.ref (a.objs.size+1))) (.ref 261):=(pI m).andThen .now;have y:eS (MM) ((a.push lW).push (dy 261 a.objs.size)) (uO (.ref (a.objs.size+1)) (.type "object")) af:=x.andThen (j.top.keeps l);refine oi oi_plain entry_oi (@Mv (MM) _ _ _ "object.__init__" "object" "__init__" (.ref (a.objs.size+1)) [] [] _ oi_kind oi_split y (oi_args (.ref (a.objs.size+1))) ?_);simp only[oi_run];exact aV (au rfl (t _ _ n l ⟨_,rfl,_,0,m,w⟩))
theorem acP(B:Bs h)(j:aO k h (aa a env) (.ref f))(C:∀h',Ext h h'->gM k h' (.call (.ref f) ⟨[],[]⟩) P)(hk:xy (kf pS) (.ref f)=af)
  (l:autoParam (aa (.Call a [] [] pos) env=(do dH pos (<-aa a env) [] (bG pos (aH [] env)) (bZ pos (cf [] env)))) rf):Ev k h (aa (.Call a [] [] pos) env) P:=by
 intro m E F g n G p i b s;rw[l];refine aB (Ev.at j i b λt u c=>(callWith_K0 (B.keeps (b.trans c)).k hk (dq ?_)));exact C _ (b.trans c) m _ t g n u p i Ext.rfl λw x y z D=>s w x y (c.trans z) D
theorem acg(B:Bs h)
  (q:∀a h' m,Ext h h'->h'.get? a=W (sA (.ref 451) (.ref 488))->Q (.ref a,[]) ⟨h',g,d,m,o⟩):aF (MM) A (ie (.ref 488) "delaunay" pl) Q aE ⟨h,g,d,tk,o⟩:=by
 refine OW (s:=⟨h,g,d,tk,o⟩) B.k (by nofun) ?_;have f:∃j,jQ (kf pS) 453 "classmethod"=W (.ref 451::j):=by
  have h:((jQ (kf pS) 453 "classmethod").bind rA)=W (.ref 451):=by nofun
  obtain⟨i,h1,h2⟩:=wH.mp h;cases i with
  |nil=>cases h2
  |cons x i=>cases h2;exact⟨i,h1⟩
 obtain⟨j,f⟩:=f;exact bJ (Q:=λn p=>Q (n,[]) p) (E:=λc c=>False) (Ai (s:=⟨h,g,d,tk,o⟩) (mc:= .type "type") (g:= .builtin "classmethod.__get__") (a:= .ref 453) (obj:= .none) (tp:= .ref 488) B.k (by nofun) (by nofun) (dq (Aj (s:=⟨h,g,d,tk+1,o⟩) B.k f (sf rfl (q _ _ _ (λw o r=>eP _ r) (by heap_get)))))) (λc c x=>x) λc c x=>x.elim
structure Lw(h':aK)(D:List (az×Pt)->Prop)(S:az)(q:Qd)(Y:Lay)(p:gX)(ys:List Nat):Prop where
 ex:∃V,D V/\∀a,a∈p.V↔a∈V.map (·.2)
 R:∃z1,Rz z1 h' Y q.n q.on
 T:gY h' Y q.n q.P
 qe:QE q.n q.on
 tr:Wg q.n q.on q.P p.al p.V p.l p.r
 lo:LO h' S (cY Y (both ys))
 br:BR q.on [p.l,p.r] [] ys
theorem aeL(r:aU 30 A)(ab:jC g)(B:Bs h)
  (FL:aO 30 h (aa (.Name "list" a4) env) (.type "list"))(FT:aO 30 h (aa (.Name "to_edges" a5) env) (.ref 520))(FD:aO 30 h (aa (.Name "Triangulation" F) env) (.ref 488))
  (X1:Ev 30 h (aa u env) (λv h'=>∃la V,v= .ref la/\h'.IsList la (refs V)/\iU h' V/\D V))(X2:Ev 30 h (aa j env) (λv h'=>∃H,v= .ref H/\Ctx h' H))(I:∀V,D V->V.length<60/\2<=(cR V).length/\(cR V).length<=6)
  (pl:dG Bool)(i:aa (.Call (.Attribute (.Name "Triangulation" F) "delaunay" a0) [u] [⟨W "context",j,p1⟩] m) env=(do
   let ov<-aa (.Name "Triangulation" F) env
   fB a0.atName
   let(f,first)<-fI [ov] (ie ov "delaunay" pl)
   dH m f first (bG m (aH [u] env)) (bZ m (cf [⟨W "context",j,p1⟩] env))))
  (q:∀S h' z J C Y p ys,jC z->Ext h h'->Lw h' D S C Y p ys->Q (.ref S) ⟨h',z,d,J,o⟩)
  (h1:autoParam (aH [u] env=(aw,aa u env)::aH [] env) rf)
  (a6:autoParam (((bG m (aH [u] env)).any (·.1)||(bZ m (cf [⟨W "context",j,p1⟩] env)).any (·.1.isNone))=aw) rf)
  (a7:autoParam ((bZ m (cf [⟨W "context",j,p1⟩] env)).all (·.1.isSome)=af) rf)(hz:∀L:List aq,((bZ m (cf [⟨W "context",j,p1⟩] env)).filterMap (·.1)).zip L=([("context":aA)].zip L):=by intro L;rfl):
  aF (MM) A (aa (.Call (.Name "list" a4) [.Call (.Name "to_edges" a5) [.Call (.Attribute (.Name "Triangulation" F) "delaunay" a0) [u] [⟨W "context",j,p1⟩] m] [] p2] [] p3) env) Q aE ⟨h,g,d,tk,o⟩:=by
 refine mE (Ev.at FL r Ext.rfl λb1 b2 j=>?_);refine KW (cF (mE ?_));refine Ev.at FT r j λb3 b4 e3=>?_;have M:=j.trans e3;refine mQ (h₀:=h) (K:=kf pS) B.k (by nofun) (cF ?_);refine kT (Ev.at FD r M λb5 b6 e4=>(acg (B.keeps (M.trans e4)) λa b7 b8 e5 hq=>?_)) i;have x:=(M.trans e4).trans e5;refine Ad (P:=rB (kf pS) a 451 (.ref 488)) a6 (xA (by nofun)) (Nm a7 (cF (X1 A _ _ g d _ o r x λv1 b9 c0 e6 N=>?_) h1) h1);obtain⟨la,V,rfl,lV,pV,E⟩:=N;refine eQ (xB (X2 A _ _ g d _ o r (x.trans e6) λv3 a8 a3 O N=>?_));obtain⟨H,rfl,cc⟩:=N;have y:=e6.trans O;refine xC ⟨⟨y _ _ hq,(B.keeps (x.trans y)).k⟩,?_⟩;simp only[hz];refine dq (xI (s:=⟨a8,g,d,a3,o⟩) (y _ _ hq) (acz (B.keeps (x.trans y)) (ew lV O) (pV.keeps O) (I V E).1 (I V E).2.1 (I V E).2.2 cc A _ g d a3 o (r.le (by decide)) ab λv c1 c2 c3 a9 hd=>?_));obtain⟨t,dd,C,Y,p,rfl,c,hV,hm⟩:=hd;refine eQ ⟨c.bz.bs.k,dq (akx c.bz.bs (r.le (by decide)) λL1 L2 ga b c4 c5 G=>?_)⟩;refine eQ ?_;have n:=c.tr.part;obtain⟨ys,br,hy⟩:=abP n c.qe _ [p.l,p.r] [] (bT _) (λw i=>by
  rcases cP.mp i with rfl|i
  .exact c.tr.fJ
  .simp only[gb.mp i];exact c.tr.fA) (λw i=>by cases i)
 have hb:ys.length<10000:=by have:=aky (P:=C.P) (V:=p.V);have:p.V.length*p.V.length<=60*60:=aay (iy hV) (iy hV);exact(fq 0x9c407f0a041e0be10f05f22808524084a008 0x23084011842008c21).2 hy ‹_› this
 have al:=br.al (al:=p.al) (λw i=>n.nb c.qe i) (λw i=>by
  rcases cP.mp i with rfl|i
  .exact c.tr.fJ
  .rw[gb.mp i];exact c.tr.fA)
 refine ae7 (r.le (by decide)) ?_ c.bz.bs G (KR _) c.T c.G.R.toRep (n.lt _ c.tr.fJ) (n.lt _ c.tr.fA) br hb (λw i=>n.lt w (al w i)) λS hf z J b0 Z nS lS=>?_
 .exact(a9.push rfl).push rfl
 have eh:=((Ext.trans x y)).trans (c.bz.e.trans Z);exact q S hf z J C Y p ys b0 eh ⟨⟨V,E,hm⟩,⟨_,c.G.R.keeps Z⟩,c.G.T.keeps Z,c.qe,c.tr,lS,br⟩
end
structure Sp(h:aK)(v:aq)(a:Pt):Prop where
 is:(kP (kI)).is h v a
 b1:Bt KB a.1
 b2:Bt KB a.2
theorem Sp.keeps(S:Sp h v a)(e:Ext h h'):Sp h' v a:={S with is:=(kP (kI)).tq e.tq S.is}
theorem Sp.x(S:Sp h v a)(b:aO k h (aa e env) v)
  (hs:∀o t,yh (.Constant (.int 0) c p) aw o (.int 0 t)=vu [o, .int 0 t] (sd o (.int 0 t)):=by intro _ _;with_unfolding_all rfl)
  (d:∀o r,me e o r=bj ():=by intro _ _;with_unfolding_all rfl):aX k h (aa (.Subscript e (.Constant (.int 0) c p) pos) env) a.1:=by
 obtain⟨r,x,y,rfl,T,⟨t,rfl⟩,u,rfl⟩:=S.is;exact aX.of (uI (i:=0) b (ct) T rfl (by decide) rfl hs d)
theorem Sp.y(S:Sp h v a)(b:aO k h (aa e env) v)
  (hs:∀o t,yh (.Constant (.int 1) c p) aw o (.int 1 t)=vu [o, .int 1 t] (sd o (.int 1 t)):=by intro _ _;with_unfolding_all rfl)
  (d:∀o r,me e o r=bj ():=by intro _ _;with_unfolding_all rfl):aX k h (aa (.Subscript e (.Constant (.int 1) c p) pos) env) a.2:=by
 obtain⟨r,x,y,rfl,T,⟨t,rfl⟩,u,rfl⟩:=S.is;exact aX.of (uI (i:=1) b (ct) T rfl (by decide) rfl hs d)
theorem EG{P1 P2:aq->Prop}(m:Ev k h (aa l env) (λv z=>P1 v))(Y:Ev k h (aa r env) (λv z=>P2 v))
  (n:∀v1 v2 A (Q:aq->aT->Prop) (s:aT),P1 v1->P2 v2->aU k A->Ext h s.heap->Q (.bool b) s->aF (MM) A (fP op v1 v2) Q aE s)(p:lO op r=aw:=by with_unfolding_all rfl):
  aO k h (aa (.Compare l [op] [r] pos) env) (.bool b):=by
 intro A Q t g dr u a c d w;refine wpAny_Compare1 (m A _ t g dr u a c d λv x y f B=>(Y A _ x g dr y a c (d.trans f) λv i C j D=>?_)) p;exact n _ _ A _ ⟨i,g,dr,C,a⟩ B D c ((d.trans f).trans j) (w _ i _ (f.trans j) rfl)
theorem xg{P1 P2:aq->Prop}(n:Ev k h (aa l env) (λv z=>P1 v))(Y:Ev k h (aa r env) (λv z=>P2 v))
  (p:∀v1 v2 A (Q:aq->aT->Prop) (s:aT),P1 v1->P2 v2->aU k A->Ext h s.heap->Q (.bool b) s->aF (MM) A (fP op v1 v2) Q aE s)(t:lO op r=aw:=by with_unfolding_all rfl):
  Ev k h (isTrue (.Compare l [op] [r] pos) env F) (λc z=>c=b):=by
 intro A Q u g dr w a d f x;refine ti (n A _ u g dr w a d f λv y B i C=>(Y A _ y g dr B a d (f.trans i) λv j D m E=>?_)) t;exact p _ _ A _ ⟨j,g,dr,D,a⟩ C E d ((f.trans i).trans m) (gH (x _ j _ (i.trans m) rfl))
theorem ac3(n:aO k h (aa a env) (.bool c1))(Y:c1=aw->aO k h (aa b env) (.bool c2)):aO k h (aa (.BoolOp .Or [a,b] pos) env) (.bool (c1||c2)):=by
 intro p B C g s D t f i j;refine BoolOp_or (Ev.at n f i λl m c=>(gH ?_));cases c1 with
 |true=>exact j _ l m c rfl
 |false=>exact BoolOp_one (Y rfl p _ l g s m t f (i.trans c) λu w x y z=>j u w x (c.trans y) z)
theorem acM(n:aO k h (aa a env) (.bool c1))(Y:c1=af->aO k h (aa b env) (.bool c2)):aO k h (aa (.BoolOp .And [a,b] pos) env) (.bool (c1&&c2)):=by
 intro p B C g s D t f i j;refine BoolOp_and (Ev.at n f i λl m c=>(gH ?_));cases c1 with
 |false=>exact j _ l m c rfl
 |true=>exact BoolOp_one (Y rfl p _ l g s m t f (i.trans c) λu w x y z=>j u w x (c.trans y) z)
theorem Mr(a:∃u,v1= .int i u)(b:∃u,v2= .int j u)(q:Q (.bool (decide (i<j))) s):aF (MM) A (fP .Lt v1 v2) Q aE s:=by obtain⟨u,rfl⟩:=a;obtain⟨c,rfl⟩:=b;exact HR q
theorem acb(a:∃u,v1= .int i u)(b:∃u,v2= .int j u)(q:Q (.bool (decide (j<i))) s):aF (MM) A (fP .Gt v1 v2) Q aE s:=by obtain⟨u,rfl⟩:=a;obtain⟨c,rfl⟩:=b;exact aaJ q
theorem aca(a:∃u,v1= .int i u)(b:∃u,v2= .int j u)(q:Q (.bool (decide (i=j))) s):aF (MM) A (fP .Eq v1 v2) Q aE s:=by
 obtain⟨u,rfl⟩:=a;obtain⟨e,rfl⟩:=b;refine eq_int ?_;have:(i==j)=decide (i=j):=by by_cases d:i=j<;>simp[d]
 rw[this];exact q
theorem aeK(B:Bs h)(e:Sp h j p)(f:Sp h l a)(i:Sp h n b):gM 3 h (.call (.ref 563) ⟨[j,l,n],[]⟩) (λv z=>∃u,v= .int (cr p a b) u):=by
 refine mR (k:=2) (fd:=AE) (body:=bodyOf AE) (binds:=[("p",j),("a",l),("b",n)]) B (abg _) rfl (λz z z z z z=>eR rfl) (by nofun) (by nofun) rfl rfl rfl ?_;intro s t I w d J M g dr N O R C D;have c:=w.trans d.keep;refine fL (h₀:=s) (L:=t) (m:=λz=>X) (k:=2) (P:=λv z=>∃u,v= .int (cr p a b) u) ?_ C λv E S G H=>D v E _ (Ext.trans d.keep G) H _ rfl;exact gf (lX (gf ((f.keeps c).x (ah d.ns)) ((e.keeps c).x (ah d.ns))) (gf ((i.keeps c).y (ah d.ns)) ((e.keeps c).y (ah d.ns))) (((f.keeps c).b1.sub (e.keeps c).b1).mX ((i.keeps c).b2.sub (e.keeps c).b2) (by decide)))
  (lX (gf ((f.keeps c).y (ah d.ns)) ((e.keeps c).y (ah d.ns))) (gf ((i.keeps c).x (ah d.ns)) ((e.keeps c).x (ah d.ns))) (((f.keeps c).b2.sub (e.keeps c).b2).mX ((i.keeps c).b1.sub (e.keeps c).b1) (by decide)))
theorem MX(d:aX k h (aa f env) c)(g:aX k h (aa x2 env) c):
  aX k h (aa (.IfExp (.Compare f [.Gt] [.Constant (.int 0) i p1] p2) (.Constant (.int 0) j p3) (.IfExp (.Compare x2 [.Eq] [.Constant (.int 0) l m] n) (.Constant (.int 1) o p) (.Constant (.int 2) q r) s) t) env) (cls c):=by
 refine xh (c:=decide (0<c)) (EK d (ct)) (λa=>?_) (λa=>xh (c:=decide (c=0)) (Av g (ct)) (λb=>?_) λb=>?_)
 .rw[show(cls c:Int)=0 by unfold cls;rw[if_pos (of_decide_eq_true a)];rfl];exact ct
 .rw[show(cls c:Int)=1 by unfold cls;rw[if_neg (of_decide_eq_false a),if_pos (of_decide_eq_true b)];rfl];exact ct
 .rw[show(cls c:Int)=2 by unfold cls;rw[if_neg (of_decide_eq_false a),if_neg (of_decide_eq_false b)];rfl];exact ct
theorem EI(B:Bs h)(o:Sp h i p)(q:Sp h j a)(r:Sp h l b)(s:aO k h (aa (.Name "_law_cross" t) env) (.ref 563))(u:aO k h (aa g env) i)(v:aO k h (aa d env) j)(w:aO k h (aa c env) l)(hk:3<=k)
  (m:autoParam (aH [g,d,c] env=(aw,aa g env)::aH [d,c] env) rf)(x:autoParam (aH [d,c] env=(aw,aa d env)::aH [c] env) rf)(y:autoParam (aH [c] env=(aw,aa c env)::aH [] env) rf)
  (z:autoParam ((bG pos (aH [d,c] env)).any (·.1)=aw) rf):aX k h (aa (.Call (.Name "_law_cross" t) [g,d,c] [] pos) env) (cr p a b):=by
 refine uH (P1:=λn=>n=[i,j,l]) B s (Ap u v w m x y) (λn D A f=>?_) (by nofun) (by rfl) m z;subst A;exact(aeK (B.keeps f) (o.keeps f) (q.keeps f) (r.keeps f)).tr.le hk
theorem aeS(B:Bs h)(y:Sp h N p)(O:Sp h R a)(S:Sp h T b)(V:Sp h Y c):gM 5 h (.call (.ref 570) ⟨[N,R,T,Y],[]⟩) (λv z=>v= .bool (decide (bM p a b c))):=by
 refine mR (k:=4) (fd:=AG) (body:=bodyOf AG) (binds:=[("p",N),("a",R),("b",T),("c",Y)]) B (abi _) rfl (λz z z z z z=>eR rfl) (by nofun) (by nofun) rfl rfl rfl ?_;intro Z L a6 a0 d w C g dr tk o D x f;have j:=a0.trans d.keep;refine LI (k:=4) (P1:=λv=>∃i,v= .int (cr p a b) i) (P2:=λv=>∃i,v= .int (cr p a c) i) d.ns (qm (eM ?_ (eM ?_ lU)) ?_) x λE G a7 a8 a9 H a3 a4 I J=>?_
 .exact EI w (y.keeps j) (O.keeps j) (S.keeps j) (cB w (by nofun)) (ah d.ns) (ah d.ns) (ah d.ns) (by decide)
 .exact EI w (y.keeps j) (O.keeps j) (V.keeps j) (cB w (by nofun)) (ah d.ns) (ah d.ns) (ah d.ns) (by decide)
 .rintro vs ⟨a,r1,rfl,_,b,r2,rfl,_,rfl⟩;simp only[eO];simp
 obtain⟨u1,rfl⟩:=a3;obtain⟨u2,rfl⟩:=a4;refine yg ((eZ d H).set J I) (P:=λv z=>∃i,v= .int (cls (cr p a b)) i) (MX (aX.of (ah ((eZ d H).set J I).ns)) (aX.of (ah ((eZ d H).set J I).ns))) x ?_;rintro v b0 b1 b2 e4 ⟨u3,rfl⟩ b3 M;refine yg M (P:=λv z=>∃i,v= .int (cls (cr p a c)) i) (MX (aX.of (ah M.ns)) (aX.of (ah M.ns))) x ?_;rintro v b4 b5 b6 e6 ⟨u4,rfl⟩ b7 e;have l:=a0.trans e.keep;refine fL (h₀:=Z) (L:=L) (m:=λz=>X) (k:=4) (P:=λv z=>v= .bool (decide (bM p a b c))) ?_ x λv a5 b8 e8 hv=>f v a5 _ (Ext.trans e.keep e8) hv _ rfl;have eb:decide (bM p a b c)=(decide ((cls (cr p a b):Int)<cls (cr p a c))||(decide ((cls (cr p a b):Int)=cls (cr p a c))&&decide (0<cr p b c))):=by rw[ze];unfold bM;simp only[Yv,vV,decide_eq_true_eq,JO,Int.natCast_inj];exact decide_eq_true_iff
 exact(eb)▸(ac3 (EG (aX.of (ah e.ns)) (aX.of (ah e.ns)) λE G C D s n t z z f=>Mr n t f) λz=>acM (EG (aX.of (ah e.ns)) (aX.of (ah e.ns)) λE G C D s n t z z f=>aca n t f) λz=>(EG (EI (B.keeps l) (y.keeps l) (S.keeps l) (V.keeps l) (cB (B.keeps l) (by nofun)) (ah e.ns) (ah e.ns) (ah e.ns) (by decide)) (ct) λE G C D s n t z z f=>acb n t f))
theorem acQ(i:aO k h (aa (.Call a f [] pos) env) (.bool b)):Ev k h (isTrue (.Call a f [] pos) env (aa (.Call a f [] pos) env)) (λc z=>c=b):=by intro s t u g v w x j l m;exact FN (Ev.at i j l λn y p=>(gH (m _ n _ p rfl)))
theorem ada(B:Bs h)(s:Sp h l p)(t:Sp h m a)(u:Sp h n b)(v:Sp h o c)(w:aO k h (aa (.Name "_law_sooner" x) env) (.ref 570))(y:aO k h (aa j env) l)(z:aO k h (aa g env) m)(A:aO k h (aa f env) n)(C:aO k h (aa d env) o)(hk:5<=k)
  (q:autoParam (aH [j,g,f,d] env=(aw,aa j env)::aH [g,f,d] env) rf)(D:autoParam (aH [g,f,d] env=(aw,aa g env)::aH [f,d] env) rf)(E:autoParam (aH [f,d] env=(aw,aa f env)::aH [d] env) rf)(F:autoParam (aH [d] env=(aw,aa d env)::aH [] env) rf)
  (G:autoParam ((bG pos (aH [g,f,d] env)).any (·.1)=aw) rf):aO k h (aa (.Call (.Name "_law_sooner" x) [j,g,f,d] [] pos) env) (.bool (decide (bM p a b c))):=by
 refine uH (P1:=λr=>r=[l,m,n,o]) B w (Aq y z A C q D E F) (λr J H i=>?_) (by nofun) (by rfl) q G;subst H;exact(aeS (B.keeps i) (s.keeps i) (t.keeps i) (u.keeps i) (v.keeps i)).tr.le hk
section
variable {α:Type} [DecidableEq α]
theorem Ae{A:cT}{s:aT}{v u:aq}{a b:α×α}{Q:aq->aT->Prop}(K:Kd α)(d:aU (K.rk+1) A)(h:kr K s.heap v a)(i:kr K s.heap u b)(q:Q (.bool (decide (a≠b))) s):aF (MM) A (fP .NotEq v u) Q aE s:=by
 obtain⟨n,x,y,rfl,f,hx,hy⟩:=h;obtain⟨o,p,t,rfl,g,j,k⟩:=i;rw[show decide (a≠b)=!decide (a=b) from by by_cases l:a=b<;>simp[l],EA] at q;exact Xh (op:= .NotEq) f.typeIs g.typeIs aaP
  (yp aaP f.typeIs PySem.F.entry_tuple_ne (tne (AP g) (tg f) (tg g) (K.eq d.in1 hx j _) (K.eq d.in1 hy k _) ⟨_,rfl,(λm=>nomatch m),q⟩) (PySem.F.args_tuple_ne_2 _ _)) (d.le (dN _):aU 0 A).u9
theorem Ms{A:cT}{s:aT}{v u:aq}{a b:α×α}{Q:aq->aT->Prop}(K:Kd α)(c:aU (K.rk+1) A)(g:kr K s.heap v a)(h:kr K s.heap u b)(q:Q (.bool (decide (a=b))) s):aF (MM) A (fP .Eq v u) Q aE s:=by
 obtain⟨l,x,y,rfl,d,hx,hy⟩:=g;obtain⟨m,n,o,rfl,f,i,j⟩:=h;rw[EA] at q;exact Xh (op:= .Eq) d.typeIs f.typeIs zM
  (yp zM d.typeIs aaN (HG (AP f) (tg d) (tg f) (K.eq c.in1 hx i _) (K.eq c.in1 hy j _) ⟨_,rfl,(λk=>nomatch k),q⟩) (aaL _ _)) (c.le (dN _):aU 0 A).u9
end
noncomputable def oA(p a:Pt)(l:List Pt):Pt:=l.foldl (λc d=>if d≠a/\(c=a\/bM p a d c) then d else c) a
theorem OH(h:(t=a/\∀b∈l,b=a)\/(t≠a/\t∈l/\∀b∈l,b=a\/b=t\/bM p a t b)):oA p a l=t:=by
 rcases h with⟨rfl,h⟩|⟨o,k,h⟩
 .unfold oA;induction l with
  |nil=>rfl
  |cons b l f=>rw[wh,if_neg (λg=>g.1 (h b gO))];exact f λb m=>h b (fZ _ m)
 .have r:∀(l:List Pt) (d:Pt),(∀b∈l,b=a\/b=t\/bM p a t b)->(d=a\/d=t\/bM p a t d)->(t∈l\/d=t)->
    l.foldl (λd b=>if b≠a/\(d=a\/bM p a b d) then b else d) d=t:=by
   intro l;induction l with
   |nil=>intro d _ _ h;exact h.resolve_left (by simp)
   |cons b l f=>
    intro d hl m s;simp only[wh];have i:∀b∈l,b=a\/b=t\/bM p a t b:=λx u=>hl x (fZ _ u);by_cases n:d=t
    .subst n;by_cases g:b≠a/\(d=a\/bM p a b d)
     .rcases hl b gO with j|j|j
      .exact absurd j g.1
      .rw[if_pos g,j];exact f d i (.inr (.inl rfl)) (.inr rfl)
      .exact absurd (g.2.resolve_left o) (LV j)
     .rw[if_neg g];exact f d i (.inr (.inl rfl)) (.inr rfl)
    .by_cases q:b=t
     .subst q;have:b≠a/\(d=a\/bM p a b d):=⟨o,m.imp id λh=>h.resolve_left n⟩;rw[if_pos this];exact f b i (.inr (.inl rfl)) (.inr rfl)
     .have k:=(cP.mp (s.resolve_right n)).resolve_left (fN q);split
      .exact f b i (hl b gO) (.inl k)
      .exact f d i m (.inl k)
  exact r l a h (.inl rfl) (.inl k)
noncomputable def oF(p a c b:Pt):Pt:=if b≠a/\(c=a\/bM p a b c) then b else c
theorem afb:oA p a l=l.foldl (oF p a) a:=rfl
def gA(h:aK)(V:List (aq×Pt)):Prop:=∀x∈V,Sp h x.1 x.2
theorem gA.keeps(s:gA h V)(e:Ext h h'):gA h' V:=λx a=>(s x a).keeps e
noncomputable def vals(V:List (aq×a)):Array aq:=(V.map (·.1)).toArray
inductive NJ(h₀:aK)(L la:az)(d v:aq)(p a:Pt)(V:List (aq×Pt))(c:az)(i:Nat)(h':aK):Prop
 |mk (e:Ext h₀ h') (m:aA->Option aq) (bv:aq) (ns:h'.Ns L m) (m1:m "p"=W d) (m2:m "a"=W v) (m3:m "best"=W bv) (sp:Sp h₀ bv ((V.take i).foldl (λb x=>oF p a b x.2) a)) (f:h'.IsListIter c la i) (n1:h₀.get? c=X) (n2:L≠c)
theorem aeP(B:Bs h)(Pp:Sp h vp p)(Z:Sp h va a)(hl:h.IsList la (vals V))(hV:gA h V):
  gM 9 h (.call (.ref 577) ⟨[vp,va, .ref la],[]⟩) (λv h'=>Sp h' v (oA p a (V.map (·.2)))):=by
 refine mR (k:=8) (fd:=AH) (body:=bodyOf AH) (binds:=[("p",vp),("a",va),("around", .ref la)]) B (abh _) rfl (λf f f f f f=>eR rfl) (by nofun) (by nofun) rfl rfl rfl ?_;intro a0 L b9 N F c0 A g dr tk E Q u O;refine yg F (P:=λv f=>v=va) (ah F.ns) u ?_;rintro v c1 c2 c3 e2 rfl sb G;have nl:=jq F.above;have b3:=N.trans G.keep;refine LK (k:=8) (la:=la) (vs:=vals V) (NJ a0 L la vp v p a V)
  (ah G.ns) (ew hl b3) u ?_ ?_ ?_ ?_ (by rfl) (by obtain⟨ob,_,_,l,_⟩:=G.ns;exact⟨ob,l⟩) (by rfl)
 .intro it h' w S nL a4;refine⟨Ext.trans G.keep w,_,_,G.ns.keeps w,rfl,rfl,rfl,Z.keeps N,a4,ft G.keep S,fN nL⟩
 .rintro it d h' ⟨T,m,bv,a3,_,_,_,_,a5,H,I⟩ nL;exact⟨a5,ew hl (N.trans T),m,a3⟩
 .rintro it d v' h' a9 h4 b4 R ⟨T,m,bv,S,m1,m2,m3,sp,a5,H,I⟩ nL J a4 s1 s2 b5 nx;have hi:d<V.length:=by have:=(tY.mp J).1;simpa [vals] using this
  obtain rfl:v'=V[d].1:=by
   have:(vals V)[d]?=W V[d].1:=by simp[vals,hi]
   replace J:=(this)▸J;cases J;rfl
  have j:=b5 m S;have Y:=iC (iC T s1 H) s2 nl;have C:=N.trans Y;have pb:=hV _ (jU hi);have fk:(V.take (d+1)).foldl (λt x=>oF p a t x.2) a=oF p a ((V.take d).foldl (λt x=>oF p a t x.2) a) V[d].2:=by
   have:V.take (d+1)=V.take d++[V[d]]:=by rw[ZX];simp[hi]
   simp only[this,JZ];rfl
  generalize (V.take d).foldl (λt x=>oF p a t x.2) a=M at sp fk;have b0:=a4.extBut s2.extBut nL;refine mO (k:=8) (c:=V[d].2≠a/\(M=a\/bM p a V[d].2 M)) ?_ u (λc h5 b6 R' D a8 f=>?_) λc h5 b6 R' D a8 f=>?_
  .rw[show decide (V[d].2≠a/\(M=a\/bM p a V[d].2 M))=(decide (V[d].2≠a)&&(decide (M=a)||decide (bM p a V[d].2 M))) by rw[Js,Bool.decide_or]];refine xe ?_ λf=>?_
   .refine xg (P1:=λx=>x=V[d].1) (P2:=λx=>x=v) ?_ ?_ λv1 v2 A Q s e1 e2 u w O=>?_
    .exact ah j
    .exact ah j (m2)
    subst e1 e2;exact Ae (kI) (u.le (by show 1<=8;decide)) (pb.keeps (C.trans w)).is (Z.keeps (C.trans w)).is O
   refine xk ?_ λf=>?_
   .refine xg (P1:=λx=>x=bv) (P2:=λx=>x=v) ?_ ?_ λv1 v2 A Q s e1 e2 u w O=>?_
    .exact ah j (m3)
    .exact ah j (m2)
    subst e1 e2;exact Ms (kI) (u.le (by show 1<=8;decide)) (sp.keeps (Y.trans w)).is (Z.keeps (C.trans w)).is O
   refine acQ (ada (B.keeps C) (Pp.keeps C) (Z.keeps C) (pb.keeps C) (sp.keeps Y) ?_ ?_ ?_ ?_ ?_ (by decide))
   .exact cB (B.keeps C) (by nofun)
   .exact ah j (m1)
   .exact ah j (m2)
   .exact ah j
   .exact ah j (m3)
  .refine lJ (k:=8) (j.keeps D) (P:=λx f=>x=V[d].1) ?_ u λv6 h6 h7 b1 e6 b7 b2 n7=>?_
   .exact ah (j.keeps D)
   subst b7;refine cA (a8 _ (cA (nx h7 _ ⟨iC ((Y.trans D).trans e6) b2 nl,_,_,n7,m1,m2,rfl,?_,((b0.at λE l=>D _ E l).at λE l=>e6 _ E l).extBut b2.extBut I.symm,H,I⟩)));rw[fk];unfold oF;rw[if_pos c];exact pb.keeps N
  .refine cA (a8 _ (cA (nx h5 _ ⟨Y.trans D,_,_,j.keeps D,m1,m2,m3,?_,b0.at λE l=>D _ E l,H,I⟩)));rw[fk];unfold oF;rw[if_neg c];exact sp
 .rintro it h' a9 b4 ⟨T,m,bv,S,m1,m2,m3,sp,a5,H,I⟩ eb;have E6:Ext a0 a9:=λt ob l=>eb t ob (eg l H) (T t ob l);refine fL (h₀:=a0) (L:=0) (m:=λf=>X) (ah (k:=8) (S.extBut eb I) (m3)) u λv h7 b1 e7 J=>?_;subst J;have b8:(vals V).size=V.length:=by simp[vals]
  rw[b8,zG] at sp;refine O _ h7 b1 (E6.trans e7) ?_ (.ret _) rfl;have:oA p a (V.map (·.2))=V.foldl (λt x=>oF p a t x.2) a:=by simp only[afb,List.foldl_map]
  exact this▸sp.keeps (E6.trans e7)
section
theorem adj(u:aO k h (aa a env) (.type T))(w:Ev k h (aa e env) P1)
  (C:∀v h',Ext h h'->P1 v h'->Ev k h' (eU (.type T) [v]) P)(x:autoParam (aa (.Call a [e] [] pos) env=(do dH pos (<-aa a env) [] (bG pos (aH [e] env)) (bZ pos (cf [] env)))) rf)
  (l:autoParam (aH [e] env=(aw,aa e env)::aH [] env) rf)(y:autoParam ((bG pos (aH [] env)).any (·.1)=aw) rf):
  Ev k h (aa (.Call a [e] [] pos) env) P:=by
 intro m J L g n M p b c z;rw[x];refine aB (Ev.at u b c λB D f=>(KW (cF (w m _ B g n D p b (c.trans f) λi s E t j=>?_) l) l y));exact eQ (C i s ((c.trans f).trans t) j m _ s g n E p b Ext.rfl λi G H I j=>z i G H ((f.trans t).trans I) j)
theorem ael(z:Ev k h (aa e env) (λv h'=>∃c,v= .ref c/\LO h' c vs)):ua k h env e vs.size (λi v=>vs[i]?=W v):=by
 intro B L C g n D p t E F;refine z B _ C g n D p t E λv l u w G=>?_;obtain⟨x,rfl,f⟩:=G;have f:=f.list;have I:x≠l.objs.size:=by obtain⟨j,a,_⟩:=f;exact cJ (dA a)
 refine HT (s:=⟨l,g,n,u,p⟩) f (F l.objs.size _ _ _ u (w.trans λJ j a=>eP _ a) ?_ (abq t.h _ x I vs) ⟨⟨_,jT _ rfl,rfl,rfl⟩,f.push _⟩ (λJ m=>?_) (λi M st=>?_))
 .exact ft w (jq (bT _))
 .rcases cP.mp m with rfl|m
  .exact⟨_,jT _ rfl⟩
  .obtain rfl:=gb.mp m;obtain⟨j,a,_⟩:=f;exact⟨j,eP _ a⟩
 .obtain⟨j,a,c,_⟩:=st.1;exact⟨j,a,BS c (by decide)⟩
variable {α:Type} [DecidableEq α]
theorem qD:∀{D L:List α},D.Nodup->(∀a∈D,a∈L)->D.length<=L.length
 |[],_,_,_=>dN _
 |a::D,L,e,c=>by obtain⟨f,n2⟩:=lF.mp e;have:=qD (D:=D) (L:=L.erase a) n2 λg d=>(ZQ (by rintro rfl;exact f d)).mpr (c g (fZ _ d));simp only[ZM (c a gO)] at this;have:=List.length_pos_of_mem (c a gO);simp only[jD];exact Nat.add_le_of_le_sub this ‹_›
theorem iV.vals{h:aK}{K:Kd α}{S:az}{n:Array (Int×aq)}{t:gZ}{L:List α}(x:iV K h S n t L):∃D:List α,D.length=n.size/\D.Nodup/\∀a,a∈D↔a∈L:=by
 have u:∀g:List (Int×aq),(∀d∈g,∃f,K.is h d.2 f)->(g.Pairwise λd i=>∀f,K.is h d.2 f->¬K.is h i.2 f)->∃D:List α,D.length=g.length/\D.Nodup/\∀a,a∈D↔∃d∈g,K.is h d.2 a:=by
  intro g;induction g with
  |nil=>intro _ _;exact⟨[],rfl, .nil,λa=>by simp⟩
  |cons d g v=>
   intro r s;obtain⟨D,o,p,k⟩:=v (λd q=>r d (fZ _ q)) (Dk.mp s).2;obtain⟨f,hb⟩:=r d gO;refine⟨f::D,by simp[o],lF.mpr ⟨λw=>?_,p⟩,λa=>⟨λm=>?_,λm=>?_⟩⟩
   .obtain⟨i,j,y⟩:=(k f).mp w;exact(Dk.mp s).1 i j f hb y
   .rcases cP.mp m with rfl|m
    .exact⟨d,gO,hb⟩
    .obtain⟨i,j,h⟩:=(k a).mp m;exact⟨i,fZ _ j,h⟩
   .obtain⟨i,j,h⟩:=m;rcases cP.mp j with rfl|j
    .simp only[K.un h hb];exact gO
    .exact fZ _ ((k a).mpr ⟨i,j,h⟩)
 obtain⟨D,o,p,k⟩:=u n.toList (λd q=>let⟨_,f,_,hb,_⟩:=x.el d q;⟨f,hb⟩) x.sep;exact⟨D,by simpa using o,p,λa=>(k a).trans (x.mem a)⟩
theorem Nd{k:Nat}{h:aK}{env:gL}(K:Kd α){m b e:Expr}{p1 p2:cC}{l:az}{items:Array aq}{L:List α}(P:aO k h (aa m env) (.builtin "len"))(R:aO k h (aa b env) (.type "set"))(T:aO k h (aa e env) (.ref l))
  (V:K.dp<=8)(hk:K.rk+4<=k)(hl:L.length=items.size)(F:L.length<=70)(Y:h.IsList l items)(hr:∀v∈items,∃r,v= .ref r)(c:∀(i:Nat) (v:aq) (a:α),items[i]?=W v->L[i]?=W a->K.is h v a)
  (Z:autoParam (aa (.Call b [e] [] p1) env=(do dH p1 (<-aa b env) [] (bG p1 (aH [e] env)) (bZ p1 (cf [] env)))) rf)
  (w:autoParam (aH [e] env=(aw,aa e env)::aH [] env) rf)
  (a0:autoParam (aa (.Call m [.Call b [e] [] p1] [] p2) env=(do dH p2 (<-aa m env) [] (bG p2 (aH [.Call b [e] [] p1] env)) (bZ p2 (cf [] env)))) rf):
  Ev k h (aa (.Call m [.Call b [e] [] p1] [] p2) env) (λv z=>∃D:List α,(∃u,v= .int D.length u)/\D.Nodup/\∀a,a∈D↔a∈L):=by
 refine ED (P1:=λv x=>∃f n p,v= .ref f/\iV K x f n p L) P (adj (P1:=λv z=>v= .ref l) R T (λv x e c=>?_) Z w) (λv x e c=>?_) a0
 .subst c;intro A Q B g G H I r C E;have J:=e.trans C;refine abZ K V (r.le hk) hl F (ew Y J) hr (λi v a w h2=>K.tq J.tq (c i v a w h2)) λf h3 a3 n p e4 nS j=>E _ h3 a3 e4 ⟨f,n,p,rfl,j⟩
 .obtain⟨f,n,p,rfl,j⟩:=c;obtain⟨D,M,N,O⟩:=j.vals;intro A Q B g G H I r C E;obtain⟨ep,y⟩:=j.so;have bd:=qD N λa ha=>(O a).mp ha;refine call_len_set (s:=⟨B,g,G,H,I⟩) (C _ _ y) ?_ rfl (fits_of j.wt) ((fq 0x20000000000000001bf0a0c34a808428881185f0a408 0x20088012846008c21).2 F M bd) ?_
  .exact⟨rfl,rfl,rfl⟩
  .exact M▸E _ B _ Ext.rfl ⟨D,⟨_,rfl⟩,N,O⟩
end
noncomputable abbrev cu(L:az):gL:=uv xo L 582
noncomputable def mV:List cQ:=bodyOf xo
noncomputable def AX(i:Nat):Expr:=nj (mV.getD i (.Pass ⟨0,0,0,0⟩)) 0
noncomputable def red(a n:Int):Int:=if a=0 then n.fmod 4 else if a=1 then n.fmod 23 else n
noncomputable def nums(a:Int)(ns:List Int):List Int:=((ns.drop 1).take 12).map (red a)
noncomputable def kindOf(ns:List Int):Int:=match ns with|[]=>0|b::_=>b.fmod 3
theorem NI{n m:Int}(h:0<m)(a:m<=23):Bt KB (n.fmod m):=by unfold Bt;have b:=YZ n h;have c:=YY n h;have:(2:Nat)^5<=2^KB:=Nat.pow_le_pow_right (by decide) (by decide);exact agv a b c this
theorem ajz{a n:Int}(h:Bt KB n):Bt KB (red a n):=by
 unfold red;split
 .exact NI (by decide) (by decide)
 .split
  .exact NI (by decide) (by decide)
  .exact h
theorem afF{b:Int}{ns:List Int}(h:∀n∈ns,Bt KB n):∀n,n∈nums b ns->Bt KB n:=λn c=>by obtain⟨d,ha,rfl⟩:=dc.mp c;exact ajz (h d (Dh (Di ha)))
structure IV(vs:Array aq)(ns:List Int):Prop where
 len:vs.size=ns.length
 at_:∀(i:Nat) (v:aq),vs[i]?=W v->∃n u,v=wN n u/\ns[i]?=W n
theorem AS:∀{vs:List aq} {ns:List Int},iQ vs ns->IV vs.toArray ns
 |_,_, .nil=>⟨rfl,λe f h=>by simp at h⟩
 |_,_, .cons j k l=>by
  have g:=AS l;refine⟨by have:=g.len;simp at this⊢;exact this,λe f h=>?_⟩;cases e with
  |zero=>simp at h;exact⟨j,k,h.symm,by simp⟩
  |succ e=>exact let⟨m,b,c,d⟩:=g.at_ e f (by simpa using h);⟨m,b,c,by simpa using d⟩
theorem Hn{a b:Type}{e:a->b->Prop}:∀{c:List a} {d:List b},rH e c d->c.length=d.length
 |_,_, .nil=>rfl
 |_,_, .cons _ f=>congrArg (·+1) (Hn f)
theorem jo.size{a:Nat->aq->aK->Prop}{n:Nat}{h:aK}{ys:Array aq}(c:jo (λz=>af) a n h ys):ys.size=n:=by
 have b:rH (λd e=>a d e h) (fD n) ys.toList:=by have c:=c;unfold jo at c;rw[JY.mpr (λz z=>rfl)] at c;exact c
 have:=Hn b;simpa using this.symm
section
variable {k:Nat} {z h h':Heap} {m cm:Str->Option Value} {env:Env} {L la:Addr} {vs:List Value} {ns:List Int} {kd:Int}
theorem Bg{e:Env}{P:Bool->Prop}(b:P af):Ev k h (mT ([]:List Expr) af λc r=>if r=af then do let a<-isTrue c e (aa c e);bj (mF a) else bj (mF r)) (λa z=>P a):=by intro l n f g p i s r t j;exact aV (j _ f i Ext.rfl b)
theorem acV(C:Cv z (cu L) m cm h)(e:m "script"=W (.ref la))(f:h.IsList la vs.toArray)(b:iQ vs ns)(g:ns.length<=63):aX k h (aa (AX 0) (cu L)) (kindOf ns):=by
 refine xh (c:=!vs.toArray.isEmpty) (adl (ah C.ns e) f ((dz 0x2000000000000000df85024a0880fc5f0a408 0x12042008421).2 g ((AS b).len))) (λa=>?_) λa=>?_
 .cases b with
  |nil=>simp at a
  |@cons j d vs ns l=>exact Ax (aX.of (u:=d) (qj (ah C.ns e) (ct) f (i:=0) rfl (by decide) rfl)) (ct) (by decide)
 .cases b with
  |nil=>exact ct
  |cons j d l=>simp at a
theorem ac1(C:Cv z (cu L) m cm h)(o:m "script"=W (.ref la))(q:∃u,cm "kind"=W (.int kd u))(J:h.IsList la vs.toArray)(E:iQ vs ns)(M:ns.length<=63):
  Ev k h (aa (AX 1) (cu L)) (NL h λys w=>IV ys (nums kd ns)):=by
 obtain⟨u,q⟩:=q;have N:=(AS E).len;have F:vs.length=ns.length:=by simpa using N
 have O:(nums kd ns).length=((vs.drop 1).take 12).length:=by unfold nums;simp[F]
 refine(uG (k:=k) (n:=((vs.drop 1).take 12).toArray.size) (P:=λd j=>((vs.drop 1).take 12).toArray[d]?=W j) (λw=>af) (λd A w=>∃g u,A= .int g u/\(nums kd ns)[d]?=W g)
  (ael (ac9 (a:=1) (b:=13) (ah C.ns o) (ct) (ct) J (by decide) (by simp only[eO];show vs.length<=_;exact agw M F)))
  (λd A h1 h2 w hf=>hf) (by simp;exact agx) (λQ d j G R l H p S s o=>Bg rfl) (λQ d j G R aQ H hp p S s o=>?_)).imp (Nat.le_refl _) λj h' w T=>?_
 .have l:=aQ;have I:((vs.drop 1).take 12)[d]?=W j:=by simpa using H
  obtain⟨g,u',rfl,V⟩:=(AS E).at_ (d+1) j (by rw[List.getElem?_take_of_lt (by simp at l;exact Ql l),List.getElem?_drop] at I;rw[Nat.add_comm];simpa using I);have Y:(nums kd ns)[d]?=W (red kd g):=by unfold nums;simp only[List.getElem?_map,List.getElem?_take_of_lt (by simp at l;exact Ql l),List.getElem?_drop,Nat.add_comm,V];rfl
  rw[Y];suffices x:aX k G _ (red kd g) from x.imp (Nat.le_refl _) λA w w Z=>let⟨t,p⟩:=Z;⟨_,t,p,rfl⟩;refine xh (c:=decide (kd=0)) (Av (aX.of (kO ((C.jZ (n:="kind") (by rfl) q).keeps p))) (ct)) (λf=>?_) λf=>?_
  .unfold red;rw[if_pos (of_decide_eq_true f)];exact Ax (aX.of (ah s o)) (ct) (by decide)
  refine xh (c:=decide (kd=1)) (Av (aX.of (kO ((C.jZ (n:="kind") (by rfl) q).keeps p))) (ct)) (λB=>?_) λB=>?_
  .unfold red;rw[if_neg (of_decide_eq_false f),if_pos (of_decide_eq_true B)];exact Ax (aX.of (ah s o)) (ct) (by decide)
  .unfold red;rw[if_neg (of_decide_eq_false f),if_neg (of_decide_eq_false B)];exact aX.of (ah s o)
 .obtain⟨D,ys,rfl,nD,lD,f⟩:=T;exact⟨D,ys,rfl,nD,lD,by simp only[f.size,O];simp,λd j l=>f.at l⟩
end
noncomputable def mA(N:List Int):List Pt:=(fD (N.length/2)).map λa=>(N.getD (2*a) 0,N.getD (2*a+1) 0)
theorem rg2:∀N:Nat,N<13->rq 0 ((N:Int)-1) 2=((N/2:Nat):Int)/\zf 0 ((N:Int)-1) 2=af/\YB ((N:Int)-1-0) 2=aw:=by decide+kernel
theorem cU.kx(t:cU h r xs)(e:Kx h h'):cU h' r xs:=let⟨a,y,c,n,d⟩:=t;⟨a,e _ _ ⟨.inl c,λb f x=>by replace x:=(d)▸x;cases x⟩ y,c,n,d⟩
theorem Sp.kx(S:Sp h v a)(e:Kx h h'):Sp h' v a:={S with is:=S.is.imp λb=>iO λb=>iO λb=>vT (Yp λc=>cU.kx c e)}
theorem bN.kx(p:bN h a x y)(e:Kx h h'):bN h' a x y:={p with ex:=let⟨b,v,n,y⟩:=p.ex;⟨b,v,n,e _ _ ⟨.inr ⟨_,rfl⟩,λc c x=>by cases x⟩ y⟩}
theorem Ji{Pd:aq->b->Prop}(hl:ys.size=ps.length)(hs:∀(i:Nat) (v:aq) (p:b),ys[i]?=W v->ps[i]?=W p->Pd v p):∃V:List (aq×b),vals V=ys/\(∀x∈V,Pd x.1 x.2)/\V.map (·.2)=ps:=by
 have c:ys.toList.length=ps.length:=by simpa using hl
 refine⟨ys.toList.zip ps,?_,λx d=>?_,?_⟩
 .unfold vals;rw[List.map_fst_zip (rD c)]
 .obtain⟨i,a,e⟩:=uf.mp d;rw[ZK] at e;subst e;simp only[Kf] at a;refine hs i _ _ ?_ (nR (ahg a));rw[<-zb];exact nR (ahh a)
 .rw[List.map_snd_zip (rD c.symm)]
theorem IV.get(x:IV vs ns)(h:i<ns.length):∃u,vs[i]?=W (.int (ns.getD i 0) u):=by have a:=x.len▸h;obtain⟨c,u,e,b⟩:=x.at_ i vs[i] (yZ a);refine⟨u,?_⟩;rw[yZ a,e,wi,b];rfl
theorem Cv.aka(C:Cv z env m k h)(s:vX env.locals h h')(n:h'.Ns env.locals g)(l:g "_context"=X):Cv z env g k h':=
 ⟨⟨C.bz.b,λi a d=>s i a (by rintro rfl;exact absurd (dA d) (pO.mpr C.zL)) (C.bz.e i a d)⟩,n,l,λn f j=>let⟨a,d,e⟩:=C.cell n f j;⟨a,s f a (rG (C.above n f (mem_of_lookup j))) d,e⟩,C.apart,C.above,C.zL⟩
theorem abF{m I:aA->Option aq}{Q:dM->aT->Prop}(C:Cv z (cu L) m I h)(J:I "numbers"=W (.ref la))(M:h.IsList la ys)(O:IV ys N)(w:N.length<13)(hb:∀n∈N,Bt KB n)(r:aU k A)
  (q:∀D V h' R,Cv z (cu L) (λy=>if y="given" then W (.ref D) else m y) I h'->LO h' D (vals V)->gA h' V->V.map (·.2)=mA N->aF (MM) A (bg (mV.drop 3) (cu L)) Q aE ⟨h',g,d,R,o⟩):
  aF (MM) A (bg (mV.drop 2) (cu L)) Q aE ⟨h,g,d,tk,o⟩:=by
 have a0:=O.len;obtain⟨r1,r2,r3⟩:=rg2 N.length w;refine abC (k:=k) (n:=N.length/2) (P:=λf l=>∃t,l= .int (0+f*2) t) (λx=>af) (λf y H=>Sp H y (N.getD (2*f) 0,N.getD (2*f+1) 0)) C.ns r
  (Ou (a:=0) (b:=(N.length:Int)-1) (c:=2) (Nl (eY (C.bz.bs) (by nofun) (by boot_by_name) (by decide)) (ct) (gf ?_ (ct)) (ct) (by decide) r3) r2 r1)
  (λf y h1 F s hf=>hf.kx s) (ahi w) (λC' f l a3 a4 hi hP s nC Y Z=>Bg rfl) (λC' f l a3 a4 aQ hP hp s nC Y Z=>?_) λD ys h' R eb nD DL n' lD S=>?_
 .exact(qi (v:= .ref la) (eY (C.bz.bs) (by nofun) (by boot_by_name) (by decide)) (hZ C J) λh' s=>rQ (ew M s) ((dz 0x10000000000000001bf0a0494110d0a448 0x12042008421).2 w a0)).imp (bT _) λl x x E=>by replace E:=(a0)▸E;exact E
 .obtain⟨t,rfl⟩:=hP;obtain⟨u1,e1⟩:=O.get (i:=2*f) (Qy aQ);obtain⟨u2,e2⟩:=O.get (i:=2*f+1) (Qz aQ);have bt:∀G<N.length,Bt KB (N.getD G 0):=λG u=>by simp only[wi,nR u];exact hb _ (jU u)
  refine Ev.imp (P:=λl h'=>∃B,l= .ref B/\TO h' B [wN (N.getD (2*f) 0) u1,wN (N.getD (2*f+1) 0) u2].toArray) ?_ (bT _) λl h' x E=>?_
  .refine AA (MT ?_ ?_) (by simp only[eO];simp)
   .exact qj (kO ((C.jZ (n:="numbers") (by rfl) J).keeps s)) (aX.of (ah Y Z)) (ew M s) (i:=2*f) e1 (ahj w aQ) (by push_cast;exact QA)
   .exact qj (kO ((C.jZ (n:="numbers") (by rfl) J).keeps s)) (rU (aX.of (ah Y Z)) (ct)) (ew M s) (i:=2*f+1) e2 (ahk w aQ) (by push_cast;exact ahl)
  .obtain⟨B,rfl,T⟩:=E;exact⟨⟨B,_,_,rfl,T.tup,⟨_,rfl⟩,_,rfl⟩,bt _ (Qy aQ),bt _ (Qz aQ)⟩
 .have sl:(mA N).length=N.length/2:=by unfold mA;simp
  obtain⟨V,rfl,v2,v3⟩:=Ji (Pd:=λl p=>Sp h' l p) (ys:=ys) (ps:=mA N) (by simp only[S.size,sl]) λf l p h1 F=>by have h3:=S.at h1;unfold mA at F;rw[kF] at F;obtain⟨G,u,s⟩:=kK.mp F;obtain⟨_,u⟩:=Dc.mp u;rw[ZJ] at u;subst u s;exact h3
  exact q D V h' R (C.aka eb n' (C.nk)) lD v2 v3
noncomputable def jl(l:List Pt):Nat:=(cR (l.map λa=>(0,a))).length
theorem WT{D l:List Pt}(n:D.Nodup)(h:∀a,a∈D↔a∈l):D.length=jl l:=by
 have d:∀a,a∈(cR (l.map λb=>((0:az),b))).map (·.2)↔a∈l:=λa=>⟨λh=>by obtain⟨i,hy,rfl⟩:=dc.mp h;obtain⟨b,f,rfl⟩:=dc.mp (uB hy);exact f,λh=>xc (x:=(0,a)) (dc.mpr ⟨a,h,rfl⟩)⟩;have g:jl l=((cR (l.map λb=>((0:az),b))).map (·.2)).length:=by simp only[cO];rfl
 simp only[g];exact wq (qD n λa c=>(d a).mpr ((h a).mp c)) (qD (Ex _) λa c=>(h a).mpr ((d a).mp c))
theorem Ey(V:List (az×Pt)):(cR V).length=jl (V.map (·.2)):=by rw[<-cO (f:=(·.2))];exact WT (Ex V) λc=>⟨λh=>by obtain⟨b,hy,rfl⟩:=dc.mp h;exact dc.mpr ⟨b,uB hy,rfl⟩,λh=>by obtain⟨b,hy,rfl⟩:=dc.mp h;exact xc hy⟩
theorem akV(l:List Pt):jl l<=l.length:=by have:=Ew (l.map λa=>((0:az),a));rwa [cO] at this
theorem akT(a b:List Pt):jl (a++b)<=jl a+b.length:=by
 have:∀(d c:List (az×Pt)),(d.foldl fO c).length<=c.length+d.length:=by
  intro d;induction d with
  |nil=>intro c;simp
  |cons x j f=>intro c;have g:=f (fO c x);have i:=@Ly c x;simp only[wh,jD];exact RN g i
 have h:=this (b.map λe=>((0:az),e)) (cR (a.map λe=>((0:az),e)));rw[cO] at h;unfold jl;rw[kG];unfold cR;rw[JZ];exact h
theorem akU{D l:List Pt}(n:D.Nodup)(h:∀a∈D,a∈l):D.length<=jl l:=by
 have b:jl l=((cR (l.map λc=>((0:az),c))).map (·.2)).length:=by rw[cO];rfl
 rw[b];exact qD n λa d=>xc (x:=(0,a)) (dc.mpr ⟨a,h a d,rfl⟩)
noncomputable def more:List Pt:=[(0,0),(1,0),(0,1)]
noncomputable def oB(s:List Pt):List Pt:=if jl s<2 then s++more else s
theorem xH{s:List Pt}(h:s.length<=6):2<=jl (oB s)/\jl (oB s)<=6/\(oB s).length<=9:=by
 unfold oB;split
 .have d:=akT s more;have e:=akU (D:=[(0,0),(1,0)]) (l:=s++more) (by decide) λf b=>lC _ (by
   rcases cP.mp b with rfl|b
   .exact gO
   .simp only[gb.mp b];exact fZ _ gO)
  have c:more.length=3:=rfl;exact gW▸⟨e,(fq 0x305001854442922401020a448 0x23084012842008c21).2 ‹_› d c,(dz 0x4852810061491060a008 0x11042008c21).2 h c⟩
 .have:=akV s;exact⟨(kl 0x1020804140948 0x8022).2 ‹_›,eT this h,(eT h (by decide))⟩
theorem rV(i:aX k h (aa d env) x)(Y:aX k h (aa c env) y)(j:Bt KB x)(l:Bt KB y)
  (e:autoParam (aH [d,c] env=(aw,aa d env)::aH [c] env) rf)(f:autoParam (aH [c] env=(aw,aa c env)::aH [] env) rf):
  Ev k h (aa (.Tuple [d,c] q pos) env) (λv h'=>Sp h' v (x,y)):=by
 refine(qm (eM i (eM Y lU f) e) λm h=>?_).imp (bT _) λv h' r n=>?_
 .obtain⟨g,o,rfl,_,b,p,rfl,_,rfl⟩:=h;simp only[eO];simp
 .obtain⟨g,m,rfl,⟨v1,o,rfl,e,v2,p,rfl,f,rfl⟩,T⟩:=n;exact⟨⟨g,v1,v2,rfl,T,e,f⟩,j,l⟩
theorem acY(C:Ev k h (aa j env) (λv h'=>Sp h' v p1))(Y:Ev k h (aa c env) (λv h'=>Sp h' v p2))(E:Ev k h (aa a env) (λv h'=>Sp h' v p3))
  (F:autoParam (aH [j,c,a] env=(aw,aa j env)::aH [c,a] env) rf)(G:autoParam (aH [c,a] env=(aw,aa c env)::aH [a] env) rf)(H:autoParam (aH [a] env=(aw,aa a env)::aH [] env) rf):
  Ev k h (aa (.List [j,c,a] pos) env) (λv h'=>∃D V,v= .ref D/\LO h' D (vals V)/\gA h' V/\V.map (·.2)=[p1,p2,p3]):=by
 intro l Q I g m J f n p L;simp only[LG];refine aB (gG (aB (cF (C l _ I g m J f n p λu M N a O=>(cF (Y l _ M g m N f n (p.trans a) λw P R s S=>?_) G)) F)));refine cF (E l _ P g m R f n ((p.trans a).trans s) λy z a0 t T=>?_) H;refine eQ (Cm ?_ (by simp only[eO];simp));have i:Ext z (z.push {cls:= .type "list",data:= .seq [u,w,y].toArray}):=λb f x=>eP _ x;refine L _ _ _ ((a.trans (s.trans t)).trans i) ⟨_,[(u,p1),(w,p2),(y,p3)],rfl,⟨0,jT _ rfl⟩,λx B=>?_,rfl⟩;simp only[cP,kH,or_false] at B;rcases B with rfl|rfl|rfl
 .exact O.keeps ((s.trans t).trans i)
 .exact S.keeps (t.trans i)
 .exact T.keeps i
theorem abW(p:LO h l (vals V))(t:LO h b (vals c))(u:gA h V)(w:gA h c)(z:V.length+c.length<1000):Ev k h (DV .Add (.ref l) (.ref b)) (λv h'=>∃D,v= .ref D/\h.get? D=X/\LO h' D (vals (V++c))/\gA h' (V++c)):=by
 intro I J i g B C m L a E;obtain⟨M,F⟩:=p.keeps a;obtain⟨N,G⟩:=t.keeps a;refine aaS (s:=⟨i,g,B,C,m⟩) F G ?_ (by unfold vals;simp only[jW,cO];simp only[eO];exact(dz 0x20000005f8528103e817c2940848 0x8421).2 z);have j:∀n,Ext i (i.push n):=λn b m H=>eP _ H;refine E _ _ _ (j _) ⟨_,rfl,ft a (jq (bT _)),⟨0,?_⟩,λx f=>?_⟩
 .have a:vals (V++c)=vals V++vals c:=by simp[vals]
  exact a▸jT _ rfl
 .rcases fM.mp f with f|f
  .exact(u x f).keeps (a.trans (j _))
  .exact(w x f).keeps (a.trans (j _))
theorem gA.kx(s:gA h V)(e:Kx h h'):gA h' V:=λx a=>(s x a).kx e
theorem Cg:(vals V).size=V.length:=by simp[vals]
theorem adn(t:aO k h (aa j env) (.builtin "len"))(w:aO k h (aa g env) (.type "set"))(y:aO k h (aa e env) (.ref l))
  (hk:5<=k)(A:LO h l (vals V))(p:gA h V)(B:V.length<=70)
  (C:autoParam (aa (.Call g [e] [] p1) env=(do dH p1 (<-aa g env) [] (bG p1 (aH [e] env)) (bZ p1 (cf [] env)))) rf)
  (c:autoParam (aH [e] env=(aw,aa e env)::aH [] env) rf)
  (E:autoParam (aa (.Call j [.Call g [e] [] p1] [] p2) env=(do dH p2 (<-aa j env) [] (bG p2 (aH [.Call g [e] [] p1] env)) (bZ p2 (cf [] env)))) rf):
  aX k h (aa (.Call j [.Call g [e] [] p1] [] p2) env) (jl (V.map (·.2))):=by
 have q:∀(d:Nat) (b:aq),(vals V)[d]?=W b->∃x,V[d]?=W x/\x.1=b:=λd b h=>by unfold vals at h;rw[Ke,kF] at h;obtain⟨x,c,f⟩:=kK.mp h;exact⟨x,c,f⟩
 refine(Nd (kP (kI)) (L:=V.map (·.2)) t w y (by show 1<=8;decide) (by show 0+1+4<=k;exact hk) (by simp only[Cg,cO]) (by rw[cO];exact B) A.list (λb o=>?_) (λd b I c f=>?_) C c E).imp (bT _) λb J M o=>?_
 .obtain⟨d,F,e⟩:=Ys.mp o;obtain⟨x,c,f⟩:=q d b (by simp only[yZ F,e]);obtain⟨G,_,_,e,_⟩:=(p x (ug c)).is;exact⟨G,f▸e⟩
 .obtain⟨x,s,H⟩:=q d b c;replace f:=(s)▸(kF)▸f;cases f;exact H▸(p x (ug s)).is
 .obtain⟨N,⟨u,rfl⟩,n,m⟩:=o;rw[WT n m];exact⟨u,rfl⟩
theorem aeN(C:Cv z (cu L) m cm h)(hm:m "script"=W (.ref la))(il:z.IsList la vs.toArray)(iv:iQ vs ns)(hz:ns.length<=63)(bt:∀n∈ns,Bt KB n)(r:aU 30 A)
  (q:∀m' a6 G V h' H,Cv z (cu L) m' a6 h'->m' "given"=W (.ref G)->LO h' G (vals V)->gA h' V->V.map (·.2)=oB (mA (nums (kindOf ns) ns))->aF (MM) A (bg (mV.drop 4) (cu L)) Q aE ⟨h',g,d,H,o⟩):
  aF (MM) A (bg mV (cu L)) Q aE ⟨h,g,d,tk,o⟩:=by
 refine ur (x:="kind") (k:=30) (P:=λf h'=>Ext h h'/\∃B,f= .int (kindOf ns) B) ?_ (λf I i=>C.keeps i.1) r λf b4 a4 b5 i b6 S=>?_
 .intro A Q g d tk o r q;exact acV C hm (ew il C.bz.e) iv hz A _ h g d tk o r Ext.rfl λf h' H l i=>q f h' H ⟨l,i⟩
 obtain⟨e2,B,rfl⟩:=i;refine ur (x:="numbers") (k:=30) (P:=λf h'=>Ext a4 h'/\∃j J,f= .ref j/\LO h' j J/\IV J (nums (kindOf ns) ns)) ?_ (λf I i=>S.keeps i.1) r λf b7 b8 b9 i a7 a8=>?_
 .intro A Q g d tk o r q;exact ac1 S hm ⟨B,rfl⟩ (ew il S.bz.e) iv hz A _ a4 g d tk o r Ext.rfl λf h' H l i=>q f h' H ⟨l,by obtain⟨j,J,a,_,b,p⟩:=i;exact⟨j,J,a,b,p⟩⟩
 obtain⟨e4,N,J,rfl,lN,a9⟩:=i;have nl:(nums (kindOf ns) ns).length<13:=by unfold nums;simp;exact ahz
 refine abF (k:=30) a8 rfl (lN.ck ((S.keeps e4).uw a7 (n:="numbers") (by rfl))).list a9 nl (afF bt) r λG V c0 c1 T Z a0 M=>?_;have sl:(mA (nums (kindOf ns) ns)).length<=6:=by unfold mA;simp only[cO,ud];exact ahA nl
 have vl:V.length<=6:=by have:=congrArg uc M;simp only[cO] at this;exact this▸sl
 refine oe (k:=30) (c:=decide (((jl (V.map (·.2)):Nat):Int)<2)) ?_ r λa5 b0 O=>?_
 .refine xg (P1:=λf=>∃B,f= .int (jl (V.map (·.2))) B) (P2:=λf=>∃B,f= .int 2 B) (adn ?_ ?_ ?_ (by decide) Z a0 (eT vl (by decide))) (ct) λv1 v2 A Q s I h2 Y Y q=>Mr I h2 q
  .exact eY (T.bz.bs) (by nofun) (by boot_by_name) (by decide)
  .exact eY (T.bz.bs) (by nofun) (by boot_by_name) (by decide)
  .exact ah (T.ns)
 have E:=T.keeps O;by_cases p:((jl (V.map (·.2)):Nat):Int)<2
 .rw[if_pos (decide_eq_true p)];refine lJ (x:="given") (k:=30) E.ns (P:=λf h'=>∃j R,f= .ref j/\a5.get? j=X/\LO h' j (vals R)/\gA h' R/\R.map (·.2)=V.map (·.2)++more) ?_ r λf c2 b1 b2 e9 i a3 b3=>?_
  .refine uF (P1:=λf h'=>f= .ref G/\LO h' G (vals V)/\gA h' V) (P2:=λf h'=>∃j F,f= .ref j/\LO h' j (vals F)/\gA h' F/\F.map (·.2)=more) ?_ (λI e1=>?_) (λf I h2 l i=>⟨i.1,i.2.1.keeps l,i.2.2.keeps l⟩) λa b h' l ha hb=>?_
   .exact Ev.imp (P:=λf Y=>f= .ref G) (ah E.ns) (bT _) λf h' l i=>⟨i,Z.keeps (O.trans l),a0.keeps (O.trans l)⟩
   .refine acY (p1:=(0,0)) (p2:=(1,0)) (p3:=(0,1)) ?_ ?_ ?_
    all_goals exact rV (ct) (ct) (by unfold Bt;decide+kernel) (by unfold Bt;decide+kernel)
   .obtain⟨rfl,la,sa⟩:=ha;obtain⟨j,F,rfl,lb,sb,eW⟩:=hb;have wl:F.length=3:=by have:=congrArg uc eW;rw[cO] at this;exact this
    exact(abW la lb sa sb ((dz 0x7d02f852810861491060a008 0x11042008c21).2 vl wl)).imp (bT _) λf h' Y i=>iO (λY t=>⟨V++F,t.1,ft l t.2.1,t.2.2.1,t.2.2.2,by rw[kG,eW]⟩) i
  obtain⟨j,R,rfl,nD,lD,sD,eD⟩:=i;have DL:j≠L:=by obtain⟨ob,_,_,t,_⟩:=E.ns;rintro rfl;have t:=t;replace nD:=(t)▸nD;cases nD
  refine cA (q _ _ j R b1 b2 ((E.keeps e9).qR a3 b3 (E.nk)) rfl (lD.but a3 DL) (sD.kx (qF a3 (E.keeps e9).ns)) ?_);rw[eD,M];unfold oB;rw[if_pos (by rw[M] at p;exact JO.mp p)]
 .rw[if_neg (λz=>p (of_decide_eq_true z))];refine cA (q _ _ G V a5 b0 E rfl (Z.keeps O) (a0.keeps O) ?_);rw[M];unfold oB;rw[if_neg (by rw[M] at p;exact(kl 0x105025082830d48 0x8022).2 p)]
noncomputable def adr(v:aq):az:=match v with| .ref b=>b|_=>0
theorem ajt(hl:ys.size=ps.length)(hs:∀(i:Nat) (v:aq) (p:Pt),ys[i]?=W v->ps[i]?=W p->∃a,v= .ref a/\bN H a p.1 p.2):∃V:List (az×Pt),ys=refs V/\iU H V/\V.map (·.2)=ps:=by
 obtain⟨V,rfl,v2,c⟩:=Ji hl hs;refine⟨V.map λx=>(adr x.1,x.2),?_,λx b=>?_,by rw[wo];exact c⟩
 .show(V.map (·.1)).toArray=((V.map λx=>(adr x.1,x.2)).map λx=>cM x.1).toArray;rw[wo];congr 1;refine Kh λx b=>?_;obtain⟨a,e,_⟩:=v2 x b;show x.1= .ref (adr x.1);rw[e];rfl
 .obtain⟨d,hy,rfl⟩:=dc.mp b;obtain⟨a,e,p⟩:=v2 d hy;rw[e];exact p
noncomputable def aen:Expr:=jv (jv (jv (AX 4) 1) 1) 1
theorem ac4(C:Cv z (cu L) m cm h)(r:m "given"=W (.ref G))(lG:LO h G (vals V))(sG:gA h V)(hz:V.length<=9)(hk:8<=k):
  Ev k h (aa aen (cu L)) (λv h'=>∃la s,v= .ref la/\h'.IsList la (refs s)/\iU h' s/\s.map (·.2)=V.map (·.2)):=by
 refine(uG (k:=k) (n:=(vals V).size) (P:=λd v=>(vals V)[d]?=W v) (λN=>af) (λd O Q=>∀g,(V.map (·.2))[d]?=W g->∃j,O= .ref j/\bN Q j g.1 g.2)
  (AR (ah C.ns r) lG.list)
  (λd O R S l hf g q=>let⟨j,b,c⟩:=hf g q;⟨j,b,c.kx l⟩) (Cg▸(eT hz (by decide))) (λC' d v a0 a3 A B l nC F r=>Bg rfl) (λC' d v a0 a3 aQ B q l nC F r=>?_)).imp (bT _) λv h' N o=>?_
 .have A:d<V.length:=by simp only[Cg] at aQ;exact aQ
  obtain rfl:v=V[d].1:=by
   have:(vals V)[d]?=W V[d].1:=by simp[vals,A]
   replace B:=(this)▸B;cases B;rfl
  have E:=(sG _ (jU A)).keeps l;have e1:(V.map (·.2))[d]?=W V[d].2:=by simp[A]
  have I:=(C.bz.bs).keeps l;refine Ev.imp (P:=λv h'=>∃j,v= .ref j/\bN h' j V[d].2.1 V[d].2.2) ?_ (bT _) λv h' N o g q=>?_
  .refine uH (f:=132) (P1:=λT=>∃v Y,T=v::Y/\(∃J,v= .int V[d].2.1 J)/\∃t M,Y=t::M/\(∃J,t= .int V[d].2.2 J)/\M=[]) I ?_ ?_ (λT h' o l=>?_) (by nofun)
   .exact cB I (by nofun)
   .refine eM ?_ (eM ?_ lU)
    .exact E.x (ah F r)
    .exact E.y (ah F r)
   .obtain⟨v1,r1,rfl,⟨u1,rfl⟩,t,M,rfl,⟨u2,rfl⟩,rfl⟩:=o;refine((abY (I.keeps l)).tr.le hk).imp (bT _) λv a4 o=>⟨o.1,let⟨j,l,g⟩:=o.2;⟨j,l,⟨⟨u1,u2,g⟩,E.b1,E.b2⟩⟩⟩
  .replace q:=(e1)▸q;cases q;exact o
 .obtain⟨D,Z,rfl,nD,lD,c⟩:=o;obtain⟨s,rfl,t,v3⟩:=ajt (H:=h') (ys:=Z) (ps:=V.map (·.2)) (by simp only[c.size,Cg,cO]) λd v g R S=>c.at R g S;exact⟨D,s,rfl,lD.list,t,v3⟩
structure Sq(h:aK)(v:aq)(a:Pt×Pt):Prop where
 ex:∃r x y,v= .ref r/\cU h r #[x,y]/\Sp h x a.1/\Sp h y a.2
theorem Sq.is(S:Sq h v a):(kP (kP (kI))).is h v a:=S.ex.imp λb=>iO λb=>iO λb=>vT (vT (yY Sp.is Sp.is))
theorem Sq.kx(S:Sq h v a)(e:Kx h h'):Sq h' v a:=⟨S.ex.imp λc=>iO λc=>iO λc=>vT (yY (λb=>cU.kx b e) (yY (λb=>b.kx e) λb=>b.kx e))⟩
theorem Sq.keeps(S:Sq h v a)(e:Ext h h'):Sq h' v a:=S.kx e.kx
theorem Az(y:Ev k h (aa f env) (λv h'=>Sp h' v a))(Y:Ev k h (aa c env) (λv h'=>Sp h' v b))
  (z:autoParam (aH [f,c] env=(aw,aa f env)::aH [c] env) rf)(B:autoParam (aH [c] env=(aw,aa c env)::aH [] env) rf):
  Ev k h (aa (.Tuple [f,c] M pos) env) (λv h'=>Sq h' v (a,b)):=by
 intro l N C g m D i n p E;refine zW (cF (y l _ C g m D i n p λF G H s I=>(cF (Y l _ G g m H i n (p.trans s) λJ t O u L=>?_) B)) z);refine eQ (yr ?_ (by simp only[eO];simp));have j:∀w,Ext t (t.push w):=λw b i x=>eP _ x;exact E _ _ _ ((s.trans u).trans (j _)) ⟨_,F,J,rfl,CW _ _,I.keeps (u.trans (j _)),L.keeps (j _)⟩
theorem acT{k:Nat}{z h:aK}{m Z:aA->Option aq}{L S:az}{q:Qd}{Y:Lay}{E:List Nat}(C:Cv z (cu L) m Z h)(r:m "edges"=W (.ref S))(lS:LO h S (cY Y E))(R:Rep h Y q.n q.on)(G:gY h Y q.n q.P)(hE:∀e∈E,e<q.n/\e%2=0)(hz:E.length<=1000)(hk:8<=k):
  Ev k h (aa (AX 5) (cu L)) (λv h'=>∃D o,v= .ref D/\h.get? D=X/\LO h' D (vals o)/\(∀x∈o,Sq h' x.1 x.2)/\o.map (·.2)=E.map λe=>(q.P e,q.P (U e))):=by
 have B:(cY Y E).size=E.length:=by simp[cY]
 refine(uG (k:=k) (n:=(cY Y E).size) (P:=λd v=>(cY Y E)[d]?=W v) (λI=>af) (λd J H=>∀f,(E.map λe=>(q.P e,q.P (U e)))[d]?=W f->Sq H J f)
  (AR (ah C.ns r) lS.list)
  (λd J M N e hf f j=>(hf f j).kx e) (B▸hz) (λC' d v a0 a3 s t e nC O r=>Bg rfl) (λC' d v a0 a3 aQ t j e nC O r=>?_)).imp (bT _) λv h' I F=>?_
 .have s:d<E.length:=by simp only[B] at aQ;exact aQ
  obtain rfl:v= .ref (Y.ad E[d]):=by
   have:(cY Y E)[d]?=W (.ref (Y.ad E[d])):=by simp[cY,s]
   replace t:=(this)▸t;cases t;rfl
  have g:=(C.bz.bs).keeps e;have u:=R.keeps e;obtain⟨l,l2⟩:=hE _ (jU s);have o1:=bK R.n4 l;have o2:U E[d]%2=0:=by have:=eF E[d];lia
  obtain⟨a,Q,pa⟩:=(G.keeps e).pt _ l l2;obtain⟨b,eb,A⟩:=(G.keeps e).pt _ o1 o2;refine Ev.imp (P:=λv h'=>Sq h' v (q.P E[d],q.P (U E[d]))) ?_ (bT _) λv h' I F f j=>?_
  .refine Az (rV (iY g pa (Q▸hQ g u l ?_)) (iZ g pa (Q▸hQ g u l ?_)) pa.bx pa.bX) (rV (iY g A (eb▸gc g u l ?_)) (iZ g A (eb▸gc g u l ?_)) A.bx A.bX)
   all_goals exact ah O r
  .have e1:(E.map λe=>(q.P e,q.P (U e)))[d]?=W (q.P E[d],q.P (U E[d])):=by simp[s]
   replace j:=(e1)▸j;cases j;exact F
 .obtain⟨D,V,rfl,nD,lD,c⟩:=F;obtain⟨o,rfl,v2,v3⟩:=Ji (Pd:=λv f=>Sq h' v f) (ys:=V) (ps:=E.map λe=>(q.P e,q.P (U e))) (by simp only[c.size,B,cO]) λd v f M N=>c.at M f N;exact⟨D,o,rfl,nD,lD,v2,v3⟩
theorem xf(u:Ev k h (aa l env) P1)(Y:∀a,Ext h a->Ev k a (aa r env) P2)(st:∀v a n,Ext a n->P1 v a->P1 v n)
  (w:∀v1 v2 A (Q:aq->aT->Prop) (s:aT),P1 v1 s.heap->P2 v2 s.heap->aU k A->Ext h s.heap->Q (.bool b) s->aF (MM) A (fP op v1 v2) Q aE s)(x:lO op r=aw:=by with_unfolding_all rfl):
  Ev k h (isTrue (.Compare l [op] [r] pos) env H) (λc z=>c=b):=by
 intro A Q y g dr B d f i C;refine ti (u A _ y g dr B d f i λv p D j E=>(Y p (i.trans j) A _ p g dr D d f Ext.rfl λv t F m G=>?_)) x;exact w _ _ A _ ⟨t,g,dr,F,d⟩ (st _ _ _ m E) G f ((i.trans j).trans m) (gH (C _ t _ (j.trans m) rfl))
theorem VC(f:Ev k h (isTrue c e (aa c e)) (λv z=>v=b)):Ev k h (mT [c] af λc r=>if r=af then do let a<-isTrue c e (aa c e);bj (mF a) else bj (mF r)) (λa z=>a=b):=by intro i x j g l m n r p s;exact jw (jA rfl (aB (f i _ j g l m n r p λv t y u w=>aV (qo (s _ t _ u w)))))
theorem adm(j:Ev k h (aa e env) (λv h'=>∃l,v= .ref l/\LO h' l items))(m:items.size<2^60)(n:∀a,isTrue e env a=(do let v<-a;fB e.pos;fI [v] (HM v)):=by intro _;rfl):
  Ev k h (isTrue e env (aa e env)) (λb z=>b=!items.isEmpty):=by
 intro p E t g c u f w x y;refine Xd (j p _ t g c u f w x λv i B C D=>?_) (n _);obtain⟨l,rfl,lo⟩:=D;exact Xj (s:=⟨i,g,c,B,f⟩) lo.list (PA m) (y _ i _ C rfl)
theorem aO.sp(b:aO k h (aa e env) x)(s:Sp h x a):Ev k h (aa e env) (λv h'=>Sp h' v a):=b.imp (bT _) λv h' e c=>c▸s.keeps e
theorem Sq.fst(S:Sq h v a)(b:aO k h (aa e env) v)
  (hs:∀o t,yh (.Constant (.int 0) c p) aw o (.int 0 t)=vu [o, .int 0 t] (sd o (.int 0 t)):=by intro _ _;with_unfolding_all rfl)
  (d:∀o r,me e o r=bj ():=by intro _ _;with_unfolding_all rfl):Ev k h (aa (.Subscript e (.Constant (.int 0) c p) pos) env) (λv h'=>Sp h' v a.1):=by
 obtain⟨r,x,y,rfl,T,s1,s2⟩:=S.ex;exact aO.sp (uI (i:=0) b (ct) T rfl (by decide) rfl hs d) s1
theorem Sq.snd(S:Sq h v a)(b:aO k h (aa e env) v)
  (hs:∀o t,yh (.Constant (.int 1) c p) aw o (.int 1 t)=vu [o, .int 1 t] (sd o (.int 1 t)):=by intro _ _;with_unfolding_all rfl)
  (d:∀o r,me e o r=bj ():=by intro _ _;with_unfolding_all rfl):Ev k h (aa (.Subscript e (.Constant (.int 1) c p) pos) env) (λv h'=>Sp h' v a.2):=by
 obtain⟨r,x,y,rfl,T,s1,s2⟩:=S.ex;exact aO.sp (uI (i:=1) b (ct) T rfl (by decide) rfl hs d) s2
noncomputable def AW(i:Nat):Expr:=jv (nj (mV.getD 6 (.Pass ⟨0,0,0,0⟩)) 0) i
theorem adb(C:Cv z (cu L) m P h)(F:P "ends"=W (.ref G))(H:LO h G (vals d))(I:∀x∈d,Sq h x.1 x.2)(R:(d.map (·.2)).Nodup)(J:d.length<=70)(hk:8<=k):
  Ev k h (isTrue (AW 0) (cu L) (aa (AW 0) (cu L))) (λb y=>b=aw):=by
 have M:∀(j:Nat) (c:aq),(vals d)[j]?=W c->∃x,d[j]?=W x/\x.1=c:=λj c h=>by unfold vals at h;simp only[Ke,kF] at h;obtain⟨x,l,g⟩:=kK.mp h;exact⟨x,l,g⟩
 have B:(vals d).size=d.length:=by simp[vals]
 refine xg (P1:=λc=>∃p,c= .int d.length p) (P2:=λc=>∃p,c= .int d.length p) ?_ ?_ λv1 v2 A Q s l g y y S=>?_
 .refine(Nd (kP (kP (kI))) (L:=d.map (·.2)) ?_ ?_ ?_ (by show 2<=8;decide) (by show 0+1+1+4<=k;exact wu hk) (by simp only[B,cO]) (by simp only[cO];exact J) H.list (λc o=>?_) (λj c w l g=>?_)).imp (bT _) λc T y o=>?_
  .exact eY (C.bz.bs) (by nofun) (by boot_by_name) (by decide)
  .exact eY (C.bz.bs) (by nofun) (by boot_by_name) (by decide)
  .exact hZ C F
  .obtain⟨j,V,t⟩:=Ys.mp o;obtain⟨x,l,g⟩:=M j c (by simp only[yZ V,t]);obtain⟨Y,_,_,t,_⟩:=(I x (ug l)).ex;exact⟨Y,g▸t⟩
  .obtain⟨x,N,Z⟩:=M j c l;replace g:=(N)▸(kF)▸g;cases g;exact Z▸(I x (ug N)).is
  .obtain⟨D,⟨p,rfl⟩,n,O⟩:=o;have:D.length=d.length:=by exact(cO (f:=(·.2)) (as:=d))▸wq (qD n λw E=>(O w).mp E) (qD R λw E=>(O w).mpr E)
   exact⟨p,by rw[this]⟩
 .refine(qi (v:= .ref G) ?_ ?_ λT t=>rQ (H.keeps t).list ((dz 0x8000000000000000df85024a0881185f0a408 0x12042008421).2 J B)).imp (bT _) λc y y o=>by replace o:=(B)▸o;exact o
  .exact eY (C.bz.bs) (by nofun) (by boot_by_name) (by decide)
  .exact hZ C F
 .obtain⟨p,rfl⟩:=l;obtain⟨u2,rfl⟩:=g;refine alJ ?_;rw[bne_self_eq_false];exact S
theorem ade(C:Cv z (cu L) m cm h)(R:cm "ends"=W (.ref S))(T:LO h S (vals f))(B:∀x∈f,Sq h x.1 x.2)(a0:∀a b,(a,b)∈f.map (·.2)->(b,a)∈f.map (·.2))(hz:f.length<=70)(hk:8<=k):
  Ev k h (isTrue (AW 1) (cu L) (aa (AW 1) (cu L))) (λb w=>b=aw):=by
 have V:(vals f).size=f.length:=by simp[vals]
 refine adm (items:=#[]) ((uG (k:=k) (n:=(vals f).size) (P:=λj t=>(vals f)[j]?=W t) (λw=>aw) (λj l H=>True) (AR (hZ C R) T.list)
  (λj l G M p hf=>trivial) (V▸PQ hz) (λC' j t a3 a4 aQ I p nC Y Z=>VC ?_) (λC' j t a3 a4 aQ I N p nC Y Z=>(by cases N))).imp (bT _) λt h' w O=>?_) (by simp)
 .have J:j<f.length:=by simp only[V] at aQ;exact aQ
  obtain rfl:t=f[j].1:=by
   have:(vals f)[j]?=W f[j].1:=by simp[vals,J]
   replace I:=(this)▸I;cases I;rfl
  have a5:=T.keeps p;have a6:=a0 _ _ (dc.mpr ⟨f[j],jU J,rfl⟩);refine xf (P1:=λt h'=>Sq h' t (f[j].2.2,f[j].2.1)) (P2:=λt w=>t= .ref S) ?_ (λG u=>?_) (λt G M p O=>O.keeps p) λv1 v2 A' Q' s G M r u q=>?_
  .refine Az (((B _ (jU J)).keeps p).snd ?_) (((B _ (jU J)).keeps p).fst ?_)
   all_goals exact ah Y Z
  .exact(kO ((C.jZ (n:="ends") (by rfl) R).keeps p)).keeps u
  .subst M;obtain⟨N,g,d,tk,o⟩:=s;have a7:∀l,l∈vals f->∃x∈f,x.1=l:=λl E=>dc.mp (by simpa [vals] using E);refine Mp (λl=>decide (∃x∈f,x.1=l/\x.2=(f[j].2.2,f[j].2.1))) (a5.keeps u).list (λl E=>?_) ?_
   .obtain⟨x,hx,rfl⟩:=a7 l E;have:=(kP (kP (kI))).eq (A:=A'.in1) (s:=⟨N,g,d,tk,o⟩) ((r.le (by show 0+1+1+1<=k;exact wu hk):aU ((kP (kP (kI))).rk+1) A').in1) (((B x hx).keeps (p.trans u)).is) G.is;have Q:decide (x.2=(f[j].2.2,f[j].2.1))=decide (∃l∈f,l.1=x.1/\l.2=(f[j].2.2,f[j].2.1)):=by rw[ze,decide_eq_true_iff,decide_eq_true_iff];exact⟨λF=>⟨x,hx,rfl,F⟩,λ⟨l,E,e3,e4⟩=>(e4▸(kP (kP (kI))).un (e3▸(((B x hx).keeps (p.trans u)).is)) ((B l E).keeps (p.trans u)).is)⟩
    rwa [Q] at this
   .have Q:(vals f).any (λl=>decide (∃x∈f,x.1=l/\x.2=(f[j].2.2,f[j].2.1)))=af:=by obtain⟨x,hx,e3⟩:=dc.mp a6;rw[Array.any_eq_true'];exact⟨x.1,by unfold vals;exact List.mem_toArray.mpr (dc.mpr ⟨x,hx,rfl⟩),decide_eq_true ⟨x,hx,rfl,e3⟩⟩
    rw[Q];exact q
 .obtain⟨D,ys,rfl,nD,lD,F⟩:=O;have:ys=#[]:=by
   dsimp only[jo] at F;have u:(fD (vals f).size).filter (λw=>aw)=[]:=by simp
   rw[u] at F;have:=Hn F;exact Array.eq_empty_of_size_eq_zero (by simpa using this.symm)
  subst this;exact⟨D,rfl,lD⟩
theorem Part.oA{n:Nat}{on:Nat->Nat}{P:Nat->Pt}{al:Nat->Prop}{V:List Pt}{E:List Nat}{e:Nat}{l:List Pt}(A:Part n on P al V)(a:∀e∈E,al e)(j:∀e∈E,on e∈E)(f:e∈E)(hl:∀b,b∈l↔∃e'∈E,P e'=P e/\b=P (U e')):bY.oA (P e) (P (U e)) l=P (U (on e)):=by
 obtain⟨k,po⟩:=(A.rg (P e)).cl e ⟨(a e f),rfl⟩;by_cases g:on e=e
 .refine OH (.inl ⟨by rw[g],λb h=>?_⟩);obtain⟨e',h1,h2,rfl⟩:=(hl b).mp h;by_cases d:e'=e
  .rw[d]
  .exact absurd g ((A.rg (P e)).nx e e' ⟨(a e f),rfl⟩ ⟨a e' h1,h2⟩ d (by simp only[g];exact d)).1
 .refine OH (.inr ⟨λm=>?_,(hl _).mpr ⟨on e,j e f,po,rfl⟩,λb h=>?_⟩)
  .exact g (A.key k (a e f) (by rw[po,m]))
  .obtain⟨e',h1,h2,rfl⟩:=(hl b).mp h;by_cases d:e'=e
   .exact .inl (by rw[d])
   .by_cases i:e'=on e
    .exact .inr (.inl ((i)▸rfl))
    .exact .inr (.inr ((A.rg (P e)).nx e e' ⟨(a e f),rfl⟩ ⟨a e' h1,h2⟩ d i).2)
theorem ai2{c d:Type}{g:c->aq->Prop}{Pd:aq->d->Prop}(f:c->d)(hf:∀a v,g a v->Pd v (f a)){l:List c}{ys:List aq}(p:rH g l ys):∃V:List (aq×d),V.map (·.1)=ys/\(∀x∈V,Pd x.1 x.2)/\V.map (·.2)=l.map f:=by
 induction p with
 |nil=>exact⟨[],rfl,(λx h=>by cases h),rfl⟩
 |@cons a i _ _ h _ j=>
  obtain⟨V,h1,h2,k⟩:=j;refine⟨(i,f a)::V,by simp[h1],λx e=>?_,by simp[k]⟩;rcases cP.mp e with rfl|e
  .exact hf _ _ h
  .exact h2 x e
theorem acd(q:Q (.bool aw) s):aF (MM) A (fP .IsNot (.ref x) (.ref x)) Q aE s:=PySem.wpAny_isNot_ref_self q
noncomputable def fBody:List cQ:=ou (mV.getD 7 (.Pass ⟨0,0,0,0⟩))
noncomputable def rW(i:Nat):Expr:=nj (fBody.getD i (.Pass ⟨0,0,0,0⟩)) 0
noncomputable def adt:Expr:=jv (jv (jv (rW 1) 1) 1) 3
noncomputable def mq(a:List (aq×(Pt×Pt)))(i:Nat):Pt×Pt:=(a.map (·.2)).getD i ((0,0),(0,0))
theorem acN{k:Nat}{z h:aK}{m E:aA->Option aq}{L:az}{M:az}{f:List (aq×(Pt×Pt))}{pv:aq}{B:Pt×Pt}(C:Cv z (cu L) m E h)(T:E "ends"=W (.ref M))(N:E "pair"=W pv)(Y:LO h M (vals f))(O:∀x∈f,Sq h x.1 x.2)(Z:Sq h pv B)(hz:f.length<=70)(hk:8<=k):
  Ev k h (aa adt (cu L)) (λv h'=>∃D V,v= .ref D/\LO h' D (vals V)/\gA h' V/\∀b,b∈V.map (·.2)↔∃x,x∈f.map (·.2)/\x.1=B.1/\b=x.2):=by
 have A:(vals f).size=f.length:=by simp[vals]
 refine(uG (k:=k) (n:=(vals f).size) (P:=λd v=>(vals f)[d]?=W v) (λd=>decide ((mq f d).1=B.1)) (λd Q H=>Sp H Q (mq f d).2) (AR (hZ C T) Y.list)
  (λd Q l u j hf=>hf.kx j) (A▸PQ hz) (λC' d v a0 a3 aQ t j nC F G=>VC ?_) (λC' d v a0 a3 aQ t N j nC F G=>?_)).imp (bT _) λv h' w I=>?_
 .have g:d<f.length:=by simp only[A] at aQ;exact aQ
  obtain rfl:v=f[d].1:=by
   have:(vals f)[d]?=W f[d].1:=by simp[vals,g]
   replace t:=(this)▸t;cases t;rfl
  have sq:=(O _ (jU g)).keeps j;have o:mq f d=f[d].2:=by unfold mq;simp only[wi,kF,nR g];rfl
  refine(o)▸(xf (P1:=λv h'=>Sp h' v f[d].2.1) (P2:=λv h'=>Sp h' v B.1) (sq.fst ?_) (λl J=>Sq.fst (Z.keeps (j.trans J)) ?_) (λv l u j I=>I.keeps j) λR S A' Q' s l u r J q=>Ms (kI) (r.le (by show 0+1<=k;exact wu hk)) l.is u.is q)
  .exact ah F G
  .exact(kO ((C.jZ (n:="pair") (by rfl) N).keeps j)).keeps J
 .have g:d<f.length:=by simp only[A] at aQ;exact aQ
  obtain rfl:v=f[d].1:=by
   have:(vals f)[d]?=W f[d].1:=by simp[vals,g]
   replace t:=(this)▸t;cases t;rfl
  have o:mq f d=f[d].2:=by unfold mq;simp only[wi,kF,nR g];rfl
  exact o▸((O _ (jU g)).keeps j).snd (ah F G)
 .obtain⟨D,ys,rfl,nD,lD,c⟩:=I;unfold jo at c;obtain⟨V,R,S,v3⟩:=ai2 (Pd:=λv p=>Sp h' v p) (λd=>(mq f d).2) (λa v h=>h) c;refine⟨D,V,rfl,?_,S,λb=>?_⟩
  .have:vals V=ys:=by unfold vals;rw[R]
   simp only[this];exact lD
  .rw[v3,dc];constructor
   .rintro⟨d,g,rfl⟩;obtain⟨l,u⟩:=Ki.mp g;have g:d<f.length:=by have:=jV.mp l;rwa [A] at this
    have o:mq f d=f[d].2:=by unfold mq;rw[wi,kF,nR g];rfl
    rw[o] at u⊢;exact⟨f[d].2,dc.mpr ⟨f[d],jU g,rfl⟩,of_decide_eq_true u,rfl⟩
   .rintro⟨x,hx,l,rfl⟩;obtain⟨d,g,j⟩:=uf.mp hx;have a4:d<f.length:=by rwa [cO] at g
    have o:mq f d=x:=by unfold mq;simp only[wi,nR g,j];rfl
    exact⟨d,Ki.mpr ⟨jV.mpr (by simp only[A];exact a4),by rw[o];exact decide_eq_true l⟩,by rw[o]⟩
theorem xG(l:LO h a vs)(n:h.Ns L m):a≠L:=by rintro rfl;obtain⟨b,y⟩:=l;obtain⟨c,d,e,h1,h2,_⟩:=n;replace h1:=(y)▸h1;cases h1;cases h2
structure Lf(z h:aK)(q:Qd)(Y:Lay)(E:List Nat)(b S:az)(a:List (aq×(Pt×Pt))):Prop where
 R:Rz z h Y q.n q.on
 T:gY h Y q.n q.P
 lE:LO h b (vals a)
 lS:LO h S (cY Y E)
 sE:∀x∈a,Sq h x.1 x.2
structure Lp(q:Qd)(E:List Nat)(a:List (aq×(Pt×Pt)))(al:Nat->Prop)(V:List Pt):Prop where
 Q:QE q.n q.on
 A:Part q.n q.on q.P al V
 hE:∀e∈E,al e
 cl:∀e∈E,q.on e∈E
 hW:a.map (·.2)=E.map λe=>(q.P e,q.P (U e))
 hz:a.length<=70
theorem Lf.keeps(a:Lf z h q Y E b S c)(e:Ext h h'):Lf z h' q Y E b S c:=⟨a.R.keeps e,a.T.keeps e,a.lE.keeps e,a.lS.keeps e,λx d=>(a.sE x d).keeps e⟩
theorem Lf.set(a:Lf z h q Y E c S d)(N:h.Ns L m)(e:m "_context"=X)(b:dE L h h'):Lf z h' q Y E c S d:=
 ⟨a.R.set N e b,a.T.set N b,a.lE.but b (xG a.lE N),a.lS.but b (xG a.lS N),λx f=>(a.sE x f).kx (qF b N)⟩
theorem acW{M:Pt->Prop}(B:Bs h)(H:aO k h (aa (.Name "_law_next" I) env) (.ref 577))(J:aO k h (aa u env) x)(L:aO k h (aa f env) y)(N:Sp h x p)(O:Sp h y a)
  (P:Ev k h (aa c env) (λv h'=>∃D V,v= .ref D/\LO h' D (vals V)/\gA h' V/\∀b,b∈V.map (·.2)↔M b))(R:∀l:List Pt,(∀b,b∈l↔M b)->oA p a l=t)(hk:9<=k)
  (z:autoParam (aH [u,f,c] env=(aw,aa u env)::aH [f,c] env) rf)(S:autoParam (aH [f,c] env=(aw,aa f env)::aH [c] env) rf)(T:autoParam (aH [c] env=(aw,aa c env)::aH [] env) rf)
  (Y:autoParam ((bG pos (aH [f,c] env)).any (·.1)=aw) rf):Ev k h (aa (.Call (.Name "_law_next" I) [u,f,c] [] pos) env) (λv h'=>Sp h' v t):=by
 intro C Q a8 g E tk F j i Z;refine mE (Ev.at H j i λa9 b0 c=>(mQ (B.keeps (i.trans c)).k (by nofun) ?_ z Y));refine cF (Ev.at J j (i.trans c) λb1 b2 m=>(cF (Ev.at L j ((i.trans c).trans m) λa0 a3 w=>?_) S)) z;refine cF (P C _ a0 g E a3 F j (((i.trans c).trans m).trans w) λv a4 a5 G n=>?_) T;obtain⟨D,V,rfl,lD,sV,mm⟩:=n;have s:=(((i.trans c).trans m).trans w).trans G;refine eQ ⟨(B.keeps s).k,dq (aeP (B.keeps s) (N.keeps s) (O.keeps s) lD.list sV C _ a4 g E a5 F (j.le hk) Ext.rfl λv a6 a7 e7 n=>?_)⟩;simp only[R _ mm] at n;exact Z v a6 a7 ((c.trans m).trans ((w.trans G).trans e7)) n
theorem Ni(m:Ev k h (isTrue a env (aa a env)) (λv z=>v=aw))(Y:Ev k h (isTrue b env (aa b env)) (λv z=>v=aw))(n:Ev k h (isTrue c env (aa c env)) (λv z=>v=aw)):
  Ev k h (isTrue (.BoolOp .Or [a,b,c] pos) env w) (λv z=>v=aw):=by
 intro x y B g C D E f i p;refine AO (Ev.at m f i λF G j=>(AO (Ev.at Y f (i.trans j) λH I l=>?_)));exact AO (Ev.at n f ((i.trans j).trans l) λs t u=>(isTrue_or_nil (p _ s t ((j.trans l).trans u) rfl)))
theorem adf(j:Lf z1 h q Y E EE S a0)(G:Lp q E a0 al V)(C:Cv z (cu L) m Z h)(hl:m "left"=W (.ref (Y.ad (q.on e))))(o:Z "pair"=W pv)(sp:Sq h pv (q.P e,q.P (U e)))(hc:Z "ends"=W (.ref EE))(he:e∈E)(hk:9<=k):
  Ev k h (isTrue (rW 1) (cu L) (aa (rW 1) (cu L))) (λb w=>b=aw):=by
 have c:=C.bz.bs;obtain⟨D,H⟩:=(G.A.rg (q.P e)).cl e ⟨(G.hE e he),rfl⟩;have H:=H;have f:=G.A.lt _ D;have p:=j.R.toRep;obtain⟨a,ea,pa⟩:=j.T.pt _ f (G.A.ev _ D);obtain⟨b,eb,t⟩:=j.T.pt _ (bK G.Q.n4 f) (G.A.ev _ (G.A.op _ D));refine xf (P1:=λu I=>Sq I u (q.P (q.on e),q.P (U (q.on e)))) (P2:=λu I=>Sq I u (q.P e,q.P (U (q.on e)))) ?_ (λd n=>?_) (λu d h2 e hv=>hv.keeps e) λv1 v2 A' Q' s d h2 r n qq=>?_
 .refine Az (rV (iY c pa (ea▸hQ c p f ?_)) (iZ c pa (ea▸hQ c p f ?_)) pa.bx pa.bX) (rV (iY c t (eb▸gc c p f ?_)) (iZ c t (eb▸gc c p f ?_)) t.bx t.bX)
  all_goals exact ah C.ns hl
 .have J:=sp.keeps n;have g:=C.keeps n;obtain⟨r,x,y,rfl,T,sx,sy⟩:=J.ex;refine Az (Sq.fst J ?_) (acW g.bz.bs ?_ ?_ ?_ sx sy (acN g hc o (j.lE.keeps n) (λx M=>(j.sE x M).keeps n) J G.hz (iy hk)) (λl hl=>?_) hk)
  .exact hZ g o
  .exact cB g.bz.bs (by nofun)
  .exact uI (i:=0) (hZ g o) (ct) T rfl (by decide) rfl
  .exact uI (i:=1) (hZ g o) (ct) T rfl (by decide) rfl
  .refine G.A.oA G.hE G.cl he λb=>(hl b).trans ?_;simp only[G.hW];constructor
   .rintro⟨x,M,d,rfl⟩;obtain⟨N,O,rfl⟩:=dc.mp M;exact⟨N,O,d,rfl⟩
   .rintro⟨N,O,d,rfl⟩;exact⟨_,dc.mpr ⟨N,O,rfl⟩,d,rfl⟩
 .refine Ae (kP (kI)) (r.le (by show 0+1+1<=k;exact wu hk)) d.is h2.is ?_;rw[H,decide_eq_false (λh=>h rfl)];exact qq
theorem Aw(b:aO k h (aa l env) (.ref x))(Y:aO k h (aa r env) (.ref x))(d:lO .IsNot r=aw:=by with_unfolding_all rfl):
  Ev k h (isTrue (.Compare l [.IsNot] [r] pos) env i) (λc z=>c=aw):=
 xg (P1:=λa=>a= .ref x) (P2:=λa=>a= .ref x) b Y (λn o p t u e f z z g=>by subst e f;exact acd g) d
theorem adg(p:Lf z1 h q Y E EE S a0)(G:Lp q E a0 al V)(C:Cv z (cu L) m cm h)(hl:m "turned"=W (.ref (Y.ad (U e))))(H:m "edge"=W (.ref (Y.ad e)))(I:cm "pair"=W pv)(J:Sq h pv (q.P e,q.P (U e)))(he:e∈E)(hk:9<=k):
  Ev k h (isTrue (rW 3) (cu L) (aa (rW 3) (cu L))) (λb y=>b=aw):=by
 have c:=C.bz.bs;have t:=G.hE e he;have M:=G.A.lt _ t;have j:=bK G.Q.n4 M;have l:=p.R.toRep;have N:=cg e;obtain⟨a,O,pa⟩:=p.T.pt _ j (G.A.ev _ (G.A.op _ t));obtain⟨b,eb,o⟩:=p.T.pt _ M (G.A.ev _ t);have Z:Y.st (U (U e))= .ref b:=by rw[N];exact eb
 refine Ni ?_ ?_ ?_
 .refine xf (P1:=λd f=>Sp f d (q.P (U e))) (P2:=λd f=>Sp f d (q.P (U e))) ?_ (λg i=>Sq.snd (J.keeps i) ?_) (λd g n e u=>u.keeps e) λv1 v2 A' Q' s g n w i D=>?_
  .refine rV (iY c pa (O▸hQ c l j ?_)) (iZ c pa (O▸hQ c l j ?_)) pa.bx pa.bX
   all_goals exact ah C.ns hl
  .exact hZ (C.keeps i) I
  .refine Ae (kI) (w.le (by show 0+1<=k;exact Qf hk)) g.is n.is ?_;rw[decide_eq_false (λh=>h rfl)];exact D
 .refine xf (P1:=λd f=>Sp f d (q.P e)) (P2:=λd f=>Sp f d (q.P e)) ?_ (λg i=>Sq.fst (J.keeps i) ?_) (λd g n e u=>u.keeps e) λv1 v2 A' Q' s g n w i D=>?_
  .refine rV (iY c o (Z▸gc c l j ?_)) (iZ c o (Z▸gc c l j ?_)) o.bx o.bX
   all_goals exact ah C.ns hl
  .exact hZ (C.keeps i) I
  .refine Ae (kI) (w.le (by show 0+1<=k;exact Qf hk)) g.is n.is ?_;rw[decide_eq_false (λh=>h rfl)];exact D
 .have a3:aO k h (aa (.Name "edge" ⟨0,0,0,0⟩) (cu L)) (.ref (Y.ad e)):=ah C.ns H;refine Aw (x:=Y.ad e) (N▸fG c l j ?_) ?_
  .exact ah C.ns hl
  .exact ah C.ns H
theorem adh(j:Lf z1 h q Y E p S l)(G:Lp q E l al V)(C:Cv z (cu L) m r h)(hl:m "left"=W (.ref (Y.ad (q.on e))))(g:m "turned"=W (.ref (Y.ad (U e))))(f:m "edge"=W (.ref (Y.ad e)))(n:e∈E)(hk:9<=k):
  Ev k h (isTrue (rW 4) (cu L) (aa (rW 4) (cu L))) (λb y=>b=aw):=by
 have c:=C.bz.bs;have o:=G.hE e n;have a:=G.A.lt _ o;have i:=bK G.Q.n4 a;have d:=j.R.toRep;refine Ni ?_ ?_ ?_
 .refine Aw (x:=Y.ad e) (G.Q.xW a▸oh c d (G.Q.lt _ a) ?_) ?_
  .exact ah C.ns hl
  .exact ah C.ns f
 .refine Aw (x:=Y.ad (aZ q.on (U e))) (G.Q.xF a▸Af c d a ?_) (oh c d i ?_)
  .exact ah C.ns f
  .exact ah C.ns g
 .refine Aw (x:=Y.ad (q.on (U e))) (Ec c d a ?_) (iX c d i ?_)
  .exact ah C.ns f
  .exact ah C.ns g
theorem aeT(M:Lf z1 h q Y E N S O)(G:Lp q E O al V)(C:Cv z (cu L) m D h)(p:m "edge"=W (.ref (Y.ad e)))(T:D "pair"=W pv)(sp:Sq h pv (q.P e,q.P (U e)))(hc:D "ends"=W (.ref N))(s:e∈E)(r:aU 20 A)
  (qq:∀h' a3 m',vX L h h'->Cv z (cu L) m' D h'->Lf z1 h' q Y E N S O->Q .next ⟨h',g,d,a3,o⟩):aF (MM) A (bg fBody (cu L)) Q aE ⟨h,g,d,tk,o⟩:=by
 have ae:=G.hE e s;have Z:=G.A.lt _ ae;refine lJ (x:="left") (k:=20) C.ns (P:=λn w=>n= .ref (Y.ad (q.on e))) (iX C.bz.bs M.R.toRep Z ?_) r λn a7 a8 a9 j H t n2=>?_
 .exact ah C.ns p
 subst H;have C2:=(C.keeps j).qR t n2 (C.nk);have F2:=(M.keeps j).set (C.keeps j).ns C.nk t;have a0:=(sp.keeps j).kx (qF t (C.keeps j).ns);refine oe (k:=20) (c:=aw) (adf F2 G C2 rfl T a0 hc s (by decide)) r λb0 b1 u=>?_;simp only[ly,if_false];refine cA ?_;have a:=C2.keeps u;have F3:=F2.keeps u;refine lJ (x:="turned") (k:=20) a.ns (P:=λn w=>n= .ref (Y.ad (U e))) (fG a.bz.bs F3.R.toRep Z ?_) r λn b2 b3 b4 l H B n5=>?_
 .exact ah a.ns (p)
 subst H;have C5:=(a.keeps l).qR B n5 (a.nk);have F5:=(F3.keeps l).set (a.keeps l).ns a.nk B;have a4:=((a0.keeps u).keeps l).kx (qF B (a.keeps l).ns);refine oe (k:=20) (c:=aw) (adg F5 G C5 rfl (p) T a4 s (by decide)) r λb5 b6 I=>?_;simp only[ly,if_false];refine cA ?_;have C6:=C5.keeps I;have F6:=F5.keeps I;refine oe (k:=20) (c:=aw) (adh F6 G C6 (rfl) rfl (p) s (by decide)) r λa5 a6 J=>?_;simp only[ly,if_false];refine cA (cA (qq a5 a6 _ (λf i hb y=>?_) (C6.keeps J) (F6.keeps J)));exact J f i (I f i (B.extBut f i hb (l f i (u f i (t.extBut f i hb (j f i y))))))
def Kq(h h':aK):Prop:=∀c a,(∀d,a.data≠ .cell d)->((∀e f,a.data≠ .dict e f)\/gz a)->h.get? c=W a->h'.get? c=W a
theorem LO.kq(l:LO h a vs)(K:Kq h h'):LO h' a vs:=let⟨d,y⟩:=l;⟨d,K _ _ (λc b=>by cases b) (.inl λc c b=>by cases b) y⟩
theorem JU(l:cU h a vs)(K:Kq h h'):cU h' a vs:=let⟨g,y,c,n,d⟩:=l;⟨g,K _ _ (λf b=>by rw[d] at b;cases b) (.inl λf f b=>by rw[d] at b;cases b) y,c,n,d⟩
theorem Sp.kq(S:Sp h v a)(K:Kq h h'):Sp h' v a:={S with is:=let⟨b,x,y,q,t,i,j⟩:=S.is;⟨b,x,y,q,JU t K,i,j⟩}
theorem Sq.kq(S:Sq h v a)(K:Kq h h'):Sq h' v a:=⟨let⟨b,x,y,q,t,s1,s2⟩:=S.ex;⟨b,x,y,q,JU t K,s1.kq K,s2.kq K⟩⟩
theorem bN.kq(p:bN h a x y)(K:Kq h h'):bN h' a x y:={p with ex:=let⟨d,v,n,y⟩:=p.ex;⟨d,v,n,K _ _ (λc b=>by cases b) (.inl λc c b=>by cases b) y⟩}
theorem Lf.kq(d:Lf z h q Y E l S m)(K:Kq h h'):Lf z h' q Y E l S m:=
 ⟨⟨{d.R.toRep with ob:=λf g=>K _ _ (λk j=>by cases j) (.inl λk k j=>by cases j) (d.R.ob f g),di:=λf g=>K _ _ (λk j=>by cases j) (.inr xK) (d.R.di f g)},d.R.fl⟩,
  ⟨λf g n=>let⟨o,b,c⟩:=d.T.pt f g n;⟨o,b,c.kq K⟩⟩,d.lE.kq K,d.lS.kq K,λx p=>(d.sE x p).kq K⟩
theorem Oy(N:h.Ns L m)(e:m "_context"=X)(ic:h.IsCell c v)(K:∀b o,b≠L->b≠c->h.get? b=W o->h'.get? b=W o):Kq h h':=λb f g a d=>by
 refine K b f ?_ ?_ d
 .rintro rfl;rcases a with a|a
  .obtain⟨o,i,j,e1,e2,_⟩:=N;rw[d] at e1;cases e1;exact a _ _ e2
  .exact jg N e d a
 .rintro rfl;obtain⟨o,e1,e2⟩:=ic;rw[d] at e1;cases e1;exact g _ e2
theorem Cv.wr{z h h':aK}{m f:aA->Option aq}{env:gL}{d:List az}(C:Cv z env m f h)(K:∀b o,b∉d->h.get? b=W o->h'.get? b=W o)(i:∀b∈d,z.get? b=X)(j:env.locals∉d)(k:∀n c,env.cells.lookup n=W c->c∉d):Cv z env m f h':=
 ⟨⟨C.bz.b,λb o a=>K b o (λl=>by rw[i b l] at a;cases a) (C.bz.e b o a)⟩,C.ns.at' λo a=>K _ o j a,C.nk,λn c g=>let⟨o,a,e⟩:=C.cell n c g;⟨o,K c o (k n c g) a,e⟩,C.apart,C.above,C.zL⟩
theorem ab9(h:aF (MM) A (yf (bG pos (aH (e::rest) env))) (λvs a=>aF (MM) A (eU (.type T) (first++vs)) Q aE a) aE s)
  (b:autoParam (aH (e::rest) env=(aw,aa e env)::aH rest env) rf)(c:autoParam ((bG pos (aH rest env)).any (·.1)=aw) rf):aF (MM) A (dH pos (.type T) first (bG pos (aH (e::rest) env)) (bZ pos (cf [] env))) Q aE s:=by
 rw[b] at h⊢;exact PySem.callWith_type (by show(aw||(bG pos (aH rest env)).any (·.1))=aw;rw[c];rfl) (CK h)
noncomputable def Cu(n:Nat)(S a:az):List az:=[n+4,n+2,n+3,n,n+1,S,a]
noncomputable def yX(n:Nat):List az:=[n+4,n+3,n,n+1]
def Lv(n:Nat)(S c:az)(xs ys:Array aq)(i:Nat)(h:aK):Prop:=
 aaR h (n+4) (n+2) (n+3) .none/\Dy h (n+2) (.ref n) (.ref (n+1))/\(∃d e,Dy h (n+3) d e)/\h.IsListIter n S i/\h.IsListIter (n+1) c i/\h.IsList S xs/\h.IsList c ys
def abr(n:Nat)(S d:az)(xs ys:Array aq)(i:Nat)(c:az)(h:aK):Prop:=
 aaR h (n+4) (n+2) (n+3) (fu c)/\Dy h (n+2) (.ref n) (.ref (n+1))/\(∃e f,Dy h (n+3) e f)/\h.IsListIter n S (i+1)/\h.IsListIter (n+1) d (i+1)/\h.IsList S xs/\h.IsList d ys/\c≠n+4/\c≠n+3/\c≠n/\c≠n+1
def ZPt(xs ys:Array aq)(i:Nat)(vs:Array aq):Prop:=∃x a,xs[i]?=W x/\ys[i]?=W a/\vs=#[x,a]
theorem alo(b:S<n)(c:a<n):PySem.ZipApart (n+4) (n+2) (n+3) n (n+1) S a:=by constructor<;>(show@Ne Nat _ _;lia)
theorem alp(b:A.handled=X)(c:S<n)(d:a<n)(hk:eE xs.size ys.size=k):WalksT pw wS A (n+4) (Cu n S a) (yX n) k (ZPt xs ys) (Lv n S a xs ys) (abr n S a xs ys):=
 hk▸alU (prog:=pw) b _ _ _ _ _ _ _ (alo c d) xs ys
theorem Cy(h:b∈yX n):n<=b:=by
 unfold yX at h;simp only[cP,kH,or_false] at h;rcases h with rfl|rfl|rfl|rfl
 .exact fF _ _
 .exact fF _ _
 .exact bT _
 .exact fF _ _
theorem Yn(h:b∈Cu n S e)(f:c<n)(g:S≠c)(i:e≠c):b≠c:=by
 have a:∀d:Nat,n+d≠c:=λd=>rG (fj f (fF _ _));unfold Cu at h;simp only[cP,kH,or_false] at h;rcases h with rfl|rfl|rfl|rfl|rfl|rfl|rfl
 .exact a 4
 .exact a 2
 .exact a 3
 .exact a 0
 .exact a 1
 .exact g
 .exact i
theorem OI(l:LO h a vs)(ic:h.IsCell c v):a≠c:=by rintro rfl;obtain⟨d,y⟩:=l;obtain⟨f,b,e⟩:=ic;replace b:=(y)▸b;cases b;cases e
def Kz(L cp:az)(d H:aK):Prop:=∀a c,a≠L->a≠cp->d.get? a=W c->H.get? a=W c
inductive Jz(z hb:aK)(L cp S c:az)(xs ys:Array aq)(N:Nat)(g:Array dQ)(d:dT)(o:df)(n:Nat)(h:aT):Prop
 |mk (b:Nat) (a:aK) (j:Nat) (k f:aA->Option aq) (e:h=⟨a,g,d,j,o⟩) (st:Lv hb.objs.size S c xs ys b a) (C:Cv z (cu L) k f a) (l:f "ends"=W (.ref c)) (m:Kz L cp hb a) (p:b<=N) (q:n=N+1-b)
structure Zb(z hb:aK)(L cp S a:az):Prop where
 xa:(cu L).cells.lookup ("pair":aA)=W cp
 ez:Ext z hb
 lL:@wd Nat instLTNat L hb.objs.size
 lc:∀n c,(cu L).cells.lookup n=W c->@wd Nat instLTNat c hb.objs.size
 lS:@wd Nat instLTNat S hb.objs.size
 lE:@wd Nat instLTNat a hb.objs.size
 Fi:∀b,b∈Cu hb.objs.size S a->b≠L/\b≠cp
theorem Zb.of(C:Cv z (cu L) m t h)(j:LO h S vs)(k:LO h r u):∃cp,Zb z h L cp S r:=by
 obtain⟨cp,g⟩:∃d,(cu L).cells.lookup ("pair":aA)=W d:=⟨_,rfl⟩;have i:∀{l o},h.get? l=W o->l<h.objs.size:=λa=>dA a;have p:@wd Nat instLTNat L h.objs.size:=by obtain⟨o,_,_,a,_⟩:=C.ns;exact i a
 have lc:∀f d,(cu L).cells.lookup f=W d->@wd Nat instLTNat d h.objs.size:=λf d s=>by obtain⟨o,a,_⟩:=C.cell f d s;exact i a
 exact⟨cp,g,C.bz.e,p,lc,(let⟨f,a⟩:=j;i a),(let⟨f,a⟩:=k;i a),λl q=>⟨Yn q p (xG j C.ns) (xG k C.ns),Yn q (lc _ _ g) (OI j (C.cell _ _ g)) (OI k (C.cell _ _ g))⟩⟩
theorem Zb.old(c:Zb z a L cp S d)(y:a.get? b=W e):b∉yX a.objs.size:=λh=>pO.mpr (Cy h) (dA y)
theorem Zb.wr(a:Zb z d L cp S k)(C:Cv z (cu L) m e H)(K:∀b o,b∉yX d.objs.size->H.get? b=W o->f.get? b=W o):Cv z (cu L) m e f:=
 C.wr K (λb h=>ft a.ez (jq (Cy h))) (λh=>pO.mpr (Cy h) a.lL) (λg i j h=>pO.mpr (Cy h) (a.lc g i j))
theorem ad0{z1:aK}{q:Qd}{Y:Lay}{E:List Nat}{h S:az}{a:List (aq×(Pt×Pt))}{al:Nat->Prop}{V:List Pt}{j:aK}{cp:az}{i:Nat}{x y:aq}{H:aK}(p:Lf z1 j q Y E h S a)(G:Lp q E a al V)(b:(cY Y E)[i]?=W x)(f:(vals a)[i]?=W y)(k:Lf z1 H q Y E h S a):
  ∃e∈E,x= .ref (Y.ad e)/\Sq H y (q.P e,q.P (U e)):=by
 have c:i<E.length:=by have:=(tY.mp b).1;simpa [cY] using this
 have l:a.length=E.length:=by have:=congrArg uc G.hW;rwa [cO,cO] at this
 have g:=l▸c;have m:(cY Y E)[i]?=W (.ref (Y.ad E[i])):=by simp[cY,c]
 have n:(vals a)[i]?=W a[i].1:=by simp[vals,g]
 have d:(a.map (·.2))[i]?=W a[i].2:=by simp[g]
 have o:(E.map λe=>(q.P e,q.P (U e)))[i]?=W (q.P E[i],q.P (U E[i])):=by simp[c]
 simp only[G.hW,o] at d;injection d with d;replace b:=(m)▸b;replace f:=(n)▸f;cases b;cases f;refine⟨E[i],jU c,rfl,?_⟩;simp only[d];exact k.sE _ (jU g)
theorem aeM{z z1 h:aK}{m cm:aA->Option aq}{L:az}{A:cT}{g:Array dQ}{d:dT}{tk:Nat}{o:df}{q:Qd}{Y:Lay}{E:List Nat}{J S:az}{B:List (aq×(Pt×Pt))}{al:Nat->Prop}{V:List Pt}{Q:dM->aT->Prop}(F:Lf z1 h q Y E J S B)(G:Lp q E B al V)(C:Cv z (cu L) m cm h)(hm:m "edges"=W (.ref S))(hc:cm "ends"=W (.ref J))(r:aU 20 A)
  (qq:∀h' a0,Ext z h'->Q (.ret (.bool af)) ⟨h',g,d,a0,o⟩):aF (MM) A (bg (mV.drop 7) (cu L)) Q aE ⟨h,g,d,tk,o⟩:=by
 refine de (WY ?_ (by intro _;rfl));refine mE (hY (k:=20) (h:=h) (P:=λl u=>l= .type "zip") ?_ r Ext.rfl λl b2 c2 e1 M=>?_)
 .exact eY C.bz.bs (by nofun) (by boot_by_name) (by decide)
 subst M;refine ab9 (cF (hY (k:=20) (h:=b2) (P:=λl u=>l= .ref S) ?_ r Ext.rfl λl b3 c3 e2 M=>?_))
 .exact ah (C.keeps e1).ns hm
 subst M;refine cF (hY (k:=20) (h:=b3) (P:=λl u=>l= .ref J) ?_ r Ext.rfl λl hb b4 e3 M=>?_)
 .exact hZ ((C.keeps e1).keeps e2) hc
 subst M;have a7:=(e1.trans e2).trans e3;have p:=C.keeps a7;have j:=F.keeps a7;refine eQ (call_zip_2 (s:=⟨hb,g,d,b4,o⟩) j.lS.list j.lE.list λb5 iz a8 a9 i1 i2 b6 N=>wpAny_pyIter_zip iz ?_);dsimp only at iz a8 a9 i1 i2 b6 N⊢;obtain⟨D,Z⟩:=Zb.of p j.lS j.lE;have wl:B.length=E.length:=by have:=congrArg uc G.hW;rwa [cO,cO] at this
 have Lw:=alp (k:=E.length) (xs:=cY Y E) (ys:=vals B) r.h Z.lS Z.lE (by simp[cY,vals,wl]);refine codeAny_forLoop_any (Jz z hb L D S J (cY Y E) (vals B) E.length g d o) ?_ (E.length+1)
  ⟨0,b5,_,m,cm,rfl,⟨iz,a8,⟨_,_,a9⟩,i1,i2,(j.lS.keeps N).list,(j.lE.keeps N).list⟩,p.keeps N,hc,λa o u u c=>N a o c,dN _,rfl⟩
 rintro n s' ⟨t,H,a0,m',c4,rfl,st,CH,b0,K,hi,rfl⟩;by_cases aQ:t<E.length
 .refine Lw.item t _ _ _ aQ st λT vs H1 b7 b8 c6 hT a4 I=>?_;obtain⟨x,c,hx,hy,rfl⟩:=b8;refine Lw.go _ _ _ t T _ _ _ a4 λH2 b9 k2=>?_;dsimp only at I k2 hT a4;refine wpAny_assign_Tuple r.h (hT.at λo e=>k2 T o (Lw.apart t T H1 a4) e:H2.IsTuple T #[x,c]) rfl rfl λH3 x3=>?_;have a5:Ext H2 H3:=λa o c=>x3 a o (cJ (dA c)) c;have O:=(Z.wr (Z.wr CH I) k2).keeps a5;refine aB (eH (qZ (fw rfl O.ns (λH4 n4 a3=>(aB (eH (qZ (Xi rfl rfl Z.xa ((O.qR a3 n4 (O.nk)).cell "pair" D Z.xa) λH5 c5 a6=>aV ?_))))) rfl)));have K5:Kz L D hb H5:=λa o R n2 c=>a6.extBut a o n2 (a3.extBut a o R (a5 a o (k2 a o (Z.old c) (I a o (Z.old c) (K a o R n2 c)))));obtain⟨e,he,rfl,sp⟩:=ad0 (cp:=D) j G hx hy (j.kq (Oy p.ns p.nk (p.cell _ _ Z.xa) K5));have c0:=Lw.frame _ _ H5 b9 λa h o c=>a6.extBut a o (Z.Fi a h).2 (a3.extBut a o (Z.Fi a h).1 (a5 a o c));refine bJ (aeT (j.kq (Oy p.ns p.nk (p.cell _ _ Z.xa) K5)) G ((O.qR a3 n4 (O.nk)).HB (n:="pair") Z.xa a6 c5) (e:=e) (pv:=c) (rfl) (rfl) sp (b0) he r (Q:=λf b1=>f= .next/\Jz z hb L D S J (cY Y E) (vals B) E.length g d o (E.length+1-(t+1)) b1)
   λh' a0 c1 eb C' u=>⟨rfl,t+1,h',a0,c1,_,rfl,Lw.frame _ _ h' c0 λa h o c=>eb a o (Z.Fi a h).1 c,C',b0,λa o R n2 c=>eb a o R (K5 a o R n2 c),aQ,rfl⟩) (λf b1 hq=>?_) λu u x=>x.elim
  obtain⟨rfl,hq⟩:=hq;exact⟨_,aaA (aar aQ) (pN t),hq⟩
 .obtain rfl:t=E.length:=wq hi (pO.mp aQ);refine Lw.done _ _ _ st λH1 b7 I=>cA ?_;dsimp only at I⊢;exact de (qY (JA (qq _ _ (Z.wr CH I).bz.e)))
theorem wX:x∈both ys↔∃e∈ys,(x=e\/x=U e):=by simp only[both,zE,cP,kH,or_false]
theorem Ph{g j:Type}{f:g->j}:∀{l:List g},l.Nodup->(∀a b,a∈l->b∈l->f a=f b->a=b)->(l.map f).Nodup
 |[],_,_=> .nil
 |a::l,k,h=>by obtain⟨m,n2⟩:=lF.mp k;refine lF.mpr ⟨λo=>?_,Ph n2 λa b p d=>h a b (fZ _ p) (fZ _ d)⟩;obtain⟨b,d,e⟩:=dc.mp o;exact m (h b a (fZ _ d) gO e▸d)
theorem VH(D:List Pt):∀l:List Pt,(l.flatMap λa=>D.map λb=>(a,b)).length=l.length*D.length
 |[]=>by simp
 |a::l=>by rw[CZ,gW,VH D l,cO,jD,aaC,aac]
theorem Lw.al(l:Lw h D S q Y p ys):QE q.n q.on/\Part q.n q.on q.P p.al p.V/\(∀e,e∈both ys->p.al e)/\(∀e,e∈both ys->q.on e∈both ys)/\(∀e,e∈both ys->U e∈both ys)/\(both ys).Nodup:=by
 have c:=l.tr.part;have al:=l.br.al (al:=p.al) (λe a=>c.nb l.qe a) (λe a=>by
  rcases cP.mp a with rfl|a
  .exact l.tr.fJ
  .rw[gb.mp a];exact l.tr.fA)
 have d:=l.br.ok.2;refine⟨l.qe,c,λx b=>?_,λx b=>?_,λx b=>?_,(l.br.nd λe h=>by cases h).1⟩
 .obtain⟨e,a,rfl|rfl⟩:=wX.mp b
  .exact al _ a
  .exact c.op _ (al _ a)
 .obtain⟨e,a,rfl|rfl⟩:=wX.mp b
  .exact d _ a _ (by simp[jO])
  .exact d _ a _ (by simp[jO,jz])
 .obtain⟨e,a,rfl|rfl⟩:=wX.mp b
  .exact wX.mpr ⟨_,a, .inr rfl⟩
  .rw[cg];exact wX.mpr ⟨_,a, .inl rfl⟩
section
theorem aeR(l:Lw h (λV=>V.map (·.2)=oB s) S q Y p ys)(hs:s.length<=6)(C:Cv z (cu L) m cm h)(hm:m "edges"=W (.ref S))(r:aU 30 A)
  (Z:∀h' a0,Ext z h'->Q (.ret (.bool af)) ⟨h',g,d,a0,o⟩):aF (MM) A (bg (mV.drop 5) (cu L)) Q aE ⟨h,g,d,tk,o⟩:=by
 obtain⟨Qe,t,hE,cl,op,nd⟩:=l.al;obtain⟨V,dV,a7⟩:=l.ex;obtain⟨z1,R⟩:=l.R;have kn:=Ph nd λM u ha hb f=>t.key (hE M ha) (hE u hb) f;have N:(both ys).length<=36:=by
  have e1:((cR V).map (·.2)).length<=6:=by simp only[cO,Ey,dV];exact(xH hs).2.1
  have a3:∀f,p.al f->q.P f∈(cR V).map (·.2):=λf i=>by obtain⟨x,hx,B⟩:=dc.mp ((a7 _).mp (t.vt f i));simp only[<-B];exact xc hx
  have:=qD (L:=((cR V).map (·.2)).flatMap λM=>((cR V).map (·.2)).map λu=>(M,u)) kn λx hx=>by obtain⟨f,i,rfl⟩:=dc.mp hx;exact zE.mpr ⟨_,a3 f (hE f i),dc.mpr ⟨_,a3 _ (t.op _ (hE f i)),rfl⟩⟩
  rw[cO,VH] at this;have:=aay e1 e1;exact eT ‹_› (alV.mp this)
 refine ur (x:="ends") (k:=30) (P:=λE h'=>Ext h h'/\∃D j,E= .ref D/\LO h' D (vals j)/\(∀x∈j,Sq h' x.1 x.2)/\j.map (·.2)=(both ys).map λf=>(q.P f,q.P (U f))) ?_ (λE h1 H=>C.keeps H.1) r λE a8 a4 a9 H a5 C3=>?_
 .intro A Q g d tk o r Z;exact acT C hm l.lo R.toRep l.T (λf i=>⟨t.lt f (hE f i),t.ev f (hE f i)⟩) (by exact eT N (by decide)) (by decide) A _ h g d tk o r Ext.rfl λE h' a0 f H=>Z E h' a0 ⟨f,iO (λw=>iO λw I=>⟨I.1,I.2.2⟩) H⟩
 obtain⟨B,EE,j,rfl,lE,sE,O⟩:=H;have kq:Kq a8 a4:=λu ob h1 w I=>by refine a5.extBut u ob ?_ I;obtain⟨⟨o,E,y',f⟩,_⟩:=((C.keeps B).uw a5 (n:="ends") (by rfl));rintro rfl;replace y':=(I)▸y';cases y';exact h1 _ f
 have J:Lf z1 a4 q Y (both ys) EE S j:=Lf.kq ⟨R.keeps B,l.T.keeps B,lE,l.lo.keeps B,sE⟩ kq;have wl:j.length=(both ys).length:=by have:=congrArg uc O;rwa [cO,cO] at this
 have G:Lp q (both ys) j p.al p.V:=⟨Qe,t,hE,cl,O,by exact Gq N wl⟩;refine oe (k:=30) (c:=aw) (xk (c1:=aw) (c2:=aw) (adb C3 rfl J.lE J.sE (by simp only[O];exact kn) (by exact Gq N wl) (by decide)) λw=>ade C3 rfl J.lE J.sE (λM u a6=>?_) (by exact Gq N wl) (by decide)) r λb0 b1 e4=>?_
 .rw[O] at a6⊢;obtain⟨f,i,e5⟩:=dc.mp a6;refine dc.mpr ⟨U f,op f i,?_⟩;rw[cg];cases e5;rfl
 simp only[ly,if_false];exact cA (aeM (J.keeps e4) G (C3.keeps e4) (by exact hm) rfl (r.le (by decide)) Z)
theorem aeO(B:Bs h)(O:h.IsList la vs.toArray)(P:iQ vs ns)(Z:ns.length<=63)(bt:∀n∈ns,Bt KB n):zU 500 h (.call (.ref 582) ⟨[.ref la],[]⟩) (λv h'=>v= .bool af/\Ext h h'):=by
 refine WI (k:=499) (fd:=xo) (body:=mV) (binds:=[("script", .ref la)]) B (abk _) rfl (λa a a a a a=>eR rfl) rfl (λn=>by rfl) rfl rfl rfl (by rfl) λa6 e1 C t g u J w Q x ab qq=>?_;have E:aU 30 t:=x.le (by decide);have f:(mA (nums (kindOf ns) ns)).length<=6:=by delta mA nums;rw[cO,ud,cO,wj];exact ahY
 refine aeN C (by rfl) O P Z bt E λm' a7 G V a8 a9 F hg lG sG L=>?_;have vl:V.length<=9:=by have:=congrArg uc L;rw[cO] at this;rw[this];exact(xH f).2.2
 have b:=F.bz.bs;refine de (oU (aeL (D:=λM=>M.map (·.2)=oB (mA (nums (kindOf ns) ns))) E ab b ?_ ?_ ?_ ?_ ?_ (λM H=>?_) _ rfl λS a0 N b0 qd Y p ys a3 e3 i=>?_) (by rfl))
 .exact eY b (by nofun) (by boot_by_name) (by decide)
 .exact cB b (by nofun)
 .exact cB b (by nofun)
 .exact(ac4 F hg lG sG vl (by decide)).imp (bT _) λv h' a hv=>iO (λa=>iO λa j=>⟨j.1,j.2.1,j.2.2.1,j.2.2.2.trans L⟩) hv
 .exact acP b (cB b (by nofun)) (λh' I t l h2 g u J w x e2 q=>abU (b.keeps I) t l h2 g u J w (x.le (by decide)) e2 q) (by nofun)
 .have h1:=(xH f).1;exact⟨by have:=congrArg uc H;rw[cO] at this;exact(dz 0xf05f0a049411090a408 0x12042008421).2 ((xH f).2.2) this,by simp only[Ey,H];exact h1,by simp only[Ey,H];exact(xH f).2.1⟩
 have c:=F.keeps e3;refine fw (s:=⟨a0,N,u,_,w⟩) (by rfl) c.ns (λb1 n4 m=>?_) (by rfl);obtain⟨z1,l⟩:=i.R;have a4:={i with R:=⟨z1,l.set c.ns c.nk m⟩,T:=i.T.set c.ns m,lo:=i.lo.but m (xG i.lo c.ns)};exact aeR a4 f (c.qR m n4 (c.nk)) rfl E λh' a5 I=>qq _ h' N a5 a3 ⟨rfl,I⟩ _ rfl
theorem aeJ:ji.Holds:=aeQ λh f g i a b c d e=>aeO a b c d e
end
end bY
theorem PySem.Challenge.cw_iu0015_02_holds : PySem.Challenge.rw_iu0015_02.Holds :=
 bY.aeJ
