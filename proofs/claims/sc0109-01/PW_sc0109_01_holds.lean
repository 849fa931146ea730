import PyProof.Rows.All
import OpenK.AllK
import Wide.All
import Lean
import PySem.Challenge.RW_sc0109_01
open PySem renaming Tok->ab,Addr->af,Value->ag,World->aj,Shared->am,Obj->aq,wpAny_bind->au,Heap->aw,Around->aD,wpAny->aG,wpAny_pure->aH,model->aR,execs->aV,recursionLimit->bk,Code->bB,Sem->ca,Stmt->ck,Result->cw,Expr->cY,Program->c9,Flow->dk,codeAny_call_builtin->dJ,cLine->dP,Pos->d5,codeAny->eC,rawInt->eI,Runs->eJ,eval->fx,Model->fU,wpAny_holding->fV,table->gy,sizeLine->gz,valueAt->g6,typeIs_str->ib,sysModules->ic,Wakes->iK,wpAny_field->jb,wpAny_of_eq->jd,typeIs_int->jJ,wpAny_newObj_type->kb,Data->kZ,Env->k7,argsOk->lc,Fin->lj,strKind->lm,bindArgs->ma,newFunctionEnv->md,entryFor->me,strKind_is->mh,wpAny_isInstance->mT,End->mU,wpAny_execs_cons->mV,strLen_append->mW,sizeLine_eq->nO,Params->pg,Args->pk,wpAny_mono->pz,seqIndex?->pA,wpAny_standAt->pC,assign->pD,SetTable->pG,wpAny_setState_of->pH,strValues->pI,codeAny_builtin->qw,IsPart->qx,wpAny_rule->qy,wpAny_call_entry->qz,wpAny_execs_nil->qC,Frame->qD,Resume->qG,wpAny_setField->sr,letOwnedTupleGo->su,FuncData->uM,denote->uN,wpAny_attempt->uQ,intText?->uR,wpAny_typeOf->uV,callerA->uZ,wpAny_seqItems->wU,wpAny_callSpecial?_slot->wV,slot_listiter_next->wW,hashStr->wZ,wpAny_askSetting->w5,limitOf->w6,starEach->w7,Slot->yX,wpAny_load->y3,numsOf->y4,slicePick->y5,pyNext->y9,backTo->zc,backToKw->zd,keywordEach->ze,Arguments->BE,Setting->BN,NameKind->BS,field->BY,slot_list_getitem->B4,relayAll->B6,partValue->Ca,codeAny_call_function->FO,wpAny_updateSeq->FP,wants->FX,plainId_quiet->FZ,GenState->F8,wpAny_handled->F9,wpAny_throw->Ga,isSubtype_stop->Gc,wpAny_setEntries_of->Gh,standAt->Gl,holding->Gm,size_glued->Gr,wpAny_ite->Gt,Scope->LZ,nsFind->Md,Gives->Mg,codeAny_mono->Mo,sliceMade->Mp,intItems->Mr,codeAny_func->Mw,Frame->My,entry_listiter_next->MA,args_listiter_next->MB,foldedSetIterable->MD,pyIter->MG,pickOrder->MI,wpAny_fieldsOf->MJ,isInstance->MK,wpAny_eqBool_str->MM,callMarked->MQ,isTrue->MR,stripSame->MW,ExcName->WX,entry_len->WY,plainId->Xo,AllInts->Xp,entry_list_getitem->Xq,args_list_getitem->Xr,wpAny_specialOf->Xv,wpAny_listPart->Xw,wpAny_point->Xy,unsupported->Xz,splitAtGen->XA,wpAny_Name->XD,wpAny_loadName_local->XE,execs_cons_wrap->XH,GenResult->XI,wpAny_For->XM,codeAny_forLoop_any->XN,DictEntry->XO,ElemsOf->XR,wpAny_storeSet_of->XT,drawOrder->XY,wpAny_cRoomFor->X6,wpAny_truthy_bool->X8,scanBound->Ya,Keyword->Ye,wpAny_with_toks->Yg,meets_str_join_list->Yj,compEnvC->Yk,wpAny_mkText->Yl,stripped->Yu,codeAny_of_tree->aSh,entryFor_of_fast->aS7,meets_str_getitem_slice->aTi,checkBuiltinCall->aTl,slicePick_size_le->aTp,wpAny_setScan_of->aT1,setDisplayStar->aT6,wpAny_runValue->aT7,wpAny_dictEpoch->aT8,wpAny_dictEntries->aT9,wpAny_forIn_list->aUa,entryFor_of_tree->aUc,entryFor_alias->aUd,wpAny_pyIter_slot->aUf,slot_dict_getitem->aUr,methodCallForm->aUu,wpAny_listSubscript_int->aUv,codeAny_compStart_list->aVa,gives_int_repr->aVg,wpAny_tupleItemsOf->aVk,wpAny_Return_some->aVm,codeAny_whileLoop->aVo,length_partsBetween->aWf
open Nat renaming le_trans->aE,le_refl->a8,sub_add_cancel->bX,beq->bY,le_of_lt->cR,le_antisymm->c8,le_of_ble_eq_true->dh,ne_of_lt->du,not_lt->dw,le_add_left->dF,mul_le_mul_left->dT,mul_comm->dU,le_add_right->fF,zero_le->fZ,lt_of_le_of_lt->iH,mul_assoc->i9,ne_of_gt->jc,mul_le_mul_right->jF,lt_irrefl->jH,sub_le->nK,le_of_succ_le->nN,lt_of_lt_of_le->qr,le_of_eq->qu,min_eq_left->r5,two_pow_pos->r7,casesOn->r9,succ_le_succ->sj,mod_lt->uP,lt_succ_self->wY,mul_lt_mul_of_pos_right->yT,ble->yV,add_le_add_left->yW,add_le_add_right->yY,lt_trans->za,zero_mul->BJ,sub_eq_zero_of_le->BU,mul_pos->BV,succ_pos->BW,add_sub_cancel'->FB,min_eq_right->FC,blt->FF,le_of_lt_succ->FI,pow_add->FJ,add_le_add->FL,one_mul->FM,pow_le_pow_right->FU,not_le->FV,le_sub_of_add_le'->L1,add_assoc->L2,add_comm->L8,le_of_succ_le_succ->Mb,pos_of_ne_zero->Mm,zero_add->MC,le_total->WF,succ_sub->WG,mul_lt_mul_of_pos_left->WM,one_pos->WO,add_lt_add_left->WV,lt_or_ge->W8,div_le_of_le_mul->W9,le_succ_of_le->Xb,pow_succ->Yh,min_le_left->Yr,le_of_sub_eq_zero->aRn,eq_zero_of_le_zero->aRo,sub_add_eq->aRt,sub_sub_self->aRx,lt_or_eq_of_le->aR5,log2_lt->aR6,mod_add_div->aS1,mul_div_le->aS3,mul_one->aS4,le_of_not_lt->aS5,lt_succ_of_lt->aUh,le_succ->aUw,lt_add_of_pos_right->aUy,add_mul->aVb,add_lt_add_right->aVe,min_le_right->aVp,add_zero->aV9,le_min->aWg
open PySem.Value renaming ref->aN,bool->dX,type->Gb,isStrOf_shape->Gf,int->aRm,casesOn->aSc
open PySem.PyData renaming keyHash->aS
open List renaming mem_cons->a9,not_mem_nil->bi,mem_map->bq,mem_append_right->bD,append_assoc->bH,mem_singleton->bI,mem_append_left->bL,map_append->bM,nodup_nil->bN,length_append->bQ,mem_map_of_mem->b6,nodup_cons->ci,mem_append->cq,toArray->cE,Perm->cF,length_map->dA,getElem?_map->dL,append_nil->dQ,length_cons->eH,nodup_append->fi,range->fH,getElem?_mapIdx->gA,getElem?_eq_getElem->gD,count_append->ie,map_cons->iJ,mem_of_getElem?->ja,perm_iff_count->jf,flatMap_cons->jg,ext_getElem?->jG,perm_append_comm->jL,perm_middle->lh,flatMap_nil->nQ,casesOn->pq,size_toArray->py,map->qH,all_eq_true->r6,getElem?_eq_some_iff->se,cons_append->sn,nil_append->uS,getElem?_eq_none->uT,length_reverse->uU,getElem_mem->uW,getD_eq_getElem?_getD->uX,nodup_range->uY,map_nil->wT,length_take->w4,forall_mem_cons->w9,flatMap_append->zh,map_map->BO,map_eq_nil_iff->BZ,take_length->B5,length_nil->B9,append_toArray->FW,reverse_append->Gd,append_of_mem->Gi,mem_toArray->Gk,take_succ->Go,length_mapIdx->Gp,foldl_cons->Gq,length_drop->Gu,getElem?_of_mem->Me,take_of_length_le->Mq,getElem?_toArray->Ms,range'->MH,length->MN,length_singleton->MT,all_cons->WL,getElem?_set_ne->WT,map_congr_left->WU,getElem?_range->Xh,length_range->Xi,reverse_cons->Xl,foldl_append->XW,length_eq_zero_iff->XZ,mem_cons_of_mem->X4,mem_flatMap->X5,getElem?_cons_zero->X9,foldl_toArray->Ym,nodup_range'->Yn,mem_reverse->Yp,any_map->Yv,mem_of_mem_take->Yy,drop_nil->Yz,getElem?_inj->aSe,getElem?_set_self->aSf,getLast?_eq_getElem?->aSg,mem_range->aSj,push_toArray->aSn,map_eq_append_iff->aTd,map_reverse->aTj,reverse_reverse->aTk,drop_eq_getElem_cons->aTx,findIdx?_eq_none_iff->aT0,range'_succ->aUb,length_eraseIdx_of_lt->aUe,getElem?_append_left->aUj,getElem?_append_right->aUk,ext_getElem->aUl,isPerm_iff->aUn,mapIdx_cons->aUq,take_append_drop->aUx,any_append->aUz,forIn_cons->aU1,mem_cons_self->aU2,sum_cons->aVc,Nodup->aVd,getElem?_eq_none_iff->aVh,all_toArray->aVn,reverse->aVq,reverse_perm->aV3,take_nil->aV4,count_eq_zero_of_not_mem->aWe,foldl_nil->aWh
open Int renaming le_antisymm->bw,natCast_nonneg->bG,ofNat_le->bK,ofNat_lt->cb,mul_comm->fj,le_refl->fv,not_lt->fG,le_of_lt->gh,lt_of_le_of_lt->jE,le_trans->kU,mul_nonneg->lZ,ofNat->mf,toNat_of_nonneg->mR,ne_of_gt->nL,ofNat_sub->ph,mul_assoc->pi,pow_pos->r8,add_zero->uJ,not_le->wP,pow_add->wQ,toNat_natCast->wX,mul_zero->yU,min_eq_left->BF,zero_mul->BH,natAbs_mul->BI,fdiv_eq_ediv_of_nonneg->BM,lt_mul_ediv_self_add->Cd,mul_ediv_self_le->Ce,mul_one->FE,natAbs_of_nonneg->FH,compare_eq_gt->FQ,mul_le_mul_of_nonneg_left->FS,fmod_eq_emod_of_nonneg->Gs,add_assoc->L0,min_le_left->L5,min_eq_right->L6,one_mul->L7,sub_nonneg_of_le->L9,lt_trichotomy->Mh,compare_eq_lt->Mi,compare_eq_eq->Mj,lt_trans->Mk,mul_le_mul->Ml,ne_of_lt->WB,le_max_left->WC,le_min->WE,zero_add->WH,add_mul->WI,neg_mul->WJ,add_nonneg->WK,natAbs_pow->WN,mul_pos->W6,mul_left_comm->W7,lt_or_gt_of_ne->Xf,max_eq_right->Xm,max_eq_left->Xn,eq_ofNat_of_zero_le->YE,toNat_add->aRp,ofNat_natAbs_of_nonpos->aRq,add_le_add_right->aRs,max_le->aRu,le_max_right->aRv,min_le_right->aRw,natCast_add->aRy,toNat_le->aRz,add_sub_assoc->aR0,sub_pos_of_lt->aR1,natCast_mul->aR4,natAbs_ne_zero->aR7,mul_ediv_cancel->aR9,mul_ediv_mul_of_pos_left->aSa,mul_eq_zero->aS0,lt_irrefl->aS2,sub_zero->aTb,lt_of_lt_of_le->aV1,emod_nonneg->aWc,emod_lt_of_pos->aWd
open PySem.Heap renaming get?_push_of_some->cZ,lt_size->dH,get?_push_size->gY,SameBut->lb,get?_update_self->nM,size_push->qv,get?_none_of_le->wR,ExtBut->y8,dictOf_iff->zb,get?_update_other->X0
open Option.some renaming inj->dG,injEq->Ge
open PySem.W renaming instObj->dW,hideAll->gZ,tabObj->jI,hideAll_get->kd,envX->sy,Frag->uL,of_hideAll->y6,hideAll_none->y7,codeRec_of->BQ,methodObj->BX,codeIn->Mc,dictOf->Mf,OwitFlow->ME,ghostOf->YB,ghost_ne->YC
open PySem.Float64 renaming ofInt->d6,sub->gV,div->gX,mul->iI,cmp->kW,isZero->kX,isInf->lf,add->uK,decode->BK,truncOf->BL,divmod->W4,ofFrac->Xe,floorOf->aR8
open Bool renaming and_eq_true->gw,or_eq_false_iff->BP,false_ne_true->F6,and_eq_true_iff->Ma,or_eq_true->MO,false_eq_true->W5,or_eq_true_iff->aR2,and_true->aSv,not_not->aS6,or_true->aTc,or_false->aU0,noConfusion->aV2
open PySem.Str renaming ofString->gB,empty->pF,join->Cc,cps_append->Yf,length_append->Yo
open PySem.Heap.SameBut renaming update->ia,refl->aT3
open PySem.Builtin.Str renaming glued->je,occurrences->ka,tooLong->sA,Writer->w8,subAt->Xa,strKind->YD,percentFormat->aXt,percentIntOf->aXu,percentInt->aXv
open List.Perm renaming swap->jK,cons->zg,trans->Yw
open PySem.Obj renaming mapSeq->mS,mapFields->qA,putSet->MF,data_mapFields->aTv
open Array renaming length_toList->nP,getElem?_eq_getElem->yZ,toList_append->zi,getElem?_toList->B3,getElem?_eq_none->Xc,replicate->XV,all_eq_true'->aSd,size_push->aSm,getD_eq_getD_getElem?->aTh,toList_push->aT2,toList_inj->aV8,empty_append->aWb
open PyProof.Rows renaming News->px,seqObj->sw,IntsAre->zk,joinParts_cons->Gn,slot_tuple_contains->Mn,envOf->Mx,listItems_at->ML,IsTup->Xd,toString_length_le->Yx,entry_tuple_contains->aS8,args_tuple_contains->aS9,slot_tuple_getitem->aTq,FormattedValue_plain->aU8,formatField_str->aU9,mapSeq_app->aXj,extend_door->aXl,mapSeq_reverse->aXm
open PySem.Txt renaming strip->pJ,sliceBy->Xg,splitMax->aUm
open Prod.mk renaming injEq->si,inj->aTe
open List.cons renaming injEq->uO
open Prod renaming snd->wS,fst->WW
open PySem.W.KPc renaming Good->zj,ite_no->MU,turn->Ys,short_good->Yt
open Exists renaming elim->BR
open PySem.SetTable renaming grown->B7,bits->B8,runEnd->Gg,laid->XP,layClean->XQ,relaid->aTy
open PySem.Code renaming cUnits->FN,weight->WP,quiet_builtin->aTg
open PySem.F renaming slot_str_getitem->FY,slot_dict_get->MP,slot_str_join->MS,slot_str_mod->MV,slot_float_mul->WZ,entry_float_mul->W0,args_float_mul_2->W3,entry_str_getitem->Xj,args_str_getitem_2->Xk,slot_list_lt->X7,slot_str_split->Yb,entry_str_split->Yc,args_str_split_3->Yd,entry_str_join->Yi,slot_list_append->aSk,entry_list_append->aSl,slot_list_pop->aSo,slot_float_sub->aSp,entry_float_sub->aSq,args_float_sub_2->aSr,slot_float_truediv->aSs,entry_float_truediv->aSt,args_float_truediv_2->aSu,slot_float_int->aSw,entry_float_int->aSx,args_float_int_1->aSy,slot_str_iter->aTf,slot_set_iter->aUg,slot_set_contains->aUo,slot_dict_items->aUs,entry_dict_get->aUt,args_str_join_2->aU5,slot_str_strip->aU6,entry_str_strip->aU7,entry_int_eq->aVf,slot_list_extend->aVi,slot_list_reverse->aVj,slot_tuple_eq->aVl,slot_range_iter->aVt,slot_range_iterator_next->aVu,slot_int_abs->aVv,entry_int_abs->aVw,args_int_abs_1->aVx,entry_str_mod->aVy,args_str_mod_2->aVz,slot_list_contains->aV0,slot_list_ne->aV5,slot_list_init->aV7,slot_list_eq->aWa
open PySem.Sem renaming bind_eq_wrap'->F7,wp->Mv,wrap_wrap->Mz,casesOn->WQ,onRaise_eq_wrap->XF,wp_bind'->aTs,wp_mono->aTt
open Option renaming map_some->Gj,bind_some->Mt,bind_eq_bind->aTz
open PySem.Stmt renaming casesOn->LY
open PySem.IsPart renaming int->Mu
open PySem.Expr renaming casesOn->WA,Name->Xx,Call->aXh
open PySem.GenState renaming bare->WR
open PySem.Builtin.List renaming listSubscript?->Xu,listFitsIndex->Yq,listSameRef->aUi,listExtendWith->aXf
open PySem.Data renaming seq->XC,casesOn->aSb
open PySem.End renaming ret->XJ
open PySem.SetTable.layClean renaming free->XU
open PySem.pickOrder renaming go->XX
open Or renaming imp->YA
open Decidable renaming em->aRr
open Classical renaming byContradiction->aR3
open Subtype renaming mk->aSi
open PySem.Flt renaming gives_int->aSz
open PySem.AutoFloatG3 renaming float___mul___float_int_1->aTa,float___le___float_float_0->aWw,float___sub___float_int_1->aW3
open PySem.Manifest renaming signature?->aTm
open PySem.Bind renaming checkArgs->aTn
open PySem.Walks renaming list->aTo,dictKeys->aT5
open PySem.Builtin.Tuple renaming tupleItemsOf->aTr
open PySem.Frame renaming guarded->aTu,ret->aXb
open PySem.Around renaming in1->aTw
open PyProof.Rows.F renaming entry_set_update_loop->aT4,plain_set_update_loop->aXd
open False renaming elim->aUp
open PySem.StrLaws renaming split_free->aU3,join_split->aU4
open PySem.Builtin.Range renaming small->aVr,rangeSize->aVs
open Except renaming ok->aV6
open PySem.Challenge renaming pw_sc0109_01->aWo,rw_sc0109_01->aWp
open List.Pairwise renaming of_map->aWq,imp_of_mem->aWr,map->aXi
open PySem.MeetsSeq renaming list_pop_last->aWs
open PySem.AutoFloatG4 renaming float___gt___float_float_0->aWt,float___ne___float_float_0->aWy,float___add___float_float_0->aWz,float___truediv___float_int_2->aW6
open PySem.AutoFloatG0 renaming float___sub___float_float_0->aWu
open PySem.AutoFloatG5 renaming float___lt___float_float_0->aWv,float___eq___float_float_0->aWx
open PySem.AutoFloatG1 renaming float___mul___float_float_0->aW0,float___truediv___float_float_1->aW1
open PySem.AutoFloatG2 renaming float___mod___float_float_1->aW2
open PySem.W.KIN renaming gives_text->aW4
open PySem.AutoIntG4 renaming int___truediv___int_int_2->aW5,int___gt___int_int_0->aW8,int___floordiv___int_int_1->aXw
open PySem.AutoIntG1 renaming int___lt___int_int_0->aW7,int___mul___int_int_0->aXq,int___abs___int_1->aXs
open PySem.Builtin.Builtins renaming bindParams->aW9
open PySem.Builtin.Generator renaming sleptOver->aXa,genWake->aXc
open Std.Legacy.Range renaming forIn_eq_forIn_range'->aXe
open PySem.Builtin.Frozenset renaming oneOther->aXg
open PySem.AutoSeq1 renaming list_extend_list_list_0->aXk
open PySem.AutoListH renaming list_reverse_list_0->aXn
open PySem.AutoIntG6 renaming int___mod___int_int_1->aXo
open PySem.Heap.ExtBut renaming refl->aXp
open PySem.AutoIntG0 renaming int___abs___int_0->aXr
open PySem.AutoIntG7 renaming int___eq___int_int_0->aXx
open PySem PySem.W PyProof.Rows
set_option Elab.async false
set_option maxRecDepth 100000
set_option maxHeartbeats 8000000
set_option linter.all false
set_option genInjectivity false
set_option genSizeOf false
namespace Mine.Internal
variable {A:aD}{aa ar h' aQ:aw}{U n k B F j tk ta ep e2 aP wm f sz lim kk re dep fg gq dr:Nat}{α β γ O δ:Type}{s ak s':am}{fr:Option af}{ao G p2 p3 p4:Prop}{t u t1 tb t2:ab}{E:ag->am->Prop}{a b z B2 sm:Int}{lv:List af}{prog:c9}{L S D I it ds ga C:af}{vs:List ag}{Q:dk->am->Prop}{y:UInt64}{ks:List Str}{R:cw->am->Prop}{pre news:List (af×aq)}{W nm:List Nat}{T name k0:Str}{rest:List (Nat×ab)}{sl:Array (Option ag)}{id:String}{env:k7}{args:pk}{Γ:Ctx}{fd:uM}{fs:List My}{self:ag}{pos:d5}
noncomputable section
noncomputable abbrev nc{α:Type u}(a:α):α:=a
noncomputable def dM:Nat->Nat->List Nat
 |0,_=>[]|n+1,k=>(bif Nat.beq (k%64) 63 then 777 else k%64)::dM n (k/64)
noncomputable def dN:Nat->Nat->List Nat
 |0,_=>[]|n+1,k=>(bif Nat.beq (k%32) 31 then 777 else k%32)::dN n (k/32)
theorem az{α:Type u}{a:α}{l:List α}:a∈a::l:=List.Mem.head l
theorem aB{α:Type u}{a b:α}{l:List α}(h:a∈l):a∈b::l:=List.Mem.tail b h
def g7(n:Nat):List Value:=nc ([.ref n, .none, .ref (n+1), .ref (n+2), .ref (n+3)])
abbrev bC(i:String)(l:List ag):Code:=nc (.call (.builtin i) ⟨l,[]⟩)
abbrev gF(a:af)(l:List ag):Code:=nc (.call (.ref a) ⟨l,[]⟩)
abbrev aA(l:List ag)(e:Nat):Obj:=nc (listOf l.toArray e)
theorem aWi{P:aj->Prop}(a:∀w:aj,P (w.withFollow "special-get-raises" false))(b:∀w:aj,P (w.withFollow "special-get-raises" true))(w:aj):P w:=byRow2 "special-get-raises" a b w
section
open PySem PySem.W
def sE(s:ck):List PySem.Expr:=nc (@LY (λj=>List cY) s (λj j j j j j j j j j=>[]) (λj j j j j j j j j j=>[]) (λj j j j j j j j j j j=>[]) (λv j=>v.toList) (λj j=>[]) (λt v j=>v::t) (λj j j j j j j=>[]) (λj j j j=>[]) (λj j j j j=>[]) (λt i j j j=>[t,i]) (λj j j j j=>[]) (λt j j j=>[t]) (λt j j j=>[t]) (λj j j=>[]) (λj j j=>[]) (λj j j=>[]) (λj j j=>[]) (λj j j j j=>[]) (λj j j j j=>[]) (λj j j=>[]) (λj j=>[]) (λj j j j=>[]) (λj j=>[]) (λj j=>[]) (λv j=>[v]) (λj=>[]) (λj=>[]) (λj=>[]))
def sB(s:ck):List (List ck):=nc (@LY (λj=>List (List ck)) s (λj j b j j j j j j j=>[b]) (λj j j j j j j j j j=>[]) (λj j j b j j j j j j j=>[b]) (λj j=>[]) (λj j=>[]) (λj j j=>[]) (λj j j j j j j=>[]) (λj j j j=>[]) (λj j j j j=>[]) (λj j b o j=>[b,o]) (λj j j j j=>[]) (λj b o j=>[b,o]) (λj b o j=>[b,o]) (λj j j=>[]) (λj j j=>[]) (λj j j=>[]) (λj j j=>[]) (λb j o f j=>[b,o,f]) (λj j j j j=>[]) (λj j j=>[]) (λj j=>[]) (λj j j j=>[]) (λj j=>[]) (λj j=>[]) (λj j=>[]) (λj=>[]) (λj=>[]) (λj=>[]))
def sH(s:ck):List ExceptHandler:=nc (@LY (λj=>List ExceptHandler) s (λj j j j j j j j j j=>[]) (λj j j j j j j j j j=>[]) (λj j j j j j j j j j j=>[]) (λj j=>[]) (λj j=>[]) (λj j j=>[]) (λj j j j j j j=>[]) (λj j j j=>[]) (λj j j j j=>[]) (λj j j j j=>[]) (λj j j j j=>[]) (λj j j j=>[]) (λj j j j=>[]) (λj j j=>[]) (λj j j=>[]) (λj j j=>[]) (λj j j=>[]) (λj h j j j=>h) (λj j j j j=>[]) (λj j j=>[]) (λj j=>[]) (λj j j j=>[]) (λj j=>[]) (λj j=>[]) (λj j=>[]) (λj=>[]) (λj=>[]) (λj=>[]))
def sF(s:ck)(d:α)(f:Str->BE->List ck->LZ->d5->α):α:=nc (@LY (λj=>α) s (λn a b j j j s j j p=>f n a b s p) (λj j j j j j j j j j=>d) (λj j j j j j j j j j j=>d) (λj j=>d) (λj j=>d) (λj j j=>d) (λj j j j j j j=>d) (λj j j j=>d) (λj j j j j=>d) (λj j j j j=>d) (λj j j j j=>d) (λj j j j=>d) (λj j j j=>d) (λj j j=>d) (λj j j=>d) (λj j j=>d) (λj j j=>d) (λj j j j j=>d) (λj j j j j=>d) (λj j j=>d) (λj j=>d) (λj j j j=>d) (λj j=>d) (λj j=>d) (λj j=>d) (λj=>d) (λj=>d) (λj=>d))
def gE(g:List Comprehension):List PySem.Expr:=nc (g.flatMap λc=>[c.target,c.iter])
def eE(e:cY):List PySem.Expr:=@WA (λj=>List cY) e (λj v j=>v) (λj j j=>[]) (λl j r j=>[l,r]) (λj j j=>[]) (λj b j j=>[b]) (λj j j j=>[]) (λj j j=>[]) (λv j j=>v) (λe g j j=>e::gE g) (λj j j j=>[]) (λk v g j j=>k::v::gE g) (λj j j j=>[]) (λj j=>[]) (λj j=>[]) (λj j=>[]) (λl j r j=>l::r) (λf a k j=>f::(a++k.map λk=>k.value)) (λv j j j=>[v]) (λv j=>v) (λj j j=>[]) (λv j j=>[v]) (λj j j=>[]) (λv j=>[v]) (λj j=>[]) (λj j=>[]) (λv j j=>v) (λj j j j=>[])
def eK(e:cY):Nat:=nc (@WA (λj=>Nat) e (λj j j=>0) (λj j j=>0) (λj j j j=>0) (λj j j=>0) (λj j j j=>0) (λj j j j=>0) (λj j j=>0) (λj j j=>0) (λj j j j=>0) (λj j j j=>0) (λj j j j j=>0) (λj j j j=>0) (λj j=>0) (λj j=>0) (λj j=>0) (λj j j j=>0) (λj j j j=>0) (λj j j j=>0) (λj j=>0) (λj k j=>k) (λj j j=>0) (λj j j=>0) (λj j=>0) (λj j=>0) (λj j=>0) (λj k j=>k) (λj j j j=>0))
def eL(e:cY):BE×cY×Scope:=nc (@WA (λj=>BE×cY×LZ) e (λj j j=>default) (λj j j=>default) (λj j j j=>default) (λj j j=>default) (λa b s j=>(a,b,s)) (λj j j j=>default) (λj j j=>default) (λj j j=>default) (λe j s j=>(default,e,s)) (λj j j j=>default) (λj j j j j=>default) (λj j j j=>default) (λj j=>default) (λj j=>default) (λj j=>default) (λj j j j=>default) (λj j j j=>default) (λj j j j=>default) (λj j=>default) (λj j j=>default) (λj j j=>default) (λj j j=>default) (λj j=>default) (λj j=>default) (λj j=>default) (λj j j=>default) (λj j j j=>default))
def oS(o:Option ck):Stmt:=nc (o.getD default)
def pE(s:Option ck)(i:Nat):PySem.Expr:=(sE (oS s)).getD i default
def pB(s:Option ck)(i:Nat):List Stmt:=(sB (oS s)).getD i []
def xE(e:cY)(i:Nat):PySem.Expr:=(eE e).getD i default
end
noncomputable abbrev P:=aWo
def jM(i:Nat):Option Stmt:=nc (P.main.body[i]?)
def ml(i j:Nat):Option Stmt:=(pB (jM i) 0)[j]?
def fI(Z:Option ck)(qual:Str)(Y J H X:ag):Obj:=sF (oS Z) default λname args body scope j=>⟨.type "function",none, .func (fnOf name qual args body scope Y J .none H none X .none),#[]⟩
def YF:{o:aq // o=fI (ml 7 0) "C14NWriterTarget.__init__" .none (.ref 60) (.str "cpy313.xml.etree.ElementTree" 289) (.ref 66)}:=nc (⟨_,rfl⟩)
def MX:{o:aq // o=fI (ml 7 1) "C14NWriterTarget._iter_namespaces" (.ref 68) .none (.str "cpy313.xml.etree.ElementTree" 289) (.ref 74)}:=nc (⟨_,rfl⟩)
def u5:{o:aq // o=fI (ml 7 3) "C14NWriterTarget._qname" (.ref 83) .none (.str "cpy313.xml.etree.ElementTree" 289) (.ref 89)}:=nc (⟨_,rfl⟩)
def YG:{o:aq // o=fI (ml 7 4) "C14NWriterTarget.data" .none .none (.str "cpy313.xml.etree.ElementTree" 289) (.ref 96)}:=nc (⟨_,rfl⟩)
def u6:{o:aq // o=fI (ml 7 5) "C14NWriterTarget._flush" (.ref 99) .none (.str "cpy313.xml.etree.ElementTree" 289) (.ref 105)}:=nc (⟨_,rfl⟩)
def YH:{o:aq // o=fI (ml 7 6) "C14NWriterTarget.start_ns" .none .none (.str "cpy313.xml.etree.ElementTree" 289) (.ref 112)}:=nc (⟨_,rfl⟩)
def u7:{o:aq // o=fI (ml 7 7) "C14NWriterTarget.start" .none .none (.str "cpy313.xml.etree.ElementTree" 289) (.ref 119)}:=nc (⟨_,rfl⟩)
def u8:{o:aq // o=fI (ml 7 8) "C14NWriterTarget._start" (.ref 121) .none (.str "cpy313.xml.etree.ElementTree" 289) (.ref 125)}:=nc (⟨_,rfl⟩)
def u9:{o:aq // o=fI (ml 7 9) "C14NWriterTarget.end" .none .none (.str "cpy313.xml.etree.ElementTree" 289) (.ref 132)}:=nc (⟨_,rfl⟩)
def MY:{o:aq // o=fI (jM 8) "_escape_cdata_c14n" .none .none (.str "cpy313.xml.etree.ElementTree" 289) (.ref 160)}:=nc (⟨_,rfl⟩)
def MZ:{o:aq // o=fI (jM 9) "_escape_attrib_c14n" .none .none (.str "cpy313.xml.etree.ElementTree" 289) (.ref 167)}:=nc (⟨_,rfl⟩)
def YI:{o:aq // o=fI (jM 11) "rgb_to_hls" .none .none (.str "cpy313.colorsys" 539) (.ref 174)}:=nc (⟨_,rfl⟩)
def YJ:{o:aq // o=fI (jM 12) "rgb_to_hsv" .none .none (.str "cpy313.colorsys" 539) (.ref 181)}:=nc (⟨_,rfl⟩)
def YK:{o:aq // o=fI (jM 13) "hsv_to_rgb" .none .none (.str "cpy313.colorsys" 539) (.ref 188)}:=nc (⟨_,rfl⟩)
def YL:{o:aq // o=fI (ml 15 0) "_netrclex.__init__" .none .none (.str "cpy313.netrc" 592) (.ref 202)}:=nc (⟨_,rfl⟩)
def YM:{o:aq // o=fI (ml 15 1) "_netrclex._read_char" .none .none (.str "cpy313.netrc" 592) (.ref 209)}:=nc (⟨_,rfl⟩)
def zm:{o:aq // o=fI (ml 15 2) "_netrclex.get_token" .none .none (.str "cpy313.netrc" 592) (.ref 216)}:=nc (⟨_,rfl⟩)
def YN:{o:aq // o=fI (ml 15 3) "_netrclex.push_token" .none .none (.str "cpy313.netrc" 592) (.ref 223)}:=nc (⟨_,rfl⟩)
def YO:{o:aq // o=fI (jM 17) "_law_rows" .none .none (.str "law_sc0109_01" 652) (.ref 237)}:=nc (⟨_,rfl⟩)
def vc:{o:aq // o=fI (jM 18) "_law_word" .none .none (.str "law_sc0109_01" 652) (.ref 244)}:=nc (⟨_,rfl⟩)
def vd:{o:aq // o=fI (jM 19) "_law_file" .none .none (.str "law_sc0109_01" 652) (.ref 249)}:=nc (⟨_,rfl⟩)
def YP:{o:aq // o=fI (jM 20) "_law_stream" .none .none (.str "law_sc0109_01" 652) (.ref 256)}:=nc (⟨_,rfl⟩)
def sC:{o:aq // o=fI (jM 21) "_law_tell" .none .none (.str "law_sc0109_01" 652) (.ref 261)}:=nc (⟨_,rfl⟩)
def ve:{o:aq // o=fI (jM 22) "_law_due" .none .none (.str "law_sc0109_01" 652) (.ref 266)}:=nc (⟨_,rfl⟩)
def vf:{o:aq // o=fI (jM 23) "law" .none .none (.str "law_sc0109_01" 652) (.ref 271)}:=nc (⟨_,rfl⟩)
noncomputable abbrev eb(s:String)(n:Nat):Str×Nat×Value:=((s:Str),n, .builtin s)
noncomputable abbrev ee(s:String)(n:Nat)(v:ag):Str×Nat×Value:=((s:Str),n,v)
noncomputable abbrev et(s:String)(n:Nat):Str×Nat×Value:=((s:Str),n, .type s)
def M0(p:pg)(c:ag)(l:List (Str×Nat×ag))(n:Nat):Obj:=nc (⟨c,none, .dict (l.map λe=>⟨aS p e.1, .str e.1 e.2.1,e.2.2⟩).toArray n,#[]⟩)
abbrev dO(p:pg)(l:List (Str×Nat×ag))(n:Nat):Obj:=M0 p (.type "dict") l n
def cO(n q:Str)(t:Nat)(l:List Nat)(f h:Nat)(v:List ag)(u:Nat):Obj:=nc (⟨.type "code",none, .fields ([ag.str n t, .str q (t+1), .str "/claim/cut.py" (t+2)]++l.map (λi:Nat=>aRm i 0)++[aN f, .bool true, .int h 0]++v++[aRm u 0, .int (l.headD 0:Nat) 0, .str "/claim/cut.py" (u+1)]).toArray,#[]⟩)
def O0(p:pg):Obj:=dO p [ee "__name__" 1 (.str "builtins" 160),ee "__doc__" 2 (.builtin "builtins.__doc__:str#opaque"),ee "__package__" 3 (.builtin "builtins.__package__:str#opaque"),ee "__loader__" 4 (.builtin "builtins.__loader__:shared#opaque"),ee "__spec__" 5 (.builtin "builtins.__spec__#opaque"),eb "__build_class__" 6,eb "__import__" 7,eb "abs" 8,eb "all" 9,eb "any" 10,eb "ascii" 11,eb "bin" 12,eb "breakpoint" 13,eb "callable" 14,eb "chr" 15,eb "compile" 16,eb "delattr" 17,eb "dir" 18,eb "divmod" 19,eb "eval" 20,eb "exec" 21,eb "format" 22,eb "getattr" 23,eb "globals" 24,eb "hasattr" 25,eb "hash" 26,eb "hex" 27,eb "id" 28,eb "input" 29,eb "isinstance" 30,eb "issubclass" 31,eb "iter" 32,eb "aiter" 33,eb "len" 34,eb "locals" 35,eb "max" 36,eb "min" 37,eb "next" 38,eb "anext" 39,eb "oct" 40,eb "ord" 41,eb "pow" 42,eb "print" 43,eb "repr" 44,eb "round" 45,eb "setattr" 46,eb "sorted" 47,eb "sum" 48,eb "vars" 49,ee "None" 50 .none,ee "Ellipsis" 51 .ellipsis,ee "NotImplemented" 52 .notImplemented,ee "False" 53 (.bool false),ee "True" 54 (.bool true),et "bool" 55,et "memoryview" 56,et "bytearray" 57,et "bytes" 58,et "classmethod" 59,et "complex" 60,et "dict" 61,et "enumerate" 62,et "filter" 63,et "float" 64,et "frozenset" 65,et "property" 66,et "int" 67,et "list" 68,et "map" 69,et "object" 70,et "range" 71,et "reversed" 72,et "set" 73,et "slice" 74,et "staticmethod" 75,et "str" 76,et "super" 77,et "tuple" 78,et "type" 79,et "zip" 80,ee "__debug__" 81 (.bool true),et "BaseException" 82,et "BaseExceptionGroup" 83,et "Exception" 84,et "GeneratorExit" 85,et "KeyboardInterrupt" 86,et "SystemExit" 87,et "ArithmeticError" 88,et "AssertionError" 89,et "AttributeError" 90,et "BufferError" 91,et "EOFError" 92,et "ImportError" 93,et "LookupError" 94,et "MemoryError" 95,et "NameError" 96,et "OSError" 97,et "ReferenceError" 98,et "RuntimeError" 99,et "StopAsyncIteration" 100,et "StopIteration" 101,et "SyntaxError" 102,et "SystemError" 103,et "TypeError" 104,et "ValueError" 105,et "Warning" 106,et "FloatingPointError" 107,et "OverflowError" 108,et "ZeroDivisionError" 109,et "BytesWarning" 110,et "DeprecationWarning" 111,et "EncodingWarning" 112,et "FutureWarning" 113,et "ImportWarning" 114,et "PendingDeprecationWarning" 115,et "ResourceWarning" 116,et "RuntimeWarning" 117,et "SyntaxWarning" 118,et "UnicodeWarning" 119,et "UserWarning" 120,et "BlockingIOError" 121,et "ChildProcessError" 122,et "ConnectionError" 123,et "FileExistsError" 124,et "FileNotFoundError" 125,et "InterruptedError" 126,et "IsADirectoryError" 127,et "NotADirectoryError" 128,et "PermissionError" 129,et "ProcessLookupError" 130,et "TimeoutError" 131,et "IndentationError" 132,et "_IncompleteInputError" 133,et "IndexError" 134,et "KeyError" 135,et "ModuleNotFoundError" 136,et "NotImplementedError" 137,et "PythonFinalizationError" 138,et "RecursionError" 139,et "UnboundLocalError" 140,et "UnicodeError" 141,et "BrokenPipeError" 142,et "ConnectionAbortedError" 143,et "ConnectionRefusedError" 144,et "ConnectionResetError" 145,et "TabError" 146,et "UnicodeDecodeError" 147,et "UnicodeEncodeError" 148,et "UnicodeTranslateError" 149,et "ExceptionGroup" 150,ee "EnvironmentError" 151 (.type "OSError"),ee "IOError" 152 (.type "OSError"),eb "open" 153,ee "quit" 154 (.builtin "builtins.quit#opaque"),ee "exit" 155 (.builtin "builtins.exit#opaque"),ee "copyright" 156 (.builtin "builtins.copyright#opaque"),ee "credits" 157 (.builtin "builtins.credits#opaque"),ee "license" 158 (.builtin "builtins.license#opaque"),ee "help" 159 (.builtin "builtins.help#opaque")] 159
def K(p:pg):Frag:=(nat_lit 2,M0 p .none [ee "\x69mport.loaded._sre" 183 (.bool true),ee "class._frozen_importlib.BuiltinImporter" 185 (.ref 14),ee "watched.\x69mport" 206 (.ref 18),ee "class._frozen_importlib.ModuleSpec" 216 (.ref 22),ee "sys.modules.booked-epoch" 245 (.int (3) 0),ee "\x69mport.later-laid._sre" 270 (.bool true),ee "watched.library" 272 (.ref 27),ee "watched.library-objects" 0 (.str "\x0c" 0),ee "watched.library-deep._sre" 273 (.str "\x04\x00\x00\x0b\x04\x00\x00\x0b\x04\x00\x00\x03\x04\x00\x00\x0b\x08\x04dict\x02" 0)] 9)::
 (nat_lit 3,dO p [ee "__name__" 165 (.str "law_sc0109_01" 652),ee "__doc__" 166 .none,ee "__package__" 167 .none,ee "__loader__" 168 (.builtin "__main__.__loader__#opaque"),ee "__spec__" 169 .none,ee "__annotations__" 170 (.ref 6),ee "__builtins__" 171 (.ref 4),ee "__file__" 173 (.str "/claim/cut.py" 172),ee "__cached__" 174 .none,ee "_sre" 275 (.ref 12),ee "_wall" 288 (.ref 38),ee "_twin_re_1" 328 (.ref 43),ee "_namespace_map" 350 (.ref 44),ee "_raise_serialization_error" 357 (.ref 51),ee "_looks_like_prefix_name" 359 (.ref 52),ee "C14NWriterTarget" 524 (.ref 150),ee "_escape_cdata_c14n" 531 (.ref 161),ee "_escape_attrib_c14n" 538 (.ref 168),ee "rgb_to_hls" 559 (.ref 175),ee "rgb_to_hsv" 577 (.ref 182),ee "hsv_to_rgb" 591 (.ref 189),ee "_netrclex" 651 (.ref 227),ee "_law_rows" 668 (.ref 238),ee "_law_word" 678 (.ref 245),ee "_law_file" 684 (.ref 250),ee "_law_stream" 693 (.ref 257),ee "_law_tell" 699 (.ref 262),ee "_law_due" 705 (.ref 267),ee "law" 711 (.ref 272)] 29)::
 (nat_lit 21,dO p [ee "__module__" 227 (.str "_frozen_importlib" 217),ee "__firstlineno__" 228 (.int (562) 218),ee "__doc__" 229 (.builtin "_frozen_importlib.ModuleSpec.__doc__:str#opaque"),ee "__init__" 230 (.builtin "_frozen_importlib.ModuleSpec.__init__#opaque"),ee "__repr__" 231 (.builtin "_frozen_importlib.ModuleSpec.__repr__#opaque"),ee "__eq__" 232 (.builtin "_frozen_importlib.ModuleSpec.__eq__#opaque"),ee "cached" 233 (.builtin "_frozen_importlib.ModuleSpec.cached#opaque"),ee "parent" 234 (.builtin "_frozen_importlib.ModuleSpec.parent#opaque"),ee "has_location" 235 (.builtin "_frozen_importlib.ModuleSpec.has_location#opaque"),ee "__static_attributes__" 236 (.ref 23),ee "__dict__" 238 (.ref 24),ee "__weakref__" 240 (.ref 25),ee "__hash__" 241 .none] 13)::
 (nat_lit 44,dO p [ee "http://www.w3.org/XML/1998/namespace" 329 (.str "xml" 330),ee "http://www.w3.org/1999/xhtml" 331 (.str "html" 332),ee "http://www.w3.org/1999/02/22-rdf-syntax-ns#" 333 (.str "rdf" 334),ee "http://schemas.xmlsoap.org/wsdl/" 335 (.str "wsdl" 336),ee "http://www.w3.org/2001/XMLSchema" 337 (.str "xs" 338),ee "http://www.w3.org/2001/XMLSchema-instance" 339 (.str "xsi" 340),ee "http://purl.org/dc/elements/1.1/" 341 (.str "dc" 342)] 7)::
 (nat_lit 52,⟨(.type "builtin_function_or_method"),none,(.fields (cE [(.builtin "re.Pattern.match"),(.ref 43)])),#[]⟩)::
 (nat_lit 60,dO p [ee "with_comments" 372 (.bool false),ee "strip_text" 373 (.bool false),ee "rewrite_prefixes" 374 (.bool false),ee "qname_aware_tags" 375 .none,ee "qname_aware_attrs" 376 .none,ee "exclude_attrs" 377 .none,ee "exclude_tags" 378 .none] 7)::
 (nat_lit 66,cO "__init__" "C14NWriterTarget.__init__" 379 [13,2,0,7,3] 61 276 (g7 62) 391)::
 (nat_lit 67,YF.1)::
 (nat_lit 68,⟨(.type "tuple"),none,(.seq (cE [(.type "reversed")]) 0),#[]⟩)::
 (nat_lit 74,cO "_iter_namespaces" "C14NWriterTarget._iter_namespaces" 394 [41,3,0,0,35] 69 276 (g7 70) 401)::
 (nat_lit 75,MX.1)::
 (nat_lit 83,⟨(.type "tuple"),none,(.seq (cE [.none]) 0),#[]⟩)::
 (nat_lit 89,cO "_qname" "C14NWriterTarget._qname" 416 [53,3,0,0,3] 84 276 (g7 85) 426)::
 (nat_lit 90,u5.1)::
 (nat_lit 96,cO "data" "C14NWriterTarget.data" 429 [80,2,0,0,3] 91 276 (g7 92) 434)::
 (nat_lit 97,YG.1)::
 (nat_lit 98,⟨(.type "builtin_function_or_method"),none,(.fields (cE [(.builtin "str.join"),(.str "" 437)])),#[]⟩)::
 (nat_lit 99,⟨(.type "tuple"),none,(.seq (cE [(.ref 98)]) 0),#[]⟩)::
 (nat_lit 105,cO "_flush" "C14NWriterTarget._flush" 439 [84,2,0,0,3] 100 276 (g7 101) 447)::
 (nat_lit 106,u6.1)::
 (nat_lit 112,cO "start_ns" "C14NWriterTarget.start_ns" 450 [98,3,0,0,3] 107 276 (g7 108) 456)::
 (nat_lit 113,YH.1)::
 (nat_lit 119,cO "start" "C14NWriterTarget.start" 459 [105,3,0,0,3] 114 276 (g7 115) 466)::
 (nat_lit 120,u7.1)::
 (nat_lit 121,⟨(.type "tuple"),none,(.seq (cE [.none]) 0),#[]⟩)::
 (nat_lit 125,cO "_start" "C14NWriterTarget._start" 469 [118,5,0,0,3] 122 276 [.ref 123, .none, .none, .none, .ref 124] 472)::
 (nat_lit 126,u8.1)::
 (nat_lit 132,cO "end" "C14NWriterTarget.end" 475 [163,2,0,0,3] 127 276 (g7 128) 480)::
 (nat_lit 133,u9.1)::
 (nat_lit 149,dO p [ee "__module__" 367 (.str "cpy313.xml.etree.ElementTree" 289),ee "__firstlineno__" 371 (.int (11) 370),ee "__init__" 393 (.ref 67),ee "_iter_namespaces" 403 (.ref 75),ee "_resolve_prefix_name" 415 (.ref 82),ee "_qname" 428 (.ref 90),ee "data" 436 (.ref 97),ee "_flush" 449 (.ref 106),ee "start_ns" 458 (.ref 113),ee "start" 468 (.ref 120),ee "_start" 474 (.ref 126),ee "end" 482 (.ref 133),ee "comment" 490 (.ref 140),ee "pi" 499 (.ref 147),ee "__static_attributes__" 517 (.ref 148),ee "__dict__" 519 (.ref 151),ee "__weakref__" 521 (.ref 152),ee "__doc__" 522 .none] 4)::
 (nat_lit 150,⟨(.type "type"),none,(.cls { name:="C14NWriterTarget",bases:=[(.type "object")],mro:=[(.ref 150),(.type "object")],ns:=149,qualname:="C14NWriterTarget",hasDict:=true,slotNames:=[],subclasses:=[],abstract:=false,collection:=none,hasDel:=false }),(cE [none,none,some (.str "C14NWriterTarget" 360),some (.str "C14NWriterTarget" 368),some (.builtin "object.__new__"),some (.bool true)])⟩)::
 (nat_lit 160,cO "_escape_cdata_c14n" "_escape_cdata_c14n" 525 [180,1,0,0,3] 155 276 (g7 156) 529)::
 (nat_lit 161,MY.1)::
 (nat_lit 167,cO "_escape_attrib_c14n" "_escape_attrib_c14n" 532 [193,1,0,0,3] 162 276 (g7 163) 536)::
 (nat_lit 168,MZ.1)::
 (nat_lit 174,cO "rgb_to_hls" "rgb_to_hls" 541 [211,3,0,0,3] 169 276 (g7 170) 557)::
 (nat_lit 175,YI.1)::
 (nat_lit 181,cO "rgb_to_hsv" "rgb_to_hsv" 560 [234,3,0,0,3] 176 276 (g7 177) 575)::
 (nat_lit 182,YJ.1)::
 (nat_lit 188,cO "hsv_to_rgb" "hsv_to_rgb" 578 [253,3,0,0,3] 183 276 (g7 184) 589)::
 (nat_lit 189,YK.1)::
 (nat_lit 202,cO "__init__" "_netrclex.__init__" 606 [277,2,0,0,3] 197 276 (g7 198) 611)::
 (nat_lit 203,YL.1)::
 (nat_lit 209,cO "_read_char" "_netrclex._read_char" 614 [283,1,0,0,3] 204 276 (g7 205) 619)::
 (nat_lit 210,YM.1)::
 (nat_lit 216,cO "get_token" "_netrclex.get_token" 622 [289,1,0,0,3] 211 276 (g7 212) 629)::
 (nat_lit 217,zm.1)::
 (nat_lit 223,cO "push_token" "_netrclex.push_token" 632 [316,2,0,0,3] 218 276 (g7 219) 637)::
 (nat_lit 224,YN.1)::
 (nat_lit 226,dO p [ee "__module__" 601 (.str "cpy313.netrc" 592),ee "__firstlineno__" 605 (.int (275) 604),ee "__init__" 613 (.ref 203),ee "_read_char" 621 (.ref 210),ee "get_token" 631 (.ref 217),ee "push_token" 639 (.ref 224),ee "__static_attributes__" 644 (.ref 225),ee "__dict__" 646 (.ref 228),ee "__weakref__" 648 (.ref 229),ee "__doc__" 649 .none] 4)::
 (nat_lit 227,⟨(.type "type"),none,(.cls { name:="_netrclex",bases:=[(.type "object")],mro:=[(.ref 227),(.type "object")],ns:=226,qualname:="_netrclex",hasDict:=true,slotNames:=[],subclasses:=[],abstract:=false,collection:=none,hasDel:=false }),(cE [none,none,some (.str "_netrclex" 594),some (.str "_netrclex" 602),some (.builtin "object.__new__"),some (.bool true)])⟩)::
 (nat_lit 237,cO "_law_rows" "_law_rows" 654 [319,1,0,0,3] 232 276 (g7 233) 666)::
 (nat_lit 238,YO.1)::
 (nat_lit 244,cO "_law_word" "_law_word" 669 [332,2,0,0,3] 239 276 (g7 240) 676)::
 (nat_lit 245,vc.1)::
 (nat_lit 249,cO "_law_file" "_law_file" 679 [341,1,0,0,3] 246 276 [.ref 247, .none, .none, .none, .ref 248] 682)::
 (nat_lit 250,vd.1)::
 (nat_lit 256,cO "_law_stream" "_law_stream" 685 [351,1,0,0,3] 251 276 (g7 252) 691)::
 (nat_lit 257,YP.1)::
 (nat_lit 261,cO "_law_tell" "_law_tell" 694 [358,6,0,0,3] 258 276 [.ref 259, .none, .none, .none, .ref 260] 697)::
 (nat_lit 262,sC.1)::
 (nat_lit 266,cO "_law_due" "_law_due" 700 [388,2,0,0,3] 263 276 [.ref 264, .none, .none, .none, .ref 265] 703)::
 (nat_lit 267,ve.1)::
 (nat_lit 271,cO "law" "law" 706 [429,1,0,0,3] 268 276 [.ref 269, .none, .none, .none, .ref 270] 709)::
 (nat_lit 272,vf.1)::
 (nat_lit 0,O0 p)::
 (nat_lit 4,⟨.type "module",some 0, .plain,#[]⟩)
 ::[]
abbrev aK(w:aj)(h:aw):Prop:=(K w.params).In h
abbrev Rw:OpenLaw:=aWp
abbrev av(w:aj):Model:=nc (aR Rw.prog w)
def q:Program:=view P [0,23]
def loose:List Str:=nc (["_wall","_twin_re_1","_namespace_map","_raise_serialization_error","_looks_like_prefix_name","C14NWriterTarget","_escape_cdata_c14n","_escape_attrib_c14n","rgb_to_hls","rgb_to_hsv","hsv_to_rgb","_netrclex","_law_rows","_law_word","_law_file","_law_stream","_law_tell","_law_due"])
def sD:DefRec:=sF (oS (jM 23)) ⟨"",⟨[],[],none,[],[],none,[]⟩,[],default,default⟩ λname args body scope pos=>⟨name,args,body,scope,pos⟩
def M1:List Addr:=nc (2::3::21::44::52::60::66::67::68::74::75::83::89::90::96::97::98::99::105::106::112::113::119::120::121::125::126::132::133::149::150::160::161::167::168::174::175::181::182::188::189::202::203::209::210::216::217::223::224::226::227::237::238::244::245::249::250::256::257::261::262::266::267::271::272::0::4::[])
theorem YQ(p:pg):M1=(K p).map (·.1):=by kernel_rfl
abbrev Hk:Hook:=kmHook K M1 YQ [123,247,252,259,264,269]
abbrev Xt:am->Bool:=λs=>xlAt q [] s && recOk (RowW.records Rw.row.toRowW) s
theorem ws:Rw.wellSaid=true:=by kernel_rfl
theorem YR:defOf q "law"=some (sD,[]):=by kernel_rfl
theorem hp:P.theDef "law"=some (sD.params,sD.body,sD.scope):=by kernel_rfl
theorem hk:kwWritten? sD.params.kwonlyargs sD.params.kw_defaults=some []:=by kernel_rfl
theorem ok:(chainsOk q && opensWell Rw.row.prog && (frees Rw.row.toRowW && Rw.row.within.isEmpty))=true:=by kernel_rfl
theorem bare:Rw.row.prog.bare:=⟨rfl,rfl,rfl,rfl,rfl,by decide+kernel⟩
theorem hw:Rw.row.toRowW.promised:=by w_witness2
@[elab_as_elim] theorem rR{α:Sort u}{M:α->Prop}{a b:α}(e:a=b)(h:M b):M a:=e▸h
@[elab_as_elim] theorem rL{α:Sort u}{M:α->Prop}{a b:α}(e:b=a)(h:M b):M a:=e▸h
theorem d7{p1:Prop}(h:p1/\p2)(k:p1->p2->G):G:=k h.1 h.2
theorem cI{p1:Prop}(h:p1/\p2/\p3)(k:p1->p2->p3->G):G:=k h.1 h.2.1 h.2.2
theorem zn{p1:Prop}(h:p1/\p2/\p3/\p4)(k:p1->p2->p3->p4->G):G:=k h.1 h.2.1 h.2.2.1 h.2.2.2
theorem qI{p1 H:Prop}(h:p1/\p2/\p3/\p4/\H)(k:p1->p2->p3->p4->H->G):G:=k h.1 h.2.1 h.2.2.1 h.2.2.2.1 h.2.2.2.2
theorem YS{p1 H J:Prop}(h:p1/\p2/\p3/\p4/\H/\J)(k:p1->p2->p3->p4->H->J->G):G:=k h.1 h.2.1 h.2.2.1 h.2.2.2.1 h.2.2.2.2.1 h.2.2.2.2.2
theorem aO{p1 p2:α->Prop}(h:∃a,p1 a/\p2 a)(k:∀a,p1 a->p2 a->G):G:=h.elim λa h=>k a h.1 h.2
theorem ig{p1 p2 p3:α->Prop}(h:∃a,p1 a/\p2 a/\p3 a)(k:∀a,p1 a->p2 a->p3 a->G):G:=h.elim λa h=>k a h.1 h.2.1 h.2.2
theorem Gv{p1 p2 p3 p4:α->Prop}(h:∃a,p1 a/\p2 a/\p3 a/\p4 a)(k:∀a,p1 a->p2 a->p3 a->p4 a->G):G:=h.elim λa h=>k a h.1 h.2.1 h.2.2.1 h.2.2.2
theorem M2{p1 p2 p3 p4 H:α->Prop}(h:∃a,p1 a/\p2 a/\p3 a/\p4 a/\H a)(k:∀a,p1 a->p2 a->p3 a->p4 a->H a->G):G:=h.elim λa h=>k a h.1 h.2.1 h.2.2.1 h.2.2.2.1 h.2.2.2.2
theorem M4{p1 p2 p3 p4 H J:α->Prop}(h:∃a,p1 a/\p2 a/\p3 a/\p4 a/\H a/\J a)(k:∀a,p1 a->p2 a->p3 a->p4 a->H a->J a->G):G:=h.elim λa h=>k a h.1 h.2.1 h.2.2.1 h.2.2.2.1 h.2.2.2.2.1 h.2.2.2.2.2
theorem YT{p1 p2 p3 p4 H X Z Y J:α->Prop}(h:∃a,p1 a/\p2 a/\p3 a/\p4 a/\H a/\X a/\Z a/\Y a/\J a)(k:∀a,p1 a->p2 a->p3 a->p4 a->H a->X a->Z a->Y a->J a->G):G:=h.elim λa h=>k a h.1 h.2.1 h.2.2.1 h.2.2.2.1 h.2.2.2.2.1 h.2.2.2.2.2.1 h.2.2.2.2.2.2.1 h.2.2.2.2.2.2.2.1 h.2.2.2.2.2.2.2.2
theorem vg{p1:α->β->Prop}(h:∃a b,p1 a b)(k:∀a b,p1 a b->G):G:=h.elim λa h=>h.elim λb h=>k a b h
theorem c7{p1 p2:α->β->Prop}(h:∃a b,p1 a b/\p2 a b)(k:∀a b,p1 a b->p2 a b->G):G:=h.elim λa h=>h.elim λb h=>k a b h.1 h.2
theorem lp{p1 p2 p3:α->β->Prop}(h:∃a b,p1 a b/\p2 a b/\p3 a b)(k:∀a b,p1 a b->p2 a b->p3 a b->G):G:=h.elim λa h=>h.elim λb h=>k a b h.1 h.2.1 h.2.2
theorem Gw{p1 p2 p3 p4:α->β->Prop}(h:∃a b,p1 a b/\p2 a b/\p3 a b/\p4 a b)(k:∀a b,p1 a b->p2 a b->p3 a b->p4 a b->G):G:=h.elim λa h=>h.elim λb h=>k a b h.1 h.2.1 h.2.2.1 h.2.2.2
theorem YU{p1 p2 p3 p4 H J:α->β->Prop}(h:∃a b,p1 a b/\p2 a b/\p3 a b/\p4 a b/\H a b/\J a b)(k:∀a b,p1 a b->p2 a b->p3 a b->p4 a b->H a b->J a b->G):G:=h.elim λa h=>h.elim λb h=>k a b h.1 h.2.1 h.2.2.1 h.2.2.2.1 h.2.2.2.2.1 h.2.2.2.2.2
theorem YV{p1 p2 p3 p4 J Y p7 Z X H:α->β->Prop}(h:∃a b,p1 a b/\p2 a b/\p3 a b/\p4 a b/\J a b/\Y a b/\p7 a b/\Z a b/\X a b/\H a b)(k:∀a b,p1 a b->p2 a b->p3 a b->p4 a b->J a b->Y a b->p7 a b->Z a b->X a b->H a b->G):G:=h.elim λa h=>h.elim λb h=>k a b h.1 h.2.1 h.2.2.1 h.2.2.2.1 h.2.2.2.2.1 h.2.2.2.2.2.1 h.2.2.2.2.2.2.1 h.2.2.2.2.2.2.2.1 h.2.2.2.2.2.2.2.2.1 h.2.2.2.2.2.2.2.2.2
theorem YW{p1 p2 p3 p4 J Z p7 p8 X H M5 Y:α->β->Prop}(h:∃a b,p1 a b/\p2 a b/\p3 a b/\p4 a b/\J a b/\Z a b/\p7 a b/\p8 a b/\X a b/\H a b/\M5 a b/\Y a b)(k:∀a b,p1 a b->p2 a b->p3 a b->p4 a b->J a b->Z a b->p7 a b->p8 a b->X a b->H a b->M5 a b->Y a b->G):G:=h.elim λa h=>h.elim λb h=>k a b h.1 h.2.1 h.2.2.1 h.2.2.2.1 h.2.2.2.2.1 h.2.2.2.2.2.1 h.2.2.2.2.2.2.1 h.2.2.2.2.2.2.2.1 h.2.2.2.2.2.2.2.2.1 h.2.2.2.2.2.2.2.2.2.1 h.2.2.2.2.2.2.2.2.2.2.1 h.2.2.2.2.2.2.2.2.2.2.2
theorem mX{p1 p2:α->β->γ->Prop}(h:∃a b c,p1 a b c/\p2 a b c)(k:∀a b c,p1 a b c->p2 a b c->G):G:=h.elim λa h=>h.elim λb h=>h.elim λc h=>k a b c h.1 h.2
theorem M7{p1 p2 p3:α->β->γ->Prop}(h:∃a b c,p1 a b c/\p2 a b c/\p3 a b c)(k:∀a b c,p1 a b c->p2 a b c->p3 a b c->G):G:=h.elim λa h=>h.elim λb h=>h.elim λc h=>k a b c h.1 h.2.1 h.2.2
theorem Cf{p1 p2 p3 p4:α->β->γ->Prop}(h:∃a b c,p1 a b c/\p2 a b c/\p3 a b c/\p4 a b c)(k:∀a b c,p1 a b c->p2 a b c->p3 a b c->p4 a b c->G):G:=h.elim λa h=>h.elim λb h=>h.elim λc h=>k a b c h.1 h.2.1 h.2.2.1 h.2.2.2
theorem YX{p1:α->β->γ->δ->Prop}(h:∃a b c d,p1 a b c d)(k:∀a b c d,p1 a b c d->G):G:=h.elim λa h=>h.elim λb h=>h.elim λc h=>h.elim λd h=>k a b c d h
theorem M8{p1 p2:α->β->γ->δ->Prop}(h:∃a b c d,p1 a b c d/\p2 a b c d)(k:∀a b c d,p1 a b c d->p2 a b c d->G):G:=h.elim λa h=>h.elim λb h=>h.elim λc h=>h.elim λd h=>k a b c d h.1 h.2
theorem YY{p1 p2 p3 p4 H J Y X:α->β->γ->δ->Prop}(h:∃a b c d,p1 a b c d/\p2 a b c d/\p3 a b c d/\p4 a b c d/\H a b c d/\J a b c d/\Y a b c d/\X a b c d)(k:∀a b c d,p1 a b c d->p2 a b c d->p3 a b c d->p4 a b c d->H a b c d->J a b c d->Y a b c d->X a b c d->G):G:=h.elim λa h=>h.elim λb h=>h.elim λc h=>h.elim λd h=>k a b c d h.1 h.2.1 h.2.2.1 h.2.2.2.1 h.2.2.2.2.1 h.2.2.2.2.2.1 h.2.2.2.2.2.2.1 h.2.2.2.2.2.2.2
theorem YZ{H:Type}{p1:α->β->γ->δ->H->Prop}(h:∃a b c d e,p1 a b c d e)(k:∀a b c d e,p1 a b c d e->G):G:=h.elim λa h=>h.elim λb h=>h.elim λc h=>h.elim λd h=>h.elim λe h=>k a b c d e h
theorem Y7{H:Type}{p1 p2:α->β->γ->δ->H->Prop}(h:∃a b c d e,p1 a b c d e/\p2 a b c d e)(k:∀a b c d e,p1 a b c d e->p2 a b c d e->G):G:=h.elim λa h=>h.elim λb h=>h.elim λc h=>h.elim λd h=>h.elim λe h=>k a b c d e h.1 h.2
theorem Y8{a b:Nat}(h:a - b+(b - a)<=0):a=b:=c8 (aRn (aRo (aE (fF ..) h))) (aRn (aRo (aE (dF ..) h)))
theorem o1{e:Int}(H:e>=0):(e+1074).toNat=e.toNat+1074:=aRp H (by decide)
theorem o3(x:Nat):x - x+(x - x)=0:=congrArg (λz=>z+z) (Nat.sub_self x)
theorem o5{v c:Nat}(h:v<=(2 ^ 53 - 1)*c)(p:0< c):2*v<(2 ^ 54 - 1)*c:=iH (dT 2 h) (rL (i9 ..) (yT (by decide) p))
theorem o6{l:Nat}(H:52<=j):52 - l+(j - (52 - l))=j:=FB (aE (nK ..) H)
theorem o7{l:Nat}(h:l<=52):l+1+(52 - l)=53:=rR (Nat.add_right_comm ..) (rR (FB h ..) rfl)
theorem Y9(H:z< 0): -(z.natAbs:Int)=z:=rR (aRq (gh H) ..) (rR (Int.neg_neg ..) rfl)
theorem Za(H:a+b=0):¬a< 0\/¬b< 0:=(aRr _).elim (λh=> .inr λh'=>WB (Int.add_lt_add h h') H) .inl
theorem Zb{e:Int}(h: -1074<=e)(H:¬e>=0):(-e).toNat+(e+1074).toNat=1074:=by refine rL (aRp (Int.neg_nonneg_of_nonpos (gh (wP.mp H))) (aRs h 1074) ..) (rL (L0 ..) (rR (Int.add_left_neg ..) ?_));rfl
theorem Zc(h:j+k<=n):n - j+(n - k)=n - (j+k)+n:=by exact(congrArg (· +_) (bX (L1 h)).symm).trans ((L2 ..).trans (rR (FB (aE (dF ..) h) ..) (rR (aRt ..) rfl)))
theorem Zd{i:Nat}(h:k+i<=n):i+(n - (k+i))=n - k:=rR (aRt ..) (rR (FB (L1 h) ..) rfl)
theorem m3{c m x:Int}(h:m=a\/m=b\/m=c)(J:x<=a)(X:x<=b)(Y:x<=c)(H:m<=x):m=x:=bw H (h.elim (λe=>e▸J) (λh=>h.elim (λe=>e▸X) λe=>e▸Y))
theorem M3{c m x:Int}(h:m=a\/m=b\/m=c)(J:a<=x)(X:b<=x)(Y:c<=x)(H:x<=m):m=x:=bw (h.elim (λe=>e▸J) (λh=>h.elim (λe=>e▸X) λe=>e▸Y)) H
theorem Ze{c m:Int}(h:m=a\/m=b\/m=c)(H:a<=m)(J:b<=m)(X:c<=m):max (max a b) c=m:=bw (aRu.mpr ⟨aRu.mpr ⟨H,J⟩,X⟩) (h.elim (λe=>e▸kU (WC ..) (WC ..)) (λh=>h.elim (λe=>e▸kU (aRv ..) (WC ..)) λe=>e▸aRv ..))
theorem Zf{c m:Int}(h:m=a\/m=b\/m=c)(H:m<=a)(J:m<=b)(X:m<=c):min (min a b) c=m:=bw (h.elim (λe=>e▸kU (L5 ..) (L5 ..)) (λh=>h.elim (λe=>e▸kU (L5 ..) (aRw ..)) λe=>e▸aRw ..)) (WE.mpr ⟨WE.mpr ⟨H,J⟩,X⟩)
theorem M9{x c:Nat}(h:x<=c):min (x:Int) (c - x)=((min x (c - x):Nat):Int):=rL (ph h) ((WF x _).elim (λq=>by rw[r5 q,BF (bK.mpr q)]) λq=>by rw[FC q,L6 (bK.mpr q)])
theorem Na{L:Nat}(H:j<=L)(J:k<=j):L - j+(L - (L - j) - k)=L - k:=rR (aRx H) (Nat.sub_add_sub_cancel H J)
theorem Zg{P:Nat}{t:Int}(h:0<=t):((P:Int)+t) % 64=(((P+t.toNat) % 64:Nat):Int):=by rw[Int.natCast_emod,aRy,mR h];rfl
theorem Nb{L:Nat}{d:Int}(H:1<=d)(h:d<=L):((L - (L - d.toNat):Nat):Int)=d:=rR (aRx (aRz.mpr h)) (mR (kU (by decide) H))
theorem s1{m:Nat}(h:n<=m):m+1 - n=m+1 - (n+1)+1:=(WG h).trans (congrArg _ (Nat.succ_sub_succ m n).symm)
theorem f3{P:Int->Prop}(h:∀n< 3,P (n:Nat)){x:Int}(H:0<=x/\x< 3):P x:=mR H.1▸h x.toNat ((Int.toNat_lt H.1).mpr H.2)
theorem Zh:∀{a:Int},0<=a/\a< 3->∀{b:Int},0<=b/\b< 3->min (min 0 (1+a)+1) (1+b)=1:=by refine f3 (P:=λa=>∀{b:Int},0<=b/\b< 3->min (min 0 (1+a)+1) (1+b)=1) λn H=>f3 (P:=λb=>min _ _=1) λm H=>?_;revert n m;decide
theorem Nc:∀{a:Int},0<=a/\a< 3->∀{b:Int},0<=b/\b< 3->∀{c:Int},0<=c/\c< 3->1<=min (min (min 0 (1+a)+1) (1+b)+1) (1+c)/\min (min (min 0 (1+a)+1) (1+b)+1) (1+c)<=2:=by refine f3 (P:=λa=>∀{b:Int},0<=b/\b< 3->∀{c:Int},0<=c/\c< 3->1<=min (min (min 0 (1+a)+1) (1+b)+1) (1+c)/\min (min (min 0 (1+a)+1) (1+b)+1) (1+c)<=2) λn H=>f3 (P:=λb=>∀{c:Int},0<=c/\c< 3->1<=min (min _ (1+b)+1) (1+c)/\min (min _ (1+b)+1) (1+c)<=2) λm H=>f3 (P:=λc=>1<=min _ _/\min _ _<=2) λk H=>?_;revert n m k;decide
theorem Zi{m:Int}(h:1<=m){d:Int}(hd:0<=d/\d< 3):1<=min (m+1) (1+d)/\min (m+1) (1+d)<=m+1:=⟨WE.mpr ⟨kU (by decide) (aRs h 1),Int.add_le_add_left hd.1 1⟩,L5 ..⟩
theorem sG{x c:Int}:x+(a - c)=x+(a - b)+(b - c):=by rw[L0,<-aR0 (a - b),Int.sub_add_cancel]
theorem z0(H:0<=a)(J:0<=b)(h:¬(0< a/\0< b)):a=0\/b=0:=(aRr _).elim (λq=> .inr (bw (fG.mp λr=>h ⟨q,r⟩) J)) λq=> .inl (bw (fG.mp q) H)
theorem Ci{c:Prop}[Decidable c]{x m:Int}(X:0<=x)(J:x<=m)(H:0<=m):0<=(if c then x else 0)/\(if c then x else 0)<=m:=by
 by_cases h:c;·rw[if_pos h];exact⟨X,J⟩
 ·rw[if_neg h];exact⟨fv _,H⟩
theorem hO{P:Prop}(h:∀G:Prop,(P->G)->G):P:=h P id
inductive Ax where
 |v (i:Nat)
 |n (k:Nat)
 |a (x y:Ax)
 |s (x y:Ax)
 |m (k:Nat) (x:Ax)
noncomputable instance:Add Ax:=⟨.a⟩
noncomputable instance:Sub Ax:=⟨.s⟩
noncomputable instance(k:Nat):OfNat Ax k:=⟨.n k⟩
noncomputable abbrev Y0:Ax:= .v 0
noncomputable abbrev Y1:Ax:= .v 1
noncomputable abbrev Y2:Ax:= .v 2
noncomputable abbrev Y3:Ax:= .v 3
abbrev Y4:Ax:=nc (.v 4)
abbrev Y5:Ax:=nc (.v 5)
abbrev Y6:Ax:=nc (.v 6)
def ke:List Int->List Int->List Int
 |[],q=>q|p,[]=>p|a::p,b::q=>(a+b)::ke p q
def mY(k:Int)(p:List Int):List Int:=nc (p.map (k*·))
noncomputable def Gx:Nat->List Int
 |0=>[1]|n+1=>0::Gx n
def Ax.p:Ax->List Int
 | .v i=>0::Gx i| .n k=>[(k:Int)]| .a x y=>ke x.p y.p| .s x y=>ke x.p (mY (-1) y.p)| .m k x=>mY k x.p
noncomputable def kg(d:α):List α->Nat->α
 |[],_=>d|x::_,0=>x|_::l,n+1=>kg d l n
noncomputable def dK(x:Nat->Int):Nat->List Int->Int
 |_,[]=>0|i,a::p=>a*x i+dK x (i+1) p
theorem sI(x:Nat->Int):∀(i:Nat)(p q:List Int),dK x i (ke p q)=dK x i p+dK x i q
 |i,[],q=>(WH _).symm|i,a::p,[]=>(uJ _).symm|i,a::p,b::q=>by
  show _*x i+dK x _ _=(a*x i+dK x _ p)+(b*x i+dK x _ q)
  simp only[sI x _ p q,WI,L0,L0,Int.add_left_comm (b*x i)]
theorem sJ(x:Nat->Int)(k:Int):∀(i:Nat)(p:List Int),dK x i (mY k p)=k*dK x i p
 |i,[]=>(yU k).symm|i,a::p=>by show k*a*x i+dK x _ (mY k p)=k*(a*x i+dK x _ p);simp only[sJ x k _ p,Int.mul_add,pi]
theorem Nd(x:Nat->Int):∀n i:Nat,dK x i (Gx n)=x (i+n)
 |0,i=>by show 1*x i+0=x i;rw[L7,uJ]
 |n+1,i=>by show 0*x i+dK x _ _=x _;simp only[Nd x n _,BH,WH,L2,L8 1]
def Ax.e(l:List Int):Ax->Int
 | .v i=>kg 0 l i| .n k=>k| .a x y=>x.e l+y.e l| .s x y=>x.e l - y.e l| .m k x=>k*x.e l
theorem qJ(l:List Int):∀t:Ax,t.e l=dK (kg 0 (1::l)) 0 t.p
 | .v i=>by show kg 0 l i=0*1+dK _ 1 _;simp only[Nd,L8 1 i,BH,WH];rfl
 | .n k=>by show(k:Int)=k*1+0;rw[FE,uJ]
 | .a x y=>by show x.e l+y.e l=dK _ 0 (ke x.p y.p);simp only[sI,qJ l x,qJ l y]
 | .s x y=>by show x.e l - y.e l=dK _ 0 (ke x.p _);simp only[sI,sJ,qJ l x,qJ l y,WJ,L7];rfl
 | .m k x=>by show k*x.e l=dK _ 0 (mY k x.p);simp only[sJ,qJ l x]
structure be where
 k:Nat
 l:Ax
 r:Ax
noncomputable abbrev lE:=be.mk 0
noncomputable abbrev lL:=be.mk 1
noncomputable abbrev eQ:=be.mk 2
def be.d(l:List Int)(w:be):Prop:=match w.k with
 |0=>w.l.e l<=w.r.e l|1=>w.l.e l< w.r.e l|_=>w.l.e l=w.r.e l
def be.v(w:be):List Int:=ke (ke w.r.p (mY (-1) w.l.p)) [match w.k with|1=> -1|_=>0]
def be.w(w:be):List Int:=ke (ke w.l.p (mY (-1) w.r.p)) [match w.k with|0=> -1|_=>0]
variable {w:aj}
def fy(d:α->Prop):List α->Prop->Prop
 |[],g=>g|r::rs,g=>d r->fy d rs g
def Cj:List be->List Int->List Int->List Int
 |[],_,c=>c|r::rs,ms,c=>Cj rs ms.tail (ke c (mY (ms.headD 0) r.v))
noncomputable def zp:List be->List Int->Bool
 |[],_=>true|r::rs,ms=>(yV 2 r.k||decide (0<=ms.headD 0)) && zp rs ms.tail
theorem Zj{l:List Int}{r:be}(h:r.d l):0<=dK (kg 0 (1::l)) 0 r.v/\(2<=r.k->dK (kg 0 (1::l)) 0 r.v=0):=by
 obtain⟨k,a,b⟩:=r;have e:∀c:Int,dK (kg 0 (1::l)) 0 (ke (ke b.p (mY (-1) a.p)) [c])=b.e l - a.e l+c:=λc=>by simp only[sI,sI,sJ,<-qJ,<-qJ];show _+_+(c*1+0)=_;simp only[FE,uJ,WJ,L7];rfl
 match k,h with
 |0,h=>exact⟨le_of_le_of_eq (WK (L9 h) (fv 0)) (e 0).symm,λh=>absurd (show 2<=0 from h) (by decide)⟩|1,h=>exact⟨le_of_le_of_eq (L9 (aR1 h)) (e (-1)).symm,λh=>absurd (show 2<=1 from h) (by decide)⟩|k+2,h=>have z:=e 0;simp only[show a.e l=b.e l from h,Int.sub_self]at z;exact⟨Int.le_of_eq z.symm,λj=>z⟩
theorem Gy{l:List Int}{g:Prop}:∀(J:List be)(H:List Int)(c:List Int),zp J H=true->(0<=dK (kg 0 (1::l)) 0 (Cj J H c)->g)->0<=dK (kg 0 (1::l)) 0 c->fy (be.d l) J g
 |[],_,c,_,k,h=>k h|r::rs,H,c,p,k,h=>λX=>by
  simp only[zp,gw]at p;refine Gy rs H.tail _ p.2 k ?_;rw[sI,sJ];obtain⟨a,b⟩:=Zj X;refine WK h ?_;rcases aR2.mp p.1 with q|q
  ·simp only[b (dh q),yU];exact fv 0
  ·exact lZ (of_decide_eq_true q) a
noncomputable def Gz:List Int->Bool
 |[]=>false|c::p=>decide (c< 0) && p.all (· ==0)
theorem Zk{x:Nat->Int}(H:x 0=1):∀p,Gz p=true->¬0<=dK x 0 p
 |[],h=>nomatch h|c::p,h=>λk=>by
  simp only[Gz,gw]at h;have z:∀(i:Nat)(p:List Int),p.all (· ==0)=true->dK x i p=0:=λi p=>by
   induction p generalizing i with
   |nil=>exact λj=>rfl|cons a p ih=>intro q;simp only[WL,gw]at q;show a*x i+dK x _ p=0;rw[ih _ q.2,eq_of_beq q.1,BH];rfl
  have:=of_decide_eq_true h.1;have e:dK x 0 (c::p)=c:=by show c*x 0+dK x 1 p=c;simp only[z 1 p h.2,H,FE,uJ]
  rw[e]at k;exact wP.mpr this k
theorem Nf{l:List Int}{r:be}(H:r.k< 2)(h:¬r.d l):0<=dK (kg 0 (1::l)) 0 r.w:=by
 obtain⟨k,a,b⟩:=r;have e:∀c:Int,dK (kg 0 (1::l)) 0 (ke (ke a.p (mY (-1) b.p)) [c])=a.e l - b.e l+c:=λc=>by simp only[sI,sI,sJ,<-qJ,<-qJ];show _+_+(c*1+0)=_;simp only[FE,uJ,WJ,L7];rfl
 match k,h,H with
 |0,h,_=>exact le_of_le_of_eq (L9 (aR1 (wP.mp h))) (e (-1)).symm|1,h,_=>exact le_of_le_of_eq (WK (L9 (fG.mp h)) (fv 0)) (e 0).symm
theorem Ck{d:α->Prop}{p q:Prop}(h:p->q):∀H:List α,fy d H p->fy d H q
 |[],k=>h k|_::H,k=>λr=>Ck h H (k r)
def nS(H:List be)(g:be)(J:List Int)(m:Int):Bool:=FF g.k 2 && (decide (0<=m) && (zp H J && Gz (Cj H J (mY m g.w))))
theorem iA(l:List Int)(H:List be)(g:be)(J:List Int)(m:Int)(h:nS H g J m=true):fy (be.d l) H (g.d l):=by
 simp only[nS,gw,gw,gw]at h;obtain⟨h0,Z,X,Y⟩:=h;refine aR3 λk=>k ?_;by_cases q:g.d l
 ·exact Ck (p:=True) (λj=>q) H (by
   clear X Y k;induction H with
   |nil=>trivial|cons _ _ ih=>exact λj=>ih)
 ·refine Gy H J _ X (λz=>absurd z (Zk rfl _ Y)) ?_;rw[sJ];exact lZ (of_decide_eq_true Z) (Nf (dh h0) q)
def Ax.en(l:List Nat):Ax->Nat
 | .v i=>kg 0 l i| .n k=>k| .a x y=>x.en l+y.en l| .s x y=>x.en l - y.en l| .m k x=>k*x.en l
noncomputable def Ax.ns:Ax->Bool
 | .a x y=>x.ns && y.ns| .s _ _=>false| .m _ x=>x.ns|_=>true
theorem Ng:∀(l:List Nat)(i:Nat),((kg 0 l i:Nat):Int)=kg 0 (l.map λa:Nat=>(a:Int)) i
 |[],_=>rfl|_::_,0=>rfl|_::l,i+1=>Ng l i
theorem zq(l:List Nat):∀t:Ax,t.ns=true->((t.en l:Nat):Int)=t.e (l.map λa:Nat=>(a:Int))
 | .v i,_=>Ng l i| .n k,_=>rfl| .a x y,h=>by have h:=Ma.mp h;show((x.en l+y.en l:Nat):Int)=_;simp only[aRy,zq l x h.1,zq l y h.2];rfl
 | .s x y,h=>nomatch h| .m k x,h=>by show((k*x.en l:Nat):Int)=_;simp only[aR4,zq l x h];rfl
def be.dn(l:List Nat)(w:be):Prop:=match w.k with
 |0=>w.l.en l<=w.r.en l|1=>w.l.en l< w.r.en l|_=>w.l.en l=w.r.en l
def be.ns(w:be):Bool:=nc (w.l.ns && w.r.ns)
variable {ns:List Int}
theorem Nh{l:List Nat}{w:be}(h:w.ns=true):w.dn l ↔ w.d (l.map λa:Nat=>(a:Int)):=by
 obtain⟨k,a,b⟩:=w;have h:=Ma.mp h;have H:=zq l a h.1;have J:=zq l b h.2;match k with
 |0=>show a.en l<=b.en l ↔ a.e _<=b.e _;rw[<-H,<-J];exact bK.symm|1=>show a.en l< b.en l ↔ a.e _< b.e _;rw[<-H,<-J];exact cb.symm|k+2=>show a.en l=b.en l ↔ a.e _=b.e _;simp only[<-H,<-J];exact Int.natCast_inj.symm
noncomputable def GA:List Int->Bool
 |[]=>false|c::p=>decide (c< 0) && p.all (decide<|· <=0)
theorem Zl{x:Nat->Int}(J:x 0=1)(hn:∀i,0<=x i):∀p,GA p=true->¬0<=dK x 0 p
 |[],h=>nomatch h|c::p,h=>λk=>by
  simp only[GA,gw]at h;have z:∀(i:Nat)(p:List Int),p.all _=true->dK x i p<=0:=λi p=>by
   induction p generalizing i with
   |nil=>exact λj=>fv 0|cons a p ih=>intro q;simp only[WL,gw]at q;exact Int.add_nonpos (Int.mul_nonpos_of_nonpos_of_nonneg (of_decide_eq_true q.1) (hn i)) (ih _ q.2)
  have H:0<=c*x 0+dK x 1 p:=k;rw[J,FE]at H;have:=Int.add_lt_add_of_lt_of_le (of_decide_eq_true h.1) (z 1 p h.2);exact absurd H (wP.mpr this)
theorem Ni:∀(l:List Nat)(i:Nat),0<=kg (0:Int) (1::l.map λa:Nat=>(a:Int)) i
 |_,0=>show _<=1 by decide
 |[],_+1=>fv 0|a::l,1=>bG a|_::l,i+2=>Ni l (i+1)
theorem Nj{d e:α->Prop}{p:Prop}:∀H:List α,(∀r∈H,e r->d r)->fy d H p->fy e H p
 |[],_,k=>k|r::H,h,k=>λq=>Nj H (λr H=>h r (aB H)) (k (h r az q))
def nT(H:List be)(g:be)(J:List Int)(m:Int):Bool:=FF g.k 2 && (decide (0<=m) && (zp H J && (GA (Cj H J (mY m g.w)) && (g.ns && H.all be.ns))))
theorem nA(l:List Nat)(H:List be)(g:be)(J:List Int)(m:Int)(h:nT H g J m=true):fy (be.dn l) H (g.dn l):=by
 simp only[nT,gw]at h;obtain⟨h0,h1,X,Z,h4,Y⟩:=h;refine Nj H (λr hr=>(Nh (r6.mp Y r hr)).mp) ?_;refine Ck (Nh h4).mpr H ?_;refine aR3 λk=>k ?_;by_cases q:g.d (l.map λa:Nat=>(a:Int))
 ·exact Ck (p:=True) (λj=>q) H (by
   clear X Z Y k;induction H with
   |nil=>trivial|cons _ _ ih=>exact λj=>ih)
 ·refine Gy H J _ X (λz=>absurd z (Zl rfl (Ni l) _ Z)) ?_;rw[sJ];exact lZ (of_decide_eq_true h1) (Nf (dh h0) q)
theorem nB(l:List Nat)(H:List be)(g:be)(h:nT H g (H.map λ_=>1) 1=true):fy (be.dn l) H (g.dn l):=nA l H g _ 1 h
theorem iB(l:List Int)(H:List be)(g:be)(h:nS H g (H.map λ_=>1) 1=true):fy (be.d l) H (g.d l):=iA l H g _ 1 h
theorem g8(H:List be)(g:be)(J:List Int)(m:Int)(h:nS H g J m=true):fy (be.d [a]) H (g.d [a]):=iA [a] H g J m h
theorem cN(H:List be)(g:be)(J:List Int)(m:Int)(h:nS H g J m=true):fy (be.d [a,b]) H (g.d [a,b]):=iA [a,b] H g J m h
theorem jN{c:Int}(H:List be)(g:be)(J:List Int)(m:Int)(h:nS H g J m=true):fy (be.d [a,b,c]) H (g.d [a,b,c]):=iA [a,b,c] H g J m h
theorem Zm{c d:Int}(H:List be)(g:be)(J:List Int)(m:Int)(h:nS H g J m=true):fy (be.d [a,b,c,d]) H (g.d [a,b,c,d]):=iA [a,b,c,d] H g J m h
theorem bf(H:List be)(g:be)(h:nS H g (H.map λz=>1) 1=true):fy (be.d [a]) H (g.d [a]):=iB [a] H g h
theorem bR(H:List be)(g:be)(h:nS H g (H.map λz=>1) 1=true):fy (be.d [a,b]) H (g.d [a,b]):=iB [a,b] H g h
theorem g9{c:Int}(H:List be)(g:be)(h:nS H g (H.map λz=>1) 1=true):fy (be.d [a,b,c]) H (g.d [a,b,c]):=iB [a,b,c] H g h
theorem Cm{c d:Int}(H:List be)(g:be)(h:nS H g (H.map λz=>1) 1=true):fy (be.d [a,b,c,d]) H (g.d [a,b,c,d]):=iB [a,b,c,d] H g h
theorem qM{a:Nat}(H:List be)(g:be)(J:List Int)(m:Int)(h:nT H g J m=true):fy (be.dn [a]) H (g.dn [a]):=nA [a] H g J m h
theorem fz{a b:Nat}(H:List be)(g:be)(J:List Int)(m:Int)(h:nT H g J m=true):fy (be.dn [a,b]) H (g.dn [a,b]):=nA [a,b] H g J m h
theorem cz{a b c:Nat}(H:List be)(g:be)(J:List Int)(m:Int)(h:nT H g J m=true):fy (be.dn [a,b,c]) H (g.dn [a,b,c]):=nA [a,b,c] H g J m h
theorem lq{a b c d:Nat}(H:List be)(g:be)(J:List Int)(m:Int)(h:nT H g J m=true):fy (be.dn [a,b,c,d]) H (g.dn [a,b,c,d]):=nA [a,b,c,d] H g J m h
theorem bu{a:Nat}(H:List be)(g:be)(h:nT H g (H.map λz=>1) 1=true):fy (be.dn [a]) H (g.dn [a]):=nB [a] H g h
theorem aT{a b:Nat}(H:List be)(g:be)(h:nT H g (H.map λz=>1) 1=true):fy (be.dn [a,b]) H (g.dn [a,b]):=nB [a,b] H g h
theorem b7{a b c:Nat}(H:List be)(g:be)(h:nT H g (H.map λz=>1) 1=true):fy (be.dn [a,b,c]) H (g.dn [a,b,c]):=nB [a,b,c] H g h
theorem qN{a b c d:Nat}(H:List be)(g:be)(h:nT H g (H.map λz=>1) 1=true):fy (be.dn [a,b,c,d]) H (g.dn [a,b,c,d]):=nB [a,b,c,d] H g h
theorem mZ{x:Int}(h: -9007199254740991<=x)(k:x<=9007199254740991):x.natAbs< 2 ^ 53:=by
 rcases Int.le_total 0 x with z|z
 ·exact cb.mp (by rw[FH z];exact jE k (by decide))
 ·exact cb.mp (by rw[aRq z];exact jE (Int.neg_le_of_neg_le h) (by decide))
theorem ii{x:Int}(J:0<=x)(H:x<=100000000):x.natAbs< 2 ^ 53:=cb.mp (by rw[FH J];exact jE H (by decide))
section
open PySem PySem.Float64
def Is(x:UInt64)(z:Int):Prop:=∃t,t< infMag/\x=pack (decide (z< 0)) t/\V t=z.natAbs
def Rep(z:Int):Prop:=∃t,t< infMag/\V t=z.natAbs
theorem Is.dec{x:UInt64}(h:Is x z):∃m e,decode x= .fin (decide (z< 0)) m e/\m*2 ^ (e+1074).toNat=z.natAbs:=by refine ig h λt Z H Y=>?_;subst H;obtain⟨m,e,J,X⟩:=decode_pack _ Z;exact⟨m,e,J,X.trans Y⟩
theorem Is.val{x:UInt64}(h:Is x z):Float64.val x=z:=by
 refine ig h λt X H J=>?_;subst H;rw[val_pack _ X,J];unfold sgn;by_cases H:z< 0;·simp[H];exact Y9 H
 ·simp[H];exact FH (fG.mp H)
theorem Nk{t u:Nat}(h:V t=V u):t=u:=by
 rcases Nat.lt_trichotomy t u with l|l|l
 ·exact absurd h (du (V_lt l))
 ·exact l
 ·exact absurd h.symm (du (V_lt l))
theorem Is.inj{x:UInt64}(h:Is x z)(h':Is y z):x=y:=by refine ig h λt j H X=>?_;subst H;refine ig h' λu j J Y=>?_;subst J;exact rR (Nk (X.trans Y.symm)) rfl
theorem Zn{t:Nat}(h:t< infMag):V t<=(2 ^ 53 - 1)*2 ^ 2045:=by have H:infMag=2047*2 ^ 52:=rfl;have:=V_mono (t':=2045*2 ^ 52+(2 ^ 53 - 1)) (FI h);rwa [V_at (by decide) (.inl (by decide))]at this
theorem Cn{r:UInt64}{H:Bool}{W D t:Nat}(R:Right r H W D)(Z:t< infMag)(J:W=D*V t)(Y:0< D):r=pack H t:=by
 refine Gv R λu X hu zr hn=>?_;subst X;have bp:u< infMag:=by
  rcases aR5 hu with h|h
  ·exact h
  ·have:=zr.mp h;rw[J]at this;have H:=WM (by exact o5 (Zn Z) (r7 _)) Y;have X:2*(D*V t)=D*(2*V t):=by rw[<-i9,dU 2 D,i9]
   exact absurd H (dw.mpr (X▸this))
 have H:=(hn bp t).1;have X:dist W _=0:=rR J (o3 _);have Z:W=D*V u:=by simp only[X]at H;exact Y8 H
 exact rR (Nk (Nat.eq_of_mul_eq_mul_left Y (Z.symm.trans J))) rfl
theorem GB{n:Int}{j:Nat}(hn:n.natAbs< 2 ^ 53)(h1:52<=j)(h2:j<=1200):Rep (n*2 ^ j):=by
 have H:infMag=2047*2 ^ 52:=rfl;by_cases X:n.natAbs=0
 ·refine⟨0,by decide,?_⟩;simp only[BI,X,BJ];exact V_zero
 ·have J:n.natAbs.log2<=52:=by have:=(aR6 X).mpr hn;exact Mb this
  have Z:=Nat.lt_log2_self (n:=n.natAbs);refine⟨(j - (52 - n.natAbs.log2))*2 ^ 52+n.natAbs*2 ^ (52 - n.natAbs.log2),?_,?_⟩
  ·have Y:n.natAbs*2 ^ (52 - n.natAbs.log2)< 2 ^ 53:=by have H:n.natAbs*2 ^ _< 2 ^ _*2 ^ (52 - n.natAbs.log2):=yT Z (r7 _);rw[<-FJ,o7 J]at H;exact H
   exact iH (FL (jF _ (aE (nK ..) h2)) (cR Y)) (by decide)
  ·have Y:n.natAbs*2 ^ (52 - n.natAbs.log2)<=2 ^ 53:=by have H:n.natAbs*2 ^ _< 2 ^ _*2 ^ (52 - n.natAbs.log2):=yT Z (r7 _);rw[<-FJ,o7 J]at H;exact cR H
   have Z:2 ^ 52<=n.natAbs*2 ^ (52 - n.natAbs.log2):=by have H:2 ^ n.natAbs.log2*2 ^ _<=n.natAbs*2 ^ (52 - n.natAbs.log2):=jF _ (Nat.log2_self_le X);rwa [<-FJ,FB J]at H
   simp only[V_at Y (.inl Z),i9,<-FJ,o6 h1,BI,WN];rfl
theorem Is.add{x:UInt64}(J:Is x a)(H:Is y b)(Y:Rep (a+b)):Is (uK x y) (a+b):=by
 refine c7 J.dec λm e Z z=>c7 H.dec λk f X z=>?_;have h:=add_right Z X;replace h:=H.val▸(J.val▸h)
 by_cases H:a+b=0
 ·rw[h.1 H];refine⟨0,by decide,?_,H▸V_zero⟩;have J:(decide (a< 0) && decide (b< 0))=false:=by rw[Bool.and_eq_false_iff,decide_eq_false_iff_not,decide_eq_false_iff_not];exact Za H
  have e2:decide (a+b< 0)=false:=by rw[decide_eq_false_iff_not];exact fG.mpr (cN [eQ (Y0+Y1) 0] (lE 0 (Y0+Y1)) [-1] 1 rfl H)
  refine rR J (rR e2 ?_);rfl
 ·exact aO Y λt X J=>⟨t,X,Cn (h.2 H) X (rR (J ..) (rR (FM ..) rfl)) WO,J⟩
theorem Is.sub{x:UInt64}(X:Is x a)(J:Is y b)(hr:Rep (a - b)):Is (gV x y) (a - b):=by
 refine c7 X.dec λm e dx z=>c7 J.dec λk f Y z=>?_;have h:=sub_right dx Y;replace h:=J.val▸(X.val▸h)
 by_cases H:a - b=0
 ·rw[h.1 H];refine⟨0,by decide,?_,H▸V_zero⟩;have Z:(decide (a< 0) && !decide (b< 0))=false:=by have:a=b:=bw (bR [eQ (Y0-Y1) 0] (lE Y0 Y1) rfl H) (cN [eQ (Y1-Y0) 0] (lE Y0 Y1) [-1] 1 rfl H);refine rR this ?_;cases decide (b< 0)<;>rfl
  have e2:decide (a - b< 0)=false:=by rw[decide_eq_false_iff_not];exact fG.mpr (cN [eQ (Y0-Y1) 0] (lE 0 (Y0-Y1)) [-1] 1 rfl H)
  refine rR Z (rR e2 ?_);rfl
 ·exact aO hr λt X J=>⟨t,X,Cn (h.2 H) X (rR (J ..) (rR (FM ..) rfl)) WO,J⟩
theorem pK(h:0<=a):decide (a< 0)=false:=by rw[decide_eq_false_iff_not];exact fG.mpr (bf [lE 0 Y0] (lE 0 Y0) rfl h)
theorem Is.mul{x:UInt64}{c:Int}(J:Is x a)(H:Is y b)(ha:0<=a)(X:0<=b)(hc:0<=c)(Y:Rep c)(e:a*b=c*2 ^ 1074):Is (iI x y) c:=by refine c7 J.dec λm Z dx z=>c7 H.dec λk f Z z=>?_;have h:=mul_right dx Z;rw[J.val,H.val,pK ha,pK X]at h;refine aO Y λt H J=>⟨t,H,?_,J⟩;rw[pK hc];refine Cn h H ?_ (r7 _);rw[J,<-BI,e,BI,dU,WN];rfl
theorem Is.div{x:UInt64}{c:Int}(Y:Is x a)(X:Is y b)(ha:0<=a)(H:0< b)(hc:0<=c)(Z:Rep c)(e:a*2 ^ 1074=b*c):Is (gX x y) c:=by
 refine c7 Y.dec λm J dx z=>c7 X.dec λk f dy J=>?_;have GC:k≠0:=λh=>by simp only[h,BJ]at J;exact aR7.mpr (nL H) J.symm
 have h:=div_right dx dy GC;simp only[Y.val,X.val,pK ha,pK (gh H)]at h;refine aO Z λt J X=>⟨t,J,?_,X⟩;rw[pK hc];refine Cn h J ?_ (Int.natAbs_pos.mpr (nL H));rw[X,<-BI,<-e,BI,WN];rfl
theorem Is.cmp{x:UInt64}(J:Is x a)(H:Is y b):kW x y=some (compare a b):=c7 J.dec λm e Y z=>c7 H.dec λk f X z=>rR (cmp_right Y X) (rR J.val (rR H.val rfl))
theorem Is.isZero{x:UInt64}(J:Is x a)(h:a≠0):kX x=false:=by
 refine c7 J.dec λm e J H=>?_;unfold kX;refine rR J ?_;induction m with
 |zero=>rw[BJ]at H;exact absurd H.symm (aR7.mpr h)|succ m=>rfl
theorem Is.int{x:UInt64}(J:Is x z)(X:0<=z):∃H m e,BK x= .fin H m e/\BL H m e=z / 2 ^ 1074:=by
 refine c7 J.dec λm e J H=>⟨_,m,e,J,?_⟩;rw[pK X];show aR8 false m e=_;have Y:z=((m*2 ^ (e+1074).toNat:Nat):Int):=rR H ((FH X).symm);unfold aR8;have H:sgn false m=(m:Int):=rfl;refine rR H (rR Y ?_);by_cases H:e>=0
 ·rw[if_pos H,o1 H,FJ,<-i9];push_cast;rw[aR9 _ (nL (r8 (by decide)))]
 ·rw[if_neg H];refine rR (BM _ (gh (r8 (by decide)))) ?_;have X:(2:Int) ^ 1074=2 ^ (-e).toNat*2 ^ (e+1074).toNat:=by rw[<-wQ,(Zb (decode_ge J) H)]
  simp only[X];push_cast;rw[aSa _ _ (r8 (by decide))]
end
noncomputable section
inductive Ob:Type 1 where
 |ad (a:af)
 |cd (c:bB)
 |en (l:List (Option (af×aq)))
 |sm {α:Type} (t:ca α)
structure Out where
 res:cw
 post:List (af×aq)
 new:List (af×aq)
 sz:Nat
 tk:Nat
inductive aF where
 |nil
 |cons (any:Option Nat) (c:bB) (ix:List Nat) (pre:List (af×aq)) (out:(Nat->Nat)->Out) (next:(Nat->Nat)->aF)
abbrev aM:Type:=(Nat->Nat)->aF
structure WS where
 led:List (af×aq)
 sz:Nat
 tk:Nat
 ev:List Nat
 os:aF
structure Cx where
 S:BN
 K:uL
 dep:Nat
 ub:Nat
 aJ:Option af
noncomputable abbrev Xs:=Nat->Nat->Nat
noncomputable abbrev Rs(O:Type):=Option (List (Ob×Ob)×O)
structure Run(O:Type):Type 1 where
 S:∀{α:Type},List bB->Xs->WS->ca α->(Except ag α->Xs->WS->Rs O)->Rs O
 C:List bB->Xs->WS->bB->(cw->Xs->WS->Rs O)->Rs O
noncomputable def putAll(led:List (af×aq)):List Nat->List (af×aq)->List (af×aq)
 |i::ix,p::ps=>putAll (led.set i p) ix ps|_,_=>led
def Co(c:bB):Bool:=nc (bY c.weight 0)
def jh(x y:Ob)(r:Rs O):Rs O:=nc (match r with
 |some p=>some ((x,y)::p.1,p.2)|none=>none)
noncomputable def nsOk(o:aq):Bool:=match o.data with
 | .dict es _=>es.all λe=>(match e.key with
  | .str .. =>true|_=>false)
 |_=>false
def Cp(fr:Option af)(led:List (af×aq))(ix:List Nat):Bool:=match fr with
 |none=>true|some _=>(match led.getLast? with
  |some p=>nsOk p.2 && ix.all λi=>yV (i+2) led.length|none=>false)
def xb(fr:Option af)(led:List (af×aq))(r:Rs O):Rs O:=match fr with
 |none=>r|some L=>(match led.getLast? with
  |some p=>jh (.ad p.1) (.ad L) r|none=>r)
def Zo(X:Cx)(J:List bB)(H:Option Nat)(led:List (af×aq))(ix:List Nat):Bool:=match H with
 |none=>J.all Co && yV (J.map FN).sum X.ub && Cp X.aJ led ix|some n=>yV ((J.map WP).sum+n) X.dep
def Zp(H:Option Nat)(fr:Option af):Option Addr:=nc (match H with
 |none=>fr|some _=>none)
def Cq(b:Bool)(S:BN):Setting:=nc ({ S with params:={ S.params with followText:=λr=>if r="special-get-raises" then b else S.params.followText r } })
def cr(x:Option α)(f:α->Rs O):Rs O:=nc (match x with
 |none=>none|some a=>f a)
def pL(b:Bool)(r:Rs O):Rs O:=nc (match b with
 |false=>none|true=>r)
def pM(b:Bool)(r:Rs O):Rs O:=nc (match b with
 |false=>r|true=>none)
def zt(l:List Nat):Option (Nat×List Nat):=nc (match l with
 |[]=>none|e::ev=>some (e,ev))
def Zq(l:List Nat):Bool:=nc (match l with
 |[]=>false|e::_=>bY e 777)
def Nl(d:kZ):Option (Array ag):=nc (@aSb (λj=>Option (Array ag)) d none (λj=>none) (λj j=>none) (λj j=>none) (λj j j=>none) (λj j=>none) (λj=>none) (λj=>none) (λj=>none) (λv=>some v) none)
def GD(d:kZ):Option FuncData:=nc (@aSb (λj=>Option uM) d none (λj=>none) (λj j=>none) (λj j=>none) (λj j j=>none) (λj j=>none) (λj=>none) (λv=>some v) (λj=>none) (λj=>none) none)
def zu(v:ag):Option Addr:=nc (@aSc (λj=>Option af) v none none none (λj=>none) (λj j=>none) (λj j=>none) (λj j=>none) (λj j=>none) (λj=>none) (λj=>none) (λa=>some a))
def Nm(v:ag):Option Str:=nc (@aSc (λj=>Option Str) v none none none (λj=>none) (λj j=>none) (λj j=>none) (λs j=>some s) (λj j=>none) (λj=>none) (λj=>none) (λj=>none))
def Ct(c:bB):Option (ag×pk):=nc (@Code.casesOn (λj=>Option (ag×pk)) c (λf a=>some (f,a)) (λj j=>none) (λj j=>none) (λj j=>none) (λj j j=>none) (λj j j j j=>none) (λj j=>none) (λj j=>none) (λj j j j=>none) (λj j j j j=>none) (λj j j j j=>none) (λj j j j j=>none) (λj j j j j=>none))
theorem Zr{d:kZ}{v:Array ag}(h:Nl d=some v):d= .fields v:=by
 induction d with
 |fields v=>exact congrArg _ (dG h)|_=>injection h
theorem Nn{d:kZ}{v:uM}(h:GD d=some v):d= .func v:=by
 induction d with
 |func v=>exact congrArg _ (dG h)|_=>injection h
theorem GE{d:ag}{v:af}(h:zu d=some v):d= .ref v:=by
 induction d with
 |ref v=>exact congrArg _ (dG h)|_=>injection h
theorem Zs{d:ag}{v:Str}(h:Nm d=some v):∃t,d= .str v t:=by
 induction d with
 |str v t=>exact⟨t,congrArg (ag.str · t) (dG h)⟩|_=>injection h
theorem No{d:bB}{v:ag×pk}(h:Ct d=some v):d= .call v.1 v.2:=by
 induction d with
 |call f a=>exact congrArg (λv:ag×pk=>Code.call v.1 v.2) (dG h)|_=>injection h
def Cu(X:Cx)(D:Run O)(Y:List bB)(J:Xs)(H:WS)(t:ca α)(κ:Except ag α->Xs->WS->Rs O):Rs O:=@WQ α (λj=>Rs O) t
 (λa=>κ (.ok a) J H)
 (λe=>κ (.error e) J H)
 (λj=>none)
 (λj=>none)
 (λj k=>D.S Y J H (k ()) κ)
 (λj k=>D.S Y J H (k ()) κ)
 (λa j k=>cr (zt H.ev) λq=>@r9 (λj=>Rs O) q.1 (cr (X.K.lookup a) λo=>D.S Y J { H with ev:=q.2 } (k o) κ) λi=>cr H.led[i]? λp=>jh (.ad a) (.ad p.1) (D.S Y J { H with ev:=q.2 } (k p.2) κ))
 (λa j f k=>cr (zt H.ev) λq=>@r9 (λj=>Rs O) q.1 none λi=>cr H.led[i]? λp=>pM (f p.2).isFreed (jh (.ad a) (.ad p.1) (D.S Y J { H with ev:=q.2,led:=H.led.set i (p.1,f p.2) } (k ()) κ)))
 (λo k=>pM o.isFreed (D.S Y J { H with led:=(H.sz,o)::H.led,sz:=H.sz+1 } (k H.sz) κ))
 (λj j=>none)
 (λj k=>D.S Y J H (k ()) κ)
 (λj j=>none)
 (λk=>D.S Y J { H with tk:=H.tk+1 } (k H.tk) κ)
 (λk=>cond (Zq H.ev) (jh (.sm (k (Cq true X.S))) (.sm (k (Cq false X.S))) (D.S Y J { H with ev:=H.ev.tail } (k (Cq true X.S)) κ)) (D.S Y J H (k X.S) κ))
 (λj j j=>none)
 (λj j j=>none)
 (λc h j j k=>@Option.casesOn ag (λj=>Rs O) h (D.C Y J H c λr Z cJ=>D.S Y Z cJ (k r) κ) λj=>none)
 (λo k=>pM o (D.S Y J H (k none) κ))
 (λj j=>none)
 (λj j=>none)
 (λj j j j=>none)
 (λj j j j=>none)
 (λj=>none)
 (λj j=>none)
 (λj=>none)
 (λj j j j j=>none)
def Nq(b:FuncBody)(env:k7):Code:=nc (match b with
 | .stmts b=> .func b env| .expr e=> .expr e env)
def GF(X:Cx)(D:Run O)(H:List bB)(J:Xs)(Y:WS)(a:af)(args:pk)(fd:uM)(κ:cw->Xs->WS->Rs O):Rs O:=pM (fd.scope.isCoroutine||fd.scope.isGenerator||yV X.dep (H.map WP).sum) (D.S (.call (.ref a) args::H) J Y (ma fd args) λb J Y=>(match b with
  | .ok binds=>D.S (.call (.ref a) args::H) J Y (md fd.scope fd.globals fd.closure binds (fd.qualname++".<locals>.") (some a) fd.code none fd.builtins) λe J Y=>(match e with
   | .ok env=>D.C H J Y (Nq fd.body env) κ| .error _=>none)
  | .error _=>none))
def Nu(X:Cx)(D:Run O)(H:List bB)(J:Xs)(Y:WS)(a:af)(args:pk)(κ:cw->Xs->WS->Rs O):Rs O:=cr (X.K.lookup a) λo=>cr (GD o.data) λfd=>pL (Mc X.K fd.code fd.qualname) (GF X D H J Y a args fd κ)
def Nv(X:Cx)(D:Run O)(J:List bB)(Y:Xs)(H:WS)(i j:Nat)(a:af)(args:pk)(κ:cw->Xs->WS->Rs O):Rs O:=cr H.led[i]? λp=>cr H.led[j]? λq=>cr (GD p.2.data) λfd=>cr (zu fd.code) λc=>cr (Nl q.2.data) λvs=>cr vs[1]? λv=>cr (Nm v) λn=>pL (n==fd.qualname) (jh (.ad a) (.ad p.1) (jh (.ad c) (.ad q.1) (GF X D J Y H a args fd κ)))
def stepT(X:Cx)(pt:List bB)(H:Xs)(J:WS)(Y:List Nat)(c:bB)(κ:cw->Xs->WS->Rs O)(Z:aF):Rs O:=match Z with
 | .nil=>none| .cons any c0 ix pre out next=>pL (Zo X pt any J.led ix) (jh (.cd c) (.cd c0) (jh (.en (ix.map λi=>J.led[i]?)) (.en (pre.map some)) (xb (Zp any X.aJ) J.led (κ (out (H 0)).res (λi=>H (i+1)) ⟨(out (H 0)).new++putAll J.led ix (out (H 0)).post,(out (H 0)).sz,(out (H 0)).tk,Y,next (H 0)⟩))))
def Zt(X:Cx)(D:Run O)(J:List bB)(Y:Xs)(H:WS)(c:bB)(κ:cw->Xs->WS->Rs O):Rs O:=cr (zt H.ev) λq=>@r9 (λj=>Rs O) q.1
  (D.S (c::J) Y { H with ev:=q.2 } (uN treeTable c) λr hH Z=>(match r with
   | .error e=>κ (.error e) hH Z| .ok f=>(match f with
    | .done f=>κ (.ok f) hH Z| .again c'=>pL c'.quiet (D.C J hH Z c' κ))))
  λn=>@r9 (λj=>Rs O) n
   (cr (Ct c) λp=>cr (zu p.1) λa=>Nu X D J Y { H with ev:=q.2 } a p.2 κ)
   λn=>@r9 (λj=>Rs O) n
    (stepT X J Y H q.2 c κ H.os)
    λj=>cr (Ct c) λp=>cr (zu p.1) λa=>cr (zt q.2) λi=>cr (zt i.2) λj=>Nv X D J Y { H with ev:=j.2 } i.1 j.1 a p.2 κ
def step(X:Cx)(D:Run O):Run O:=⟨Cu X D,Zt X D⟩
def run(X:Cx)(n:Nat):Run O:=Nat.rec ⟨λ_ _ _ _ _=>none,λ_ _ _ _ _=>none⟩ (λ_ D=>step X D) n
abbrev aI(w:aj)(a b:Nat)(f:Option af)(n:Nat):Run O:=run ⟨⟨Rw.prog,w.params⟩,K w.params,a,b,f⟩ n
structure f4(aa:aw)(led:List (af×aq))(h:aw):Prop where
 at_:∀p∈led,h.get? p.1=some p.2
 nd:(led.map (·.1)).Nodup
 keep:∀b o,aa.get? b=some o->h.get? b=some o
 off:∀p∈led,aa.get? p.1=none
def sK(led:List (af×aq))(h h':aw):Prop:=∀b o,h.get? b=some o->(∀p∈led,p.1≠b)->h'.get? b=some o
theorem sK.refl{led:List (af×aq)}{h:aw}:sK led h h:=λ_ _ e _=>e
def ij(h h':aw):Prop:=∀b o,h.get? b=some o->∃H,h'.get? b=some H
structure Goes(led:List (af×aq))(h:aw)(ji:List (af×aq))(h':aw):Prop where
 keep:sK led h h'
 live:ij h h'
 new:∀p∈ji,h.get? p.1=none\/∃q∈led,q.1=p.1
theorem Goes.refl{led:List (af×aq)}{h:aw}:Goes led h led h:=⟨.refl,λz o e=>⟨o,e⟩,λp H=> .inr ⟨p,H,rfl⟩⟩
theorem Goes.trans{a b c:List (af×aq)}{h Y:aw}(x:Goes a h b h')(y:Goes b h' c Y):Goes a h c Y:=by
 refine⟨λz o e n=>y.keep z o (x.keep z o e n) λp J q=>?_,λz o e=>(x.live z o e).elim λZ H=>y.live z Z H,λp J=>?_⟩
 ·rcases x.new p J with l|⟨r,X,H⟩
  ·replace l:=e▸(q▸l);injection l
  ·exact n r X (H.trans q)
 ·rcases y.new p J with l|⟨q,hq,e⟩
  ·refine .inl ?_;induction z:h.get? p.1 with
   |none=>rfl|some o=>obtain⟨Z,e⟩:=x.live _ _ z;replace e:=l▸e;injection e
  ·rcases x.new q hq with l|⟨r,X,H⟩
   ·exact .inl (e▸l)
   ·exact .inr ⟨r,X,H.trans e⟩
structure ay(ao:Prop)(aa:aw)(ak:am)(led:List (af×aq))(s:am):Prop where
 h:f4 aa led s.heap
 os:s.os=ak.os
 gens:ao->∀x∈s.gens,WR x=true
 same:ao\/(s.gens=ak.gens/\s.drawn=ak.drawn)
structure Fits(ao:Prop)(aa:aw)(ak:am)(st:WS)(s:am):Prop where
 r:ay ao aa ak st.led s
 sz:s.heap.objs.size=st.sz
 tk:s.toks=st.tk
def Told(ao:Prop)(M:fU)(A:aD)(U:Nat)(fr:Option af)(aa:aw)(c:bB)(pre:List (af×aq))(out:(Nat->Nat)->Out):Prop:=∀(u:Nat)(s ak:am)(R:cw->am->Prop),u<=U->ay ao aa ak pre s->(∀L,fr=some L->(∃m,s.heap.Ns L m)/\∀p∈pre,p.1≠L)->(∀x s',s'.heap.objs.size=(out x).sz->s'.toks=(out x).tk->(out x).post.map (·.1)=pre.map (·.1)->(∀p∈(out x).new,s.heap.get? p.1=none)->ay ao aa ak ((out x).new++(out x).post) s'->sK pre s.heap s'.heap->R (out x).res s')->eC M { A with units:=u } c R s
def aF.Ok(ao:Prop)(M:fU)(A:aD)(U:Nat)(fr:Option af)(aa:aw):aF->List af->Prop
 | .nil,_=>True| .cons any c ix pre out next,lv=>ix.length=pre.length/\ix.Nodup/\(match any with
   |none=>Told ao M A U fr aa c pre out|some n=>∀H:aD,H.handled=none->(0< n->H.depth+n<=bk)->Told ao M H H.units none aa c pre out)/\∀x,(∀b∈lv++pre.map (·.1),b<(out x).sz/\∀p∈(out x).new,b≠p.1)->(∀p∈(out x).new,p.1<(out x).sz)->(next x).Ok ao M A U fr aa (lv++pre.map (·.1)++(out x).new.map (·.1))
abbrev bJ(next:aM)(ao:Prop)(w:aj)(A:aD)(U:Nat)(fr:Option af)(aa:aw):Prop:=∀e lv,(next e).Ok ao (av w) A U fr aa lv
theorem Ny{h:aw}{a:af}{o:aq}(e:h.get? a=some o)(H:nsOk o=true):∃m,h.Ns a m:=by
 obtain⟨c,d,X,sl⟩:=o;induction X with
 |dict es ep=>
  refine⟨Md es,_,es,ep,e,rfl,λx X=>?_,λz=>rfl⟩;have:=aSd.mp H x X;induction J:x.key with
  |str n t=>exact⟨n,t,rfl⟩|_=>simp only[J]at this;injection this
 |_=>injection H
section
variable {led:List (af×aq)}{h:aw}
theorem GG:∀{l:List (af×aq)},(l.map (·.1)).Nodup->∀{i:Nat}{p q:af×aq},l[i]?=some p->∀{j:Nat},l[j]?=some q->q.1=p.1->j=i:=by intro l J i p q e j H h;have X:j<(l.map (·.1)).length:=rR (dA ..) ((se.mp H).1);exact(aSe X J).mp (by simp only[dL,dL,e,H];exact congrArg some h)
theorem map_set(l:List (af×aq))(i:Nat)(p q:af×aq)(e:l[i]?=some p)(X:q.1=p.1):(l.set i q).map (·.1)=l.map (·.1):=by
 refine rR List.map_set (rR X ?_);apply jG;intro j;by_cases H:i=j
 ·subst H;obtain⟨J,rfl⟩:=se.mp e;simp[J]
 ·simp[H]
theorem f4.low(R:f4 aa led h):∀p∈led,p.1< h.objs.size:=λp H=>dH (R.at_ p H)
theorem f4.idx(R:f4 aa led h){i:Nat}{p:af×aq}(e:led[i]?=some p):h.get? p.1=some p.2:=R.at_ p (ja e)
theorem f4.alloc(R:f4 aa led h){o:aq}(J:o.isFreed=false):f4 aa ((h.objs.size,o)::led) (h.push o):=by
 refine⟨λp hp=>?_,?_,λa H e=>cZ _ (R.keep a H e),λp hp=>?_⟩
 ·rcases a9.mp hp with rfl|hp
  ·exact gY _ J
  ·exact cZ _ (R.at_ p hp)
 ·refine ci.mpr ⟨λJ=>?_,R.nd⟩;refine aO (bq.mp J) λp hp e=>?_;exact absurd e (du (R.low p hp))
 ·rcases a9.mp hp with rfl|hp
  ·induction q:aa.get? h.objs.size with
   |none=>rfl|some H=>exact absurd (dH (R.keep _ _ q)) (jH _)
  ·exact R.off p hp
theorem f4.update(R:f4 aa led h){i:Nat}{p:af×aq}{f:aq->aq}(e:led[i]?=some p)(hf:(f p.2).isFreed=false):f4 aa (led.set i (p.1,f p.2)) (h.update p.1 f):=by
 have Z:lb p.1 h (h.update p.1 f):=ia ..;refine⟨λq X=>?_,by rw[map_set _ _ p (p.1,f p.2) e rfl];exact R.nd,λa o' J=>?_,λq X=>?_⟩
 ·obtain⟨j,H⟩:=Me X;by_cases Y:i=j
  ·subst Y;replace H:=(aSf (se.mp e).1)▸H;injection H with H;subst H
   exact nM f (R.idx e) hf
  ·replace H:=(WT Y)▸H;exact rR (Z.2 _ λh'=>Y (GG R.nd e H h').symm) (R.idx H)
 ·have ne:a≠p.1:=λh'=>by have:=R.off p (ja e);replace this:=J▸(h'▸this);injection this
  exact rR (Z.2 _ ne) (R.keep _ _ J)
 ·have H:q.1∈(led.set i _).map (·.1):=b6 X;rw[map_set _ _ p (p.1,f p.2) e rfl]at H;refine aO (bq.mp H) λX H J=>?_;exact rL J (R.off X H)
theorem Zu{i:Nat}{p:af×aq}{o:aq}(e:led[i]?=some p):∀q∈led.set i (p.1,o),∃H∈led,H.1=q.1:=λq X=>by have J:q.1∈(led.set i _).map (·.1):=b6 X;rw[map_set _ _ p (p.1,o) e rfl]at J;refine aO (bq.mp J) λH J X=>?_;exact⟨H,J,X⟩
theorem Zv:∀(ix:List Nat)(led post pre:List (af×aq)),ix.Nodup->ix.map (λi=>led[i]?)=pre.map some->post.map (·.1)=pre.map (·.1)->((putAll led ix post).map (·.1)=led.map (·.1))/\∀p∈putAll led ix post,p∈post\/∃j,led[j]?=some p/\j ∉ ix:=by
 intro ix;induction ix with
 |nil=>
  intro led post pre z J e2;induction pre with
  |cons _ _=>injection J|nil=>induction post with
   |cons _ _=>injection e2|nil=>exact⟨rfl,λp X=> .inr ((Me X).imp λj H=>⟨H,bi⟩)⟩
 |cons i ix ih=>
  intro led post pre nd J e2;induction pre using pq with
  |nil=>injection J|cons r pre=>induction post with
   |nil=>injection e2|cons q post=>
    simp only[iJ,iJ,uO]at J e2;obtain⟨Zw,Z⟩:=ci.mp nd;have e3:ix.map (λj=>(led.set i q)[j]?)=pre.map some:=by simp only[<-J.2];refine WU λj H=>WT (show i≠j from λh=>Zw (h▸H))
    obtain⟨a,b⟩:=ih _ post pre Z e3 e2.2;refine⟨a.trans (map_set _ _ _ _ J.1 e2.1),λp X=>?_⟩;rcases b p X with h|⟨j,H,hn⟩
    ·exact .inl (aB h)
    ·by_cases Y:i=j
     ·subst Y;replace H:=(aSf (se.mp J.1).1)▸H;injection H with H;subst H
      exact .inl az
     ·rw[WT Y]at H;exact .inr ⟨j,H,λH=>(a9.mp H).elim (λh=>Y h.symm) hn⟩
theorem f4.sel(R:f4 aa led h){ix:List Nat}{ents:List (af×aq)}(Y:ix.Nodup)(e:ix.map (λi=>led[i]?)=ents.map some):f4 aa ents h:=by
 have X:∀p∈ents,p∈led:=λp H=>by have:some p∈ix.map _:=e▸b6 H;refine aO (bq.mp this) λi v J=>?_;exact ja J
 refine⟨λp H=>R.at_ p (X p H),?_,R.keep,λp H=>R.off p (X p H)⟩;have X:(ents.map some).map (λx=>x.map (·.1))=(ix.map (λi=>led[i]?)).map (λx=>x.map (·.1)):=by rw[e]
 have e2:(ents.map (·.1)).map some=ix.map (λi=>(led.map (·.1))[i]?):=by rw[BO]at X ⊢;refine rR (show(some ∘ λx:af×aq=>x.1)=_ from rfl) (rR X (rR BO ?_));refine WU λi z=>?_;simp only[dL];rfl
 refine aWq (S:=(· ≠·)) some (λa b h e=>h (congrArg some e)) ?_;rw[e2];refine List.pairwise_map.mpr ?_;refine aWr (λ{i j}J hj cA e3=>?_) Y;refine aO (bq.mp (e▸b6 J)) λp v H=>?_;have J:i<(led.map (·.1)).length:=rR (dA ..) ((se.mp H.symm).1);exact cA ((aSe J R.nd).mp e3)
theorem Goes.sel{a b:List (af×aq)}(G:Goes a h b h'){ix:List Nat}{ents:List (af×aq)}(e:ix.map (λi=>b[i]?)=ents.map some):Goes a h ents h':=⟨G.keep,G.live,λp H=>by have:some p∈ix.map _:=e▸b6 H;refine aO (bq.mp this) λi z H=>?_;exact G.new p (ja H)⟩
theorem f4.told(R:f4 aa led h){ix:List Nat}{post H:List (af×aq)}(nd:ix.Nodup)(e1:ix.map (λi=>led[i]?)=pre.map some)(e2:post.map (·.1)=pre.map (·.1))(hn:∀p∈H,h.get? p.1=none)(J:f4 aa (H++post) h')(Z:sK pre h h'):f4 aa (H++putAll led ix post) h'/\Goes led h (H++putAll led ix post) h'/\(putAll led ix post).map (·.1)=led.map (·.1):=by
 refine d7 (Zv ix led post pre nd e1 e2) λa b=>?_;have H:∀p∈pre,p∈led:=λp hp=>by have:some p∈ix.map _:=e1▸b6 hp;refine aO (bq.mp this) λi v hi=>?_;exact ja hi
 have X:∀p∈putAll ..,∃q∈led,q.1=p.1:=λp hp=>by have:p.1∈(putAll ..).map (·.1):=b6 hp;rw[a]at this;exact bq.mp this
 refine⟨⟨λp hp=>?_,?_,J.keep,λp hp=>?_⟩,⟨λz o e n=>Z z o e λp hp=>n p (H p hp),λz o e=>?_,λp hp=>?_⟩,a⟩
 ·rcases cq.mp hp with hp|hp
  ·exact J.at_ p (bL _ hp)
  ·rcases b p hp with hp|⟨j,hj,hn⟩
   ·exact J.at_ p (bD _ hp)
   ·refine Z _ _ (R.idx hj) λq Y h=>?_;have:some q∈ix.map _:=e1▸b6 Y;refine aO (bq.mp this) λi hi H=>?_;have q:=GG R.nd hj H h;exact hn (q▸hi)
 ·rw[bM,fi];have H:=J.nd;rw[bM,fi]at H;refine⟨H.1,a▸R.nd,λx hx y hy e=>?_⟩;obtain⟨p,hp,rfl⟩:=bq.mp hx;rw[a]at hy;refine aO (bq.mp hy) λq Y eq1=>?_;subst eq1;have z:=R.at_ q Y;simp only[<-e,hn p hp]at z;injection z
 ·rcases cq.mp hp with hp|hp
  ·exact J.off p (bL _ hp)
  ·refine aO (X p hp) λq Y e=>?_;exact e▸R.off q Y
 ·by_cases q:∃p∈pre,p.1=z
  ·obtain⟨p,hp,rfl⟩:=q;have:p.1∈post.map (·.1):=e2▸b6 hp;refine aO (bq.mp this) λr Y H=>?_;exact⟨r.2,H▸J.at_ r (bD _ Y)⟩
  ·exact⟨o,Z z o e λp hp h=>q ⟨p,hp,h⟩⟩
 ·rcases cq.mp hp with hp|hp
  ·exact .inl (hn p hp)
  ·exact .inr (X p hp)
theorem Zx{M:fU}{q:d5}{k:Unit->ca α}{Q:α->am->Prop}(h:aG M A (k ()) Q E s):aG M A (.at q k) Q E s:=λΓ p H=>by exact h Γ q H
theorem Zy{M:fU}{e:ag}{Q:α->am->Prop}(h:E e s):aG M A (.raise e) Q E s:=λz z z=>h
theorem Zz{M:fU}{k:Option ag->ca α}{Q:α->am->Prop}(h:aG M A (k A.handled) Q E s):aG M A (.handled false k) Q E s:=λΓ p H=>by simp only[Sem.wp_handled];exact rR H.1 (h Γ p H)
theorem ZA{M:fU}{a:af}{H:Option ag}{f:aq->aq}{o:aq}{k:Unit->ca α}{Q:α->am->Prop}(J:s.heap.get? a=some o)(h:aG M A (k ()) Q E { s with heap:=s.heap.update a f }):aG M A (.update a H f k) Q E s:=λΓ p H=>by exact⟨by refine rR J ?_;rfl,h Γ p H⟩
theorem Nz{M:fU}{c:bB}{g:Bool}{l:List ag}{k:cw->ca α}{Q:α->am->Prop}(h:eC M A c (λr s'=>aG M A (k r) Q E s') s):aG M A (.call c none g l k) Q E s:=λΓ p H=>by exact wpCode_mono (λr s' h'=>h' Γ p H) (h _ p rfl (H.enter c none p (by intro x;injection x)))
def gH(A:aD)(H:List bB):Around:=nc (H.foldr (λc A=>A.under c) A)
theorem GH:∀H,(gH A H).handled=A.handled
 |[]=>rfl|_::H=>GH H
theorem GI:∀H,(gH A H).depth=A.depth+(H.map WP).sum
 |[]=>rfl|c::H=>by show(gH A H).depth+c.weight=A.depth+_;exact rR (GI H) (c8 (b7 [] (lE (Y0+Y1+Y2) (Y0+(Y2+Y1))) rfl) (b7 [] (lE (Y0+(Y1+Y2)) (Y0+Y2+Y1)) rfl))
theorem ZB{c:bB}(h:Co c=true):A.under c={ A with units:=A.units+c.cUnits }:=by have H:=Nat.eq_of_beq_eq_true h;simp[Around.under,H,Code.envs_of_weight H,Code.guards_of_weight H,pushEnvs,pushGuards]
theorem NA:∀H,H.all Co=true->gH A H={ A with units:=A.units+(H.map FN).sum }
 |[],_=>rfl|c::H,h=>by
  simp only[WL,gw]at h;show(gH A H).under c=_;rw[ZB h.1,NA H h.2];show({ A with units:=A.units+(H.map FN).sum+c.cUnits }:aD)={ A with units:=A.units+(c.cUnits+(H.map FN).sum) }
  rw[L2,L8 c.cUnits]
end
section
variable {K:uL}{ub:Nat}{P:O->Prop}
def Met(P:O->Prop)(x:Rs O):Prop:=∃l o,x=some (l,o)/\(∀p∈l,p.1=p.2)/\P o
def Good(ao:Prop)(M:fU)(A:aD)(U:Nat)(fr:Option af)(aa:aw)(H:WS):Prop:=∃lv:List af,(∀b∈lv,b∈H.led.map (·.1))/\H.os.Ok ao M A U fr aa lv
structure Sound(ao:Prop)(prog:c9)(w:aj)(K:uL)(aa:aw)(A:aD)(dep ub U:Nat)(fr:Option af)(P:O->Prop)(D:Run O):Prop where
 S:∀{α:Type}(pt:List bB)(st:WS)(t:ca α)(κ:Except ag α->Xs->WS->Rs O)(Q:α->am->Prop)(E:ag->am->Prop)(s ak:am),Fits ao aa ak st s->Good ao (aR prog w) A U fr aa st->
  (∀σ,Met P (D.S pt σ st t κ))->
  (∀r cJ s',Fits ao aa ak cJ s'->Good ao (aR prog w) A U fr aa cJ->Goes st.led s.heap cJ.led s'.heap->(∀σ,Met P (κ r σ cJ))->(match r with| .ok a=>Q a s'| .error e=>E e s'))->
  aG (aR prog w) (gH A pt) t Q E s
 C:∀(pt:List bB)(st:WS)(c:bB)(κ:cw->Xs->WS->Rs O)(R:cw->am->Prop)(s ak:am),Fits ao aa ak st s->Good ao (aR prog w) A U fr aa st->
  (∀σ,Met P (D.C pt σ st c κ))->
  (∀r cJ s',Fits ao aa ak cJ s'->Good ao (aR prog w) A U fr aa cJ->Goes st.led s.heap cJ.led s'.heap->(∀σ,Met P (κ r σ cJ))->R r s')->
  eC (aR prog w) (gH A pt) c R s
noncomputable def ZC(x:Nat->Nat)(H:Xs):Xs
 |0=>x|i+1=>H i
theorem Ob.zy{a b:af}(h:Ob.ad a=Ob.ad b):a=b:=by cases h;rfl
theorem Ob.ZD{a b:bB}(h:Ob.cd a=Ob.cd b):a=b:=by cases h;rfl
theorem Ob.ZE{a b:List (Option (af×aq))}(h:Ob.en a=Ob.en b):a=b:=by cases h;rfl
theorem Ob.ZF{a b:ca α}(h:Ob.sm a=Ob.sm b):a=b:=by cases h;rfl
theorem Met.not{x:Rs O}(h:x=none):¬Met P x:=λ⟨_,_,e,_⟩=>by replace e:=h▸e;injection e
theorem Met.jh{x y:Ob}{r:Rs O}(h:Met P (jh x y r)):x=y/\Met P r:=by
 obtain⟨l,o,e,H,J⟩:=h;induction r with
 |none=>injection e|some p=>cases e;exact⟨H _ az,p.1,p.2,rfl,λq X=>H _ (aB X),J⟩
theorem Fits.ev{H:WS}{ev:List Nat}(F:Fits ao aa ak H s):Fits ao aa ak { H with ev:=ev } s:=⟨F.r,F.sz,F.tk⟩
theorem Met.frame{led:List (af×aq)}{r:Rs O}(h:Met P (xb fr led r)):Met P r:=by
 unfold xb at h;split at h;·exact h
 ·split at h;·exact h.jh.2
  ·exact h
theorem Met.cr{x:Option α}{f:Xs->α->Rs O}(h:∀H,Met P (cr x (f H))):∃a,x=some a/\∀H,Met P (f H a):=by
 induction x with
 |none=>exact absurd (h λj j=>0) (Met.not rfl)|some a=>exact⟨a,rfl,h⟩
theorem Met.pL{b:Bool}{f:Xs->Rs O}(h:∀H,Met P (pL b (f H))):b=true/\∀H,Met P (f H):=by
 induction b with
 |false=>exact absurd (h λj j=>0) (Met.not rfl)|true=>exact⟨rfl,h⟩
theorem Met.pM{b:Bool}{f:Xs->Rs O}(h:∀H,Met P (pM b (f H))):b=false/\∀H,Met P (f H):=by
 induction b with
 |false=>exact⟨rfl,h⟩|true=>exact absurd (h λj j=>0) (Met.not rfl)
theorem Met.vi{x y:Ob}{f:Xs->Rs O}(h:∀H,Met P (Mine.Internal.jh x y (f H))):x=y/\∀H,Met P (f H):=⟨(h λj j=>0).jh.1,λH=>(h H).jh.2⟩
theorem Met.cond{b:Bool}{f g:Xs->Rs O}(h:∀H,Met P (cond b (f H) (g H))):(∀H,Met P (f H))\/∀H,Met P (g H):=by
 induction b with
 |false=>exact .inr h|true=>exact .inl h
theorem ZG{led:List (af×aq)}{ix:List Nat}{r:Rs O}(R:ay ao aa ak led s)(J:Cp (some L) led ix=true)(H:Met P (xb (some L) led r))(he:∀q∈pre,∃i,i∈ix/\led[i]?=some q):(∃m,s.heap.Ns L m)/\∀p∈pre,p.1≠L:=by
 unfold Cp at J;unfold xb at H;induction X:led.getLast? with
 |none=>rw[X]at J;injection J|some p=>rw[X]at H J;have Y:=Ob.zy H.jh.1;simp only[gw]at J;have Z:led[led.length - 1]?=some p:=rL aSg X;refine⟨Y▸Ny (R.h.idx Z) J.1,λq H h=>?_⟩;refine aO (he q H) λi X zx=>?_;have H:=dh (r6.mp J.2 i X);exact jH 0 (cz [eQ Y0 Y1,lE (Y0+2) Y2,eQ (Y1+1) Y2] (lL 0 0) [-1,1,-1] 0 rfl (GG R.h.nd Z zx (h.trans Y.symm)) H (bX (aE (dF ..) H)))
end
structure Bd where
 ao:Prop
 prog:c9
 w:aj
 K:uL
 aa:aw
 bE:aD
 dep:Nat
 ub:Nat
 U:Nat
 aJ:Option af
 X:K.In aa
 hA:bE.handled=none
 hd:0< dep->aa.NoLimit/\bE.depth+dep<=bk
 hU:bE.units+ub<=U
abbrev Bd.M(B:Bd):Model:=nc (aR B.prog B.w)
noncomputable abbrev Bd.x(B:Bd):Cx:=⟨⟨B.prog,B.w.params⟩,B.K,B.dep,B.ub,B.aJ⟩
structure Bd.At(B:Bd)(ak:am)(st:WS)(s:am):Prop where
 F:Fits B.ao B.aa ak st s
 ok:Good B.ao B.M B.bE B.U B.aJ B.aa st
section
variable {B:Bd}{P:O->Prop}{D:Run O}{st:WS}{pt:List bB}
theorem Bd.At.ev{ev:List Nat}(a:B.At ak st s):B.At ak { st with ev:=ev } s:=⟨a.F.ev,a.ok⟩
def Bd.End(B:Bd)(P:O->Prop)(ak:am)(st:WS)(s:am){H:Type}(f:H->Xs->WS->Rs O)(R:H->am->Prop):Prop:=∀r H s',B.At ak H s'->Goes st.led s.heap H.led s'.heap->(∀J,Met P (f r J H))->R r s'
def Cw(Q:α->am->Prop)(E:ag->am->Prop)(r:Except ag α)(s:am):Prop:=match r with
 | .ok a=>Q a s| .error e=>E e s
theorem Bd.End.go{H:Type}{f:H->Xs->WS->Rs O}{R:H->am->Prop}{H:WS}(h:B.End P ak st s f R)(G:Goes st.led s.heap H.led s'.heap):B.End P ak H s' f R:=λr J H a g m=>h r J H a (G.trans g) m
structure gm(B:Bd)(P:O->Prop)(D:Run O):Prop where
 S:∀{α:Type}(pt:List bB)(st:WS)(t:ca α)(κ:Except ag α->Xs->WS->Rs O)(Q:α->am->Prop)(E:ag->am->Prop)(s ak:am),B.At ak st s->(∀σ,Met P (D.S pt σ st t κ))->B.End P ak st s κ (Cw Q E)->aG B.M (gH B.bE pt) t Q E s
 C:∀(pt:List bB)(st:WS)(c:bB)(κ:cw->Xs->WS->Rs O)(R:cw->am->Prop)(s ak:am),B.At ak st s->(∀σ,Met P (D.C pt σ st c κ))->B.End P ak st s κ R->eC B.M (gH B.bE pt) c R s
theorem gm.body(I:gm B P D){a:af}{κ:cw->Xs->WS->Rs O}(a0:B.At ak st s)(H:∀σ,Met P (GF B.x D pt σ st a args fd κ))(h:B.End P ak st s κ R){o:aq}(ho:s.heap.get? a=some o)(sL:o.data= .func fd)(NB:s.heap.CodeRec fd.code fd.qualname):eC B.M (gH B.bE pt) (.call (.ref a) args) R s:=by
 refine d7 (Met.pM H) λX H=>?_;rw[BP,BP]at X;have J:=Nat.lt_of_not_le λh=>by replace h:=X.2▸Nat.ble_eq_true_of_le h;injection h
 have hd:=B.hd (Nat.zero_lt_of_lt J);have xd:(gH B.bE pt).depth< recursionLimit:=rR (GI _) (qr (WV J _) hd.2);have Y:aG B.M (gH B.bE pt).in1 (ma fd args) (λJ ba=>
   aG B.M (gH B.bE pt).in1 (md fd.scope fd.globals fd.closure J (fd.qualname++".<locals>.") (some a) fd.code none fd.builtins)
    (λenv J=>J.heap.NoLimit/\eC B.M (gH B.bE pt) (Nq fd.body env) R J) (λe s'=>R (.error e) s') ba) (λe s'=>R (.error e) s') s:=by
  refine I.S _ _ _ _ _ _ s ak a0 H λr cJ s' a1 G hm=>?_;induction r with
  |error _=>exact absurd (hm λj j=>0) (Met.not rfl)|ok b=>
   refine I.S _ cJ _ _ _ _ s' ak a1 hm λr' zw s2 a2 G' sM=>?_;induction r' with
   |error _=>exact absurd (sM λj j=>0) (Met.not rfl)|ok env=>exact⟨hd.1.keeps a2.F.r.h.keep,I.C pt zw _ κ R s2 ak a2 sM (h.go (G.trans G'))⟩
 induction Z:fd.body with
 |stmts body=>rw[Z]at Y;exact FO xd ho sL X.1.1 X.1.2 Z NB Y|expr body=>rw[Z]at Y;exact kla_callFunE xd ho sL X.1.1 X.1.2 Z NB Y
theorem Goes.push{led:List (af×aq)}{h:aw}{o:aq}(e:h.objs.size=sz):Goes led h ((sz,o)::led) (h.push o):=by
 refine⟨λz H e j=>cZ _ e,λz H e=>⟨H,cZ _ e⟩,λp hp=>?_⟩;rcases a9.mp hp with rfl|hp
 ·exact .inl (wR (qu e))
 ·exact .inr ⟨p,hp,rfl⟩
theorem Goes.set{led:List (af×aq)}{h:aw}{i:Nat}{p:af×aq}{f:aq->aq}(J:led[i]?=some p)(hh:h.get? p.1=some p.2)(Z:(f p.2).isFreed=false):Goes led h (led.set i (p.1,f p.2)) (h.update p.1 f):=by
 have X:lb p.1 h (h.update p.1 f):=ia ..;refine⟨λz Y H nz=>(X.2 z λq=>nz p (ja J) q.symm).trans H,λz Y H=>?_,λq hq=> .inr (Zu J q hq)⟩;by_cases q:z=p.1;·exact rR q ⟨_,nM f hh Z⟩
 ·exact⟨Y,(X.2 z q).trans H⟩
theorem gm.load(I:gm B P D){a:af}{X:Option ag}{k:aq->ca α}{κ:Except ag α->Xs->WS->Rs O}{Q:α->am->Prop}(J:B.At ak st s)(H:∀Z,Met P (Cu B.x D pt Z st (.load a X k) κ))(h:B.End P ak st s κ (Cw Q E)):aG B.M (gH B.bE pt) (.load a X k) Q E s:=by
 refine aO (Met.cr H) λq j H=>?_;obtain⟨e,X⟩:=q;induction e with
 |zero=>refine aO (Met.cr H) λo X H=>?_;exact nd_load (J.F.r.h.keep _ _ (B.X _ _ X)) (I.S pt _ _ κ Q E s ak J.ev H h)|succ i=>refine aO (Met.cr H) λp Y H=>?_;refine d7 (Met.vi H) λe H2=>?_;replace e:=Ob.zy e;subst e;exact nd_load (J.F.r.h.idx Y) (I.S pt _ _ κ Q E s ak J.ev H2 h)
theorem gm.update(I:gm B P D){a:af}{Z:Option ag}{f:aq->aq}{k:Unit->ca α}{κ:Except ag α->Xs->WS->Rs O}{Q:α->am->Prop}(J:B.At ak st s)(H:∀σ,Met P (Cu B.x D pt σ st (.update a Z f k) κ))(h:B.End P ak st s κ (Cw Q E)):aG B.M (gH B.bE pt) (.update a Z f k) Q E s:=by
 refine aO (Met.cr H) λq j H=>?_;obtain⟨e,ev⟩:=q;induction e with
 |zero=>exact absurd (H λj j=>0) (Met.not rfl)|succ i=>refine aO (Met.cr H) λp X H=>?_;refine d7 (Met.pM H) λY H=>?_;refine d7 (Met.vi H) λe H2=>?_;replace e:=Ob.zy e;subst e;have H:lb p.1 s.heap (s.heap.update p.1 f):=ia ..;exact ZA (J.F.r.h.idx X) (I.S pt { st with ev:=ev,led:=st.led.set i _ } _ κ Q E { s with heap:=s.heap.update p.1 f } ak ⟨⟨⟨J.F.r.h.update X Y,J.F.r.os,J.F.r.gens,J.F.r.same⟩,H.1▸J.F.sz,J.F.tk⟩,J.ok.imp λlv k=>⟨λb H=>rR (map_set _ _ p (p.1,f p.2) X rfl) (k.1 b H),k.2⟩⟩ H2 (h.go (Goes.set X (J.F.r.h.idx X) Y)))
theorem gm.ask(I:gm B P D){k:BN->ca α}{κ:Except ag α->Xs->WS->Rs O}{Q:α->am->Prop}(J:B.At ak st s)(H:∀Y,Met P (Cu B.x D pt Y st (.ask k) κ))(h:B.End P ak st s κ (Cw Q E)):aG B.M (gH B.bE pt) (.ask k) Q E s:=by
 refine nd_ask ?_;rcases Met.cond H with H|H
 ·refine d7 (Met.vi H) λe H=>?_;have X:∀b,k (Cq b ⟨B.prog,B.w.params⟩)=k _:=λb=>by
   induction b with
   |false=>exact(Ob.ZF e).symm|true=>rfl
  show aG B.M _ _ ..;exact rR ((congrArg k (congrArg (λv:aj=>(⟨B.prog,v.params⟩:BN)) (World.withFollow_self B.w "special-get-raises")).symm).trans (X _)) (I.S pt _ _ κ Q E s ak J.ev H h)
 ·exact I.S pt _ _ κ Q E s ak J H h
theorem gm.told{c:bB}{ev:List Nat}{κ:cw->Xs->WS->Rs O}{os:aF}(J:Fits B.ao B.aa ak st s)(sN:∀b∈lv,b∈st.led.map (·.1))(ok:os.Ok B.ao B.M B.bE B.U B.aJ B.aa lv)(H:∀σ,Met P (stepT B.x pt σ st ev c κ os))(h:B.End P ak st s κ R):eC B.M (gH B.bE pt) c R s:=by
 induction os with
 |nil=>exact absurd (H λj j=>0) (Met.not rfl)|cons any c0 ix pre out next=>
  refine zn ok λhl hn ht hx=>?_;refine d7 (Met.pL H) λhq H=>?_;refine d7 (Met.vi H) λhc H=>?_;refine d7 (Met.vi H) λX H2=>?_;replace hc:=Ob.ZD hc;replace X:=Ob.ZE X;subst hc;have hR:∀x s',s'.heap.objs.size=(out x).sz->s'.toks=(out x).tk->(out x).post.map (·.1)=pre.map (·.1)->_->ay B.ao B.aa ak ((out x).new++(out x).post) s'->sK pre s.heap s'.heap->R (out x).res s':=λx s' hs kj H vj hr ZI=>by
   refine cI (J.r.h.told hn X H vj hr.h ZI) λa1 a2 a4=>?_;have Z:∀b∈lv++pre.map (·.1),b∈st.led.map (·.1):=λb hb=>(cq.mp hb).elim (sN b) λhb=>by refine aO (bq.mp hb) λp Y eq1=>?_;subst eq1;refine aO (bq.mp (X▸b6 Y)) λi u H=>?_;exact b6 (ja H)
   refine h (out x).res ⟨(out x).new++putAll st.led ix (out x).post,(out x).sz,(out x).tk,_,next x⟩ s' ⟨⟨⟨a1,hr.os,hr.gens,hr.same⟩,hs,kj⟩,⟨_,λb hb=>?_,hx x (λb hb=>?_) λp Y=>by rw[<-hs];exact a1.low p (bL _ Y)⟩⟩ a2 λσ=>Met.frame (H2 (ZC x σ))
   ·rw[bM,a4];rcases cq.mp hb with hb|hb
    ·exact bD _ (Z b hb)
    ·exact bL _ hb
   ·have f5:=Z b hb;refine aO (bq.mp f5) λp Y eq2=>?_;subst eq2;rw[<-a4]at f5;refine aO (bq.mp f5) λp' Z H=>?_;exact⟨by simp only[<-hs,<-H];exact a1.low p' (bD _ Z),λq hq e=>by have z:=J.r.h.at_ p Y;simp only[e,vj q hq]at z;injection z⟩
  have NC:ay B.ao B.aa ak pre s:=⟨J.r.h.sel hn X,J.r.os,J.r.gens,J.r.same⟩
  induction any with
  |some nn=>have H:=dh hq;exact ht _ (rR (GH _) B.hA) (λY=>rR (GI _) (aE (qu (L2 ..)) (aE (yW H _) (B.hd (qr Y (aE (dF ..) H))).2))) (gH B.bE pt).units s ak R (a8 _) NC (λL hL=>by injection hL) hR|none=>have H:(pt.all Co && yV (pt.map FN).sum B.ub && Cp ..)=true:=hq;simp only[gw]at H;refine rR (NA pt H.1.1) ?_;refine ht _ s ak R (aE (yW (dh H.1.2) _) B.hU) NC (λL hL=>?_) hR;have Z:Met P (xb B.aJ st.led _):=H2 λj j=>0;have Y:=H.2;rw[hL]at Z Y;exact ZG J.r Y Z (λi H=>bq.mp (X▸b6 H))
theorem gm.ZJ(I:gm B P D){c:bB}{κ:cw->Xs->WS->Rs O}(J:B.At ak st s)(H:∀X,Met P (cr (Ct c) λp=>cr (zu p.1) λa=>Nu B.x D pt X st a p.2 κ))(h:B.End P ak st s κ R):eC B.M (gH B.bE pt) c R s:=by refine aO (Met.cr H) λp Y H=>?_;refine aO (Met.cr H) λa e2 H=>?_;refine aO (Met.cr H) λo X H=>?_;refine aO (Met.cr H) λfd Z H=>?_;refine d7 (Met.pL H) λe4 H=>?_;exact rR (No Y) (rR (GE e2) (I.body J H h (J.F.r.h.keep _ _ (B.X _ _ X)) (Nn Z) (BQ (λH H H=>J.F.r.h.keep _ _ (B.X _ _ H)) e4)))
theorem gm.ZK(I:gm B P D){i:Nat}{a:af}{κ:cw->Xs->WS->Rs O}(J:B.At ak st s)(H:∀X,Met P (Nv B.x D pt X st i j a args κ))(h:B.End P ak st s κ R):eC B.M (gH B.bE pt) (.call (.ref a) args) R s:=by refine aO (Met.cr H) λp h1 H=>?_;refine aO (Met.cr H) λq X H=>?_;refine aO (Met.cr H) λfd e3 H=>?_;refine aO (Met.cr H) λY e4 H=>?_;refine aO (Met.cr H) λvs Y H=>?_;refine aO (Met.cr H) λv e8 H=>?_;refine aO (Met.cr H) λn Z H=>?_;refine d7 (Met.pL H) λZL H=>?_;refine d7 (Met.vi H) λha H=>?_;refine d7 (Met.vi H) λhc H=>?_;refine BR (Zs Z) λt Z=>?_;exact I.body J H h (rR (Ob.zy ha) (J.F.r.h.idx h1)) (Nn e3) ⟨q.1,q.2,vs,t,(GE e4).trans (congrArg _ (Ob.zy hc)),J.F.r.h.idx X,Zr Y,e8.trans (congrArg some (Z.trans (congrArg (ag.str · t) (beq_iff_eq.mp ZL))))⟩
theorem gm.step(I:gm B P D):gm B P (step B.x D):=by
 refine⟨?_,?_⟩
 ·intro α pt st t κ Q E s ak J H h;induction t using WQ with
  |pure a=>exact nd_pure (h _ st s J .refl H)|raise x=>exact Zy (h _ st s J .refl H)|rule _ k=>exact nd_rule (I.S pt st _ κ Q E s ak J H h)|«at» _ k=>exact Zx (I.S pt st _ κ Q E s ak J H h)|point _ k=>exact nd_point (I.S pt st _ κ Q E s ak J H h)|ask k=>exact I.ask J H h|fresh k=>exact nd_fresh (I.S pt { st with tk:=st.tk+1 } _ κ Q E { s with toks:=s.toks+1 } ak ⟨⟨⟨J.F.r.h,J.F.r.os,J.F.r.gens,J.F.r.same⟩,J.F.sz,congrArg _ J.F.tk⟩,J.ok⟩ (rR J.F.tk H) h)|handled o k=>refine d7 (Met.pM H) λe H=>?_;subst e;exact Zz (rR ((GH pt).trans B.hA) (I.S pt st _ κ Q E s ak J H h))|load a pp k=>exact I.load J H h|alloc o k=>refine d7 (Met.pM H) λhf H=>?_;exact nd_alloc (I.S pt { st with led:=_::st.led,sz:=st.sz+1 } _ κ Q E { s with heap:=s.heap.push o } ak ⟨⟨⟨J.F.sz▸J.F.r.h.alloc hf,J.F.r.os,J.F.r.gens,J.F.r.same⟩,(qv ..).trans (congrArg _ J.F.sz),J.F.tk⟩,J.ok.imp λlv k=>⟨λb hb=>aB (k.1 b hb),k.2⟩⟩ (rR J.F.sz H) (h.go (Goes.push J.F.sz)))|update a pp f k=>exact I.update J H h|call c hd g l k=>
   induction hd with
   |none=>exact Nz (I.C pt st c _ _ s ak J H λr Y s' Z G X=>I.S pt Y _ κ Q E s' ak Z X (h.go G))|some _=>exact absurd (H λj j=>0) (Met.not rfl)
  |_=>exact absurd (H λj j=>0) (Met.not rfl)
 ·intro pt st c κ R s ak J H h;refine aO (Met.cr H) λq j H=>?_;obtain⟨e,ev⟩:=q;induction e using r9 with
  |zero=>
   refine aSh ?_;show aG B.M _ (uN gy c) ..;rw[table_eq_tree];refine I.S (c::pt) _ _ _ _ _ s ak J.ev H λr Y s' Z G X=>?_;induction r with
   |error e=>exact h _ Y s' Z G X|ok f=>induction f with
    |done f=>exact h _ Y s' Z G X|again c'=>exact d7 (Met.pL X) λhq X=>⟨hq,I.C pt Y c' κ R s' ak Z X (h.go G)⟩
  |succ n=>
   induction n using r9 with
   |zero=>exact I.ZJ J.ev H h|succ n=>
    induction n using r9 with
    |zero=>refine aO J.ok λlv X ok=>?_;exact gm.told J.F X ok H h|succ n=>refine aO (Met.cr H) λp X H=>?_;refine aO (Met.cr H) λa e2 H=>?_;refine aO (Met.cr H) λi j H=>?_;refine aO (Met.cr H) λj e H=>?_;exact rR (No X) (rR (GE e2) (I.ZK J.ev H h))
theorem gm.all:∀n,gm B P (run B.x n)
 |0=>⟨λz z z z z z z z z H z=>absurd (H λz z=>0) (Met.not rfl),λz z z z z z z z H z=>absurd (H λz z=>0) (Met.not rfl)⟩|n+1=>(gm.all n).step
end
section
variable {K:uL}{ub:Nat}{P:O->Prop}
theorem zz(X:K.In aa)(hA:A.handled=none)(hd:0< dep->aa.NoLimit/\A.depth+dep<=bk)(hU:A.units+ub<=U)(n:Nat):Sound ao prog w K aa A dep ub U fr P (run ⟨⟨prog,w.params⟩,K,dep,ub,fr⟩ n):=have I:gm (Bd.mk ao prog w K aa A dep ub U fr X hA hd hU) P _:=gm.all n
 ⟨λJ Z t κ Q E s ak F Y H h=>I.S J Z t κ Q E s ak ⟨F,Y⟩ H λr cJ s' a G hm=>by have:=h r cJ s' a.F a.ok G hm;induction r<;>exact this,λJ Z c κ R s ak F Y H h=>I.C J Z c κ R s ak ⟨F,Y⟩ H λr cJ s' a G hm=>h r cJ s' a.F a.ok G hm⟩
end
def fin(r:β)(_:Xs)(H:WS):Rs (β×WS):=nc (some ([],(r,H)))
def view(H:List Nat)(x:Rs (β×WS)):Option (β×List (Option (af×aq))×Nat×Nat):=nc (match x with
 |some p=>some (p.2.1,H.map (λi=>p.2.2.led[i]?),p.2.2.sz,p.2.2.tk)|none=>none)
def NF(x:Rs β):List Ob:=nc (match x with
 |some p=>p.1.map (·.1)|none=>[])
def NG(x:Rs β):List Ob:=nc (match x with
 |some p=>p.1.map (·.2)|none=>[])
abbrev Ends(H:List Nat)(x:Rs (β×WS))(y:β×List (Option (af×aq))×Nat×Nat):Prop:=(view H x,NF x)=(some y,NG x)
section
variable {led:List (af×aq)}{h:aw}
theorem Cy{P:β×WS->Prop}{H:List Nat}{x:Rs (β×WS)}{y:β×List (Option (af×aq))×Nat×Nat}(X:Ends H x y)(Y:∀r J,(r,H.map (λi=>J.led[i]?),J.sz,J.tk)=y->P (r,J)):Met P x:=by
 have e:view H x=some y:=congrArg WW X;induction x with
 |none=>injection e|some p=>refine⟨p.1,_,rfl,λq Z=>?_,Y p.2.1 p.2.2 (dG e)⟩;obtain⟨i,hi⟩:=Me Z;have a:(p.1.map (·.1))[i]?=(p.1.map (·.2))[i]?:=congrArg (·[i]?) (congrArg wS X);simp only[dL,dL,hi]at a;exact dG a
end
section
variable {K:uL}
theorem wp_run{t:ca α}{Q:α->am->Prop}(SR:ay ao aa ak pre s)(X:K.In aa)(hA:A.handled=none)(dep ub n:Nat)(ev J:List Nat)(Z:aF)(gn:(∀p∈pre,p.1< s.heap.objs.size)->Z.Ok ao (aR prog w) A U fr aa (pre.map (·.1)))(hd:0< dep->aa.NoLimit/\A.depth+dep<=bk)(hU:A.units+ub<=U)(nd:J.Nodup)(Y:Xs->α)(ents:Xs->List (af×aq))(sz tk:Xs->Nat)(e:∀H,Ends J ((run ⟨⟨prog,w.params⟩,K,dep,ub,fr⟩ n).S [] H ⟨pre,s.heap.objs.size,s.toks,ev,Z⟩ t fin) (.ok (Y H),(ents H).map some,sz H,tk H))(h:∀H s',ay ao aa ak (ents H) s'->s'.heap.objs.size=sz H->s'.toks=tk H->Goes pre s.heap (ents H) s'.heap->Q (Y H) s'):aG (aR prog w) A t Q E s:=by
 refine(zz (P:=λo:Except ag α×WS=>∃H,(o.1,J.map (λi=>o.2.led[i]?),o.2.sz,o.2.tk)=(.ok (Y H),(ents H).map some,sz H,tk H)) X hA hd hU n).S [] ⟨pre,s.heap.objs.size,s.toks,ev,Z⟩ t fin Q E s ak ⟨SR,rfl,rfl⟩ ⟨_,λz=>id,gn SR.h.low⟩
  (λH=>Cy (e H) λr J h=>⟨H,h⟩) λr J s' F z G hm=>?_;obtain⟨j,j,e1,j,H,e2⟩:=hm λz z=>0;cases e1;simp only[si]at e2;obtain⟨rfl,e3,e4,e5⟩:=e2;exact h H s' ⟨F.r.h.sel nd e3,F.r.os,F.r.gens,F.r.same⟩ (F.sz.trans e4) (F.tk.trans e5) (G.sel e3)
end
end
variable {M:fU}{out:(Nat->Nat)->Out}{body:List ck}
section
variable {h:aw}{m:Str->Option ag}
end
section
variable {h:aw}{m:Str->Option ag}
abbrev GJ(fd:uM)(d:Option af):Obj:=nc (⟨.type "function",d, .func fd,#[]⟩)
end
def NH(H:Option ck):List Stmt:=pB H 0
def ZM(H:Option ck):BE×Expr×Scope:=eL (pE H 0)
def ZN(H:Option ck):BE×Expr×Scope:=ZM ((NH H)[2]?)
noncomputable def GK:{p:BE×Expr×LZ // p=ZN (jM 20)}:=by apply aSi;conv=>rhs;whnf
abbrev GL(Z:Str)(X:af)(J:ag)(H:af)(Y:ag):Obj:=kla_obj "<lambda>" Z GK.1.1 GK.1.2.1 GK.1.2.2 [("signs",X)] J H Y
abbrev Cz(w:aj)(n:Int)(tn:ab)(Y pb:af)(H J X k4 Z:ab):Obj:=nc (Mf [⟨aS w.params "lineno", .str "lineno" H, .int n tn⟩,⟨aS w.params "instream", .str "instream" J, .ref Y⟩,⟨aS w.params "whitespace", .str "whitespace" X, .str "\n\t\r " Z⟩,⟨aS w.params "pushback", .str "pushback" k4, .ref pb⟩] 4)
abbrev GM(w:aj)(H:af)(k:ab):Obj:=nc (Mf [⟨aS w.params "read", .str "read" k, .ref H⟩] 1)
structure KX where
 p:c9
 loose:List Str
 sO:WX->Option ag
 mg:Str->Option ag
 mb:Str->Option ag
 dp:Nat
 un:Nat
 gd:Option (List bB)
 cn:Str
 nms:List (Str×BS)
 xe:Bool
 xf:Bool
 xg:List (Str×Const)
 a:af
 mq:ag
 cl:List (Str×af)
 outer:List k7
 ZO:aD
 base:aw
 aa:aw
 L:af
abbrev KX.sc(k:KX):Scope:=nc (⟨.function,k.nms,k.xe,k.xf,k.xg⟩)
abbrev KX.bE(k:KX):Around:=nc (ktrTop k.dp k.un k.gd k.cn k.sc k.L k.a k.mq k.cl k.outer)
structure KX.Ok(k:KX)(w:aj):Prop where
 B:Below k.ZO k.base k.outer k.aa
 X:aK w k.aa
 T:Top k.p k.loose k.sO k.mg k.mb k.aa
 C:CodeHd k.base 256 252
def nV(w:aj)(c:bB)(n:Nat)(pre:List (af×aq))(out:(Nat->Nat)->Out):Prop:=∀(k:KX)(m:Str->Option ag)(news:List (af×aq))(s:am)(R:cw->am->Prop),k.Ok w->Fr k.aa k.L s.heap m->px k.aa k.L s.heap (pre++news)->(pre.map (·.1)).Nodup->(∀q∈news,∀p∈pre,q.1≠p.1)->k.dp+n< bk->k.un+40*n< dP->(∀x∈s.gens,WR x=true)->(∀x s',s'.heap.objs.size=(out x).sz->s'.toks=(out x).tk->s'.os=s.os->(∀x∈s'.gens,WR x=true)->Fr k.aa k.L s'.heap m->px k.aa k.L s'.heap ((out x).new++((out x).post++news))->((out x).new.map (·.1)).Nodup->(∀p∈(out x).new,∀q∈pre++news,q.1≠p.1)->s'.heap.get? k.L=s.heap.get? k.L->R (out x).res s')->eC (av w) k.bE c R s
noncomputable def others(h aa:aw)(L:af)(H:List af):List (af×aq):=(fH h.objs.size).filterMap λb=>match h.get? b with
 |some o=>if b=L\/b∈H\/(aa.get? b).isSome=true then none else some (b,o)|none=>none
theorem vk{h aa:aw}{L:af}{J:List af}{p:af×aq}:p∈others h aa L J ↔ h.get? p.1=some p.2/\p.1≠L/\p.1 ∉ J/\aa.get? p.1=none:=by
 unfold others;rw[List.mem_filterMap];constructor
 ·rintro ⟨b,j,e⟩;split at e
  ·rename_i o X;split at e;·injection e
   ·rename_i H;injection e with e;subst e
    refine⟨X,λq=>H (.inl q),λq=>H (.inr (.inl q)),?_⟩;induction z:aa.get? b with
    |none=>rfl|some o'=>exact absurd (.inr (.inr (by rw[z];rfl))) H
  ·injection e
 ·rintro ⟨e,Y,Z,n3⟩;refine⟨p.1,aSj.mpr (dH e),?_⟩;rw[e];dsimp only;rw[if_neg (by rintro (q|q|q);exact Y q;exact Z q;replace q:=n3▸q;injection q)]
abbrev fk(w:aj)(wr:ag)(b J rn:Bool)(dl ds ns Z Y:af)(X:ab)(ep:Nat)(H:Fin 17->ab):Obj:=nc (Mf [⟨aS w.params "_write", .str "_write" (H 0),wr⟩,⟨aS w.params "_data", .str "_data" (H 1), .ref dl⟩,⟨aS w.params "_with_comments", .str "_with_comments" (H 2), .bool false⟩,⟨aS w.params "_strip_text", .str "_strip_text" (H 3), .bool b⟩,⟨aS w.params "_exclude_attrs", .str "_exclude_attrs" (H 4), .none⟩,⟨aS w.params "_exclude_tags", .str "_exclude_tags" (H 5), .none⟩,⟨aS w.params "_rewrite_prefixes", .str "_rewrite_prefixes" (H 6), .bool false⟩,⟨aS w.params "_qname_aware_tags", .str "_qname_aware_tags" (H 7), .none⟩,⟨aS w.params "_find_qname_aware_attrs", .str "_find_qname_aware_attrs" (H 8), .none⟩,⟨aS w.params "_declared_ns_stack", .str "_declared_ns_stack" (H 9), .ref ds⟩,⟨aS w.params "_ns_stack", .str "_ns_stack" (H 10), .ref ns⟩,⟨aS w.params "_prefix_map", .str "_prefix_map" (H 11), .ref Z⟩,⟨aS w.params "_preserve_space", .str "_preserve_space" (H 12), .ref Y⟩,⟨aS w.params "_pending_start", .str "_pending_start" (H 13), .none⟩,⟨aS w.params "_root_seen", .str "_root_seen" (H 14), .bool J⟩,⟨aS w.params "_root_done", .str "_root_done" (H 15), .bool rn⟩,⟨aS w.params "_ignored_depth", .str "_ignored_depth" (H 16), .int 0 X⟩] ep)
theorem ZP(l:af)(vs:List ag)(v:ag)(e:Nat)(Z:vs.length<=1000):Told ao (av w) A U fr aa (bC "list.append" [.ref l,v]) [(l,listOf vs.toArray e)] (λx=>⟨.ok (.ret .none),[(l,listOf (vs++[v]).toArray (e+1))],[],x 0,x 1⟩):=by intro u s ak R J H j hR;have X:=H.h.at_ _ az;refine dJ aSk.plain aSl (aSk.check _ _ _ _ _ _ _ _ ⟨_,X,rfl⟩ (PySem.F.args_list_append_2 _ _) ?_);show aG _ _ (updateSeq l _>>=λz=>ret .none) ..;have kr:vs.toArray.size<=sizeLine:=aE Z (by decide);refine au (FP X rfl (aH ?_) kr (by rw[aSm];omega));have J:=H.h.update (i:=0) (f:=λo=>o.mapSeq (·.push v)) rfl rfl;have Y:lb l s.heap (s.heap.update l λo=>o.mapSeq (·.push v)):=ia ..;have e1:mS _ _=listOf (vs++[v]).toArray (e+1):=rL (aSn ..) (mapSeq_push ..);replace J:f4 aa [(l,mS _ _)] _:=J;rw[e1]at J;exact hR (λi=>bif bY i 0 then s.heap.objs.size else s.toks) _ Y.1 rfl rfl (λp X=>nomatch X) ⟨J,H.os,H.gens,H.same⟩ λb o J H=>(Y.2 b (H _ az).symm).trans J
abbrev ik(i:Nat)(l:af)(vs:List ag)(e:Nat)(v:ag)(next:aM):aF:= .cons (some 0) (bC "list.append" [.ref l,v]) [i] [(l,aA vs e)] (λx=>⟨.ok (.ret .none),[(l,aA (vs++[v]) (e+1))],[],x 0,x 1⟩) next
theorem lr{i:Nat}{l:af}{e:Nat}{v:ag}{next:aM}(H:vs.length<=1000)(h:∀x:Nat->Nat,(∀b∈lv++[l],b< x 0)->(next x).Ok ao (av w) A U fr aa (lv++[l]++[])):(ik i l vs e v next).Ok ao (av w) A U fr aa lv:=⟨rfl,ci.mpr ⟨bi,bN⟩,λJ J z=>ZP l vs v e H,λx H z=>h x λb J=>(H b J).1⟩
theorem NI(l:af)(vs:List ag)(e k:Nat)(X:vs.length=k)(Z:k<=1001):Told ao (av w) A U fr aa (.builtin "len" ⟨[.ref l],[]⟩) [(l,listOf vs.toArray e)] (λx=>⟨.ok (.ret (.int k (x 2))),[(l,listOf vs.toArray e)],[],x 0,x 1⟩):=by
 intro u s ak R hu H j hR;have J:((vs.toArray.size:Nat):Int)=(k:Int):=by rw[py,X]
 refine qw WY ?_;have Y:((vs.toArray.size:Nat):Int)< 2 ^ 63:=by exact rR J (iB [(k:Nat)] [lE Y0 1001] (lL Y0 9223372036854775808) rfl (bK.mpr Z))
 refine pz (PySem.wpAny_len_body_list (Q:=λr s'=>r= .int k _/\s'={ s with toks:=s.toks+1+1 }) ⟨_,(H.h.at_ _ az),rfl,e,rfl⟩ Y ⟨rR J rfl,rfl⟩) (λJ s' h'=>?_) λz z e=>e;obtain⟨r,rfl,rfl,rfl⟩:=h';exact hR (λi=>bif bY i 0 then s.heap.objs.size else bif bY i 1 then s.toks+1+1 else s.toks+1) _ rfl rfl rfl (λp J=>nomatch J) ⟨H.h,H.os,H.gens,H.same⟩ λb o H J=>H
theorem xh(l:af)(vs:List ag)(y:ag)(e:Nat)(Z:vs.length<=1000):Told ao (av w) A U fr aa (bC "list.pop" [.ref l]) [(l,listOf (vs++[y]).toArray e)] (λx=>⟨.ok (.ret y),[(l,listOf vs.toArray (e+1))],[],x 0,x 1⟩):=by
 intro u s ak R H J z hR;have X:=J.h.at_ _ az;have Y:(vs++[y]).toArray.size - 1=vs.length:=by refine rR py (rR bQ ?_);rfl
 have hy:(vs++[y]).toArray[(vs++[y]).toArray.size - 1]?=some y:=by simp
 have he:(vs++[y]).toArray.eraseIdxIfInBounds vs.length=vs.toArray:=by have:=PySem.W.kl_erase vs [] y;rwa [dQ]at this
 have H:=J.h.update (i:=0) (f:=λo=>o.mapSeq λa=>a.eraseIdxIfInBounds ((vs++[y]).toArray.size - 1)) rfl rfl;have sb:lb l s.heap (s.heap.update l λo=>o.mapSeq λa=>a.eraseIdxIfInBounds ((vs++[y]).toArray.size - 1)):=ia ..;refine dJ aSo.plain PySem.F.entry_list_pop (aSo.check _ _ _ _ _ _ _ _ ⟨_,X,rfl⟩ (PySem.F.args_list_pop_1 _) ?_);refine aWs l _ e y hy (rR py (rR bQ (aE (sj Z) (by decide)))) _ _ _ _ _ ⟨X,?_⟩;have e1:mS (λa=>a.eraseIdxIfInBounds ((vs++[y]).toArray.size - 1)) (listOf (vs++[y]).toArray e)=listOf vs.toArray (e+1):=by
  have Z:=H.at_ _ az;have q':(s.heap.update l λo=>o.mapSeq λa=>a.eraseIdxIfInBounds _).get? l=some _:=(PySem.IsL.update X λa=>a.eraseIdxIfInBounds ((vs++[y]).toArray.size - 1))
  dsimp only[List.set]at Z;rw[Z]at q';have X:=dG q';rw[Y,he]at X;rw[Y];refine X.trans ?_;rw[if_neg (by simp)]
 replace H:f4 aa [(l,mS _ _)] _:=H;rw[e1]at H;exact hR (λi=>bif bY i 0 then s.heap.objs.size else s.toks) _ sb.1 rfl rfl (λp X=>nomatch X) ⟨H,J.os,J.gens,J.same⟩ λb o J H=>(sb.2 b (H _ az).symm).trans J
abbrev vm(i:Nat)(l:af)(vs:List ag)(e k:Nat)(next:aM):aF:= .cons (some 0) (.builtin "len" ⟨[.ref l],[]⟩) [i] [(l,aA vs e)] (λx=>⟨.ok (.ret (.int k (x 2))),[(l,aA vs e)],[],x 0,x 1⟩) next
abbrev xi(i:Nat)(l:af)(vs:List ag)(y:ag)(e:Nat)(next:aM):aF:= .cons (some 0) (bC "list.pop" [.ref l]) [i] [(l,aA (vs++[y]) e)] (λx=>⟨.ok (.ret y),[(l,aA vs (e+1))],[],x 0,x 1⟩) next
theorem nX{H:Nat}{c:bB}{i:Nat}{l:af}{o:aq}{next:aM}(X:∀J:aD,J.handled=none->(0< H->J.depth+H<=bk)->Told ao M J J.units none aa c [(l,o)] out)(h:∀x:Nat->Nat,(∀b∈lv++[l],b<(out x).sz/\∀p∈(out x).new,b≠p.1)->(∀p∈(out x).new,p.1<(out x).sz)->(next x).Ok ao M A U fr aa (lv++[l]++(out x).new.map (·.1))):(aF.cons (some H) c [i] [(l,o)] out next).Ok ao M A U fr aa lv:=⟨rfl,ci.mpr ⟨bi,bN⟩,X,λx J H=>h x J H⟩
section
open PySem PySem.W PyProof.Rows PySem.P
noncomputable section
theorem eM{T:String}{B:Builtin}{rest:List ag}{m:Made}{r:Nat->ag}(H:yX T name id)(J:me gy id=some B)(args:lc id ⟨self::rest,[]⟩)(g:Mg (B ⟨self::rest,[]⟩) m)(Y:∀s:am,s.TypeIs self T)(Z:∀(Q:ag->am->Prop)(s:am),(∀t tk,Q (r t) { s with toks:=tk })->m.post Q s):Told ao (av w) A U fr aa (.call (.builtin id) ⟨self::rest,[]⟩) [] (λx=>⟨.ok (.ret (r (x 2))),[],[],x 0,x 1⟩):=by intro u s ak R X X j hR;refine dJ H.plain J (H.check _ _ _ _ _ _ _ _ (Y s) args (g _ _ _ _ _ (Z _ s λt tk=>?_)));exact hR (λi=>bif bY i 0 then s.heap.objs.size else bif bY i 1 then tk else t) _ rfl rfl rfl (λz H=>absurd H bi) ⟨X.h,X.os,X.gens,X.same⟩ λb o H J=>H
abbrev cK(id:String)(args:List ag)(r:Nat->ag)(next:aM):aF:=nc (.cons (some 0) (.call (.builtin id) ⟨args,[]⟩) [] [] (λx=>⟨.ok (.ret (r (x 2))),[],[],x 0,x 1⟩) next)
theorem dY{args:List ag}{r:Nat->ag}{next:aM}(J:∀H:aD,Told ao (av w) H H.units none aa (.call (.builtin id) ⟨args,[]⟩) [] (λx=>⟨.ok (.ret (r (x 2))),[],[],x 0,x 1⟩))(h:∀x:Nat->Nat,(∀b∈lv,b< x 0)->(next x).Ok ao (av w) A U fr aa lv):(cK id args r next).Ok ao (av w) A U fr aa lv:=⟨rfl,bN,λH z z=>J H,λx H z=>by simp only[wT,dQ]at H ⊢;exact h x λb J=>(H b J).1⟩
theorem ZQ{x y:Str}{b:Bool}(h:(x.cps.toList==y.cps.toList)=b):Told ao (av w) A U fr aa (bC "str.__eq__" [.str x t, .str y u]) [] (λx=>⟨.ok (.ret (.bool b)),[],[],x 0,x 1⟩):=eM (r:=λz=> .bool b) PySem.F.slot_str_eq PySem.F.entry_str_eq (PySem.F.args_str_eq_2 _ _) (gives_str_eq x y t u) (λs=>ib ..) λQ s k=>h▸k 0 s.toks
abbrev cB(x y:Str)(t u:ab)(b:Bool)(next:aM):aF:=cK "str.__eq__" [.str x t, .str y u] (λ_=> .bool b) next
theorem ZR{x y:Str}{b:Bool}(h:(!(ka x y 0 x.length 1).isEmpty)=b):Told ao (av w) A U fr aa (bC "str.__contains__" [.str x t, .str y u]) [] (λx=>⟨.ok (.ret (.bool b)),[],[],x 0,x 1⟩):=eM (r:=λz=> .bool b) PySem.F.slot_str_contains PySem.F.entry_str_contains (PySem.F.args_str_contains_2 _ _) (gives_str_contains x y t u) (λs=>ib ..) λQ s k=>h▸k 0 s.toks
abbrev mr(x y:Str)(t u:ab)(b:Bool)(next:aM):aF:=cK "str.__contains__" [.str x t, .str y u] (λ_=> .bool b) next
theorem ZS{x y z:Str}(h:x++y=z)(H:x.length+y.length<=gz):Told ao (av w) A U fr aa (bC "str.__add__" [.str x t, .str y u]) [] (λx=>⟨.ok (.ret (.str z (x 2))),[],[],x 0,x 1⟩):=eM PySem.F.slot_str_add PySem.F.entry_str_add (PySem.F.args_str_add_2 _ _) (gives_str_add x y t u) (λs=>ib ..) λQ s k=>by subst h;exact PySem.SB.post_add H λH J=>k H J
abbrev cP(x y z:Str)(t u:ab)(next:aM):aF:=cK "str.__add__" [.str x t, .str y u] (λt=> .str z t) next
section
variable {x y z:Str}{b:Bool}{next:aM}
theorem dB(h:(x.cps.toList==y.cps.toList)=b)(k:bJ next ao w A U fr aa):(cB x y t u b next).Ok ao (av w) A U fr aa lv:=dY (λz=>ZQ h) λe z=>k e lv
theorem nY(h:(!(ka x y 0 x.length 1).isEmpty)=b)(k:bJ next ao w A U fr aa):(mr x y t u b next).Ok ao (av w) A U fr aa lv:=dY (λz=>ZR h) λe z=>k e lv
theorem nZ(h:x++y=z)(H:x.length+y.length<=gz)(k:bJ next ao w A U fr aa):(cP x y z t u next).Ok ao (av w) A U fr aa lv:=dY (λj=>ZS h H) λe j=>k e lv
end
abbrev Any(ao:Prop)(w:aj)(aa:aw)(n:Nat)(c:bB)(pre:List (af×aq))(out:(Nat->Nat)->Out):Prop:=∀H:aD,H.handled=none->(0< n->H.depth+n<=bk)->Told ao (av w) H H.units none aa c pre out
theorem aF.Ok.units{u:Nat}:∀(H:aF)lv,H.Ok ao (av w) A U none aa lv->H.Ok ao (av w) { A with units:=u } U none aa lv:=by
 intro H;induction H with
 |nil=>exact λz=>id|cons any c ix pre out next ih=>exact λn h=>⟨h.1,h.2.1,(by induction any<;>exact h.2.2.1),λx J H=>ih x _ (h.2.2.2 x J H)⟩
theorem bS{c:bB}(X:aK w aa)(NL:aa.NoLimit)(N:Nat)(ev H:List Nat)(os:Nat->Nat->aF)(nd:H.Nodup)(Z:Nat->Nat->Xs->Nat->Nat)(jj:∀x,(out x).post.map (·.1)=pre.map (·.1))(gn:∀Y:aD,Y.handled=none->∀sz tk,(∀p∈pre,p.1< sz)->(os sz tk).Ok ao (av w) Y Y.units none aa (pre.map (·.1)))(e:∀sz tk J,Ends H ((aI w n 0 none N).C [] J ⟨pre,sz,tk,ev,os sz tk⟩ c fin) ((out (Z sz tk J)).res,((out (Z sz tk J)).new++(out (Z sz tk J)).post).map some,(out (Z sz tk J)).sz,(out (Z sz tk J)).tk)):Any ao w aa n c pre out:=λY hA Z u s ak R hu SR z hR=>by
 refine(zz (A:={ Y with units:=u }) (P:=λo:cw×WS=>∃x,(o.1,H.map (λi=>o.2.led[i]?),o.2.sz,o.2.tk)=((out x).res,((out x).new++(out x).post).map some,(out x).sz,(out x).tk)) X hA (λh=>⟨NL,Z h⟩) hu N).C [] ⟨pre,s.heap.objs.size,s.toks,ev,os s.heap.objs.size s.toks⟩ c fin R s ak ⟨SR,rfl,rfl⟩
  ⟨_,λz=>id,(gn Y hA _ _ SR.h.low).units _ _⟩ (λJ=>Cy (e ..) λr H h=>⟨_,h⟩) λr H s' F z G hm=>?_;obtain⟨j,j,e1,j,x,e2⟩:=hm λz z=>0;cases e1;simp only[si]at e2;obtain⟨rfl,e3,e4,e5⟩:=e2;have R':=F.r.h.sel nd e3;have G':=G.sel e3;refine hR x s' (F.sz.trans e4) (F.tk.trans e5) (jj x) (λp hp=>?_) ⟨R',F.r.os,F.r.gens,F.r.same⟩ G'.keep;rcases G'.new p (bL _ hp)with h|⟨q,hq,e⟩
 ·exact h
 ·have H:=R'.nd;rw[bM,fi]at H;refine absurd rfl (H.2.2 p.1 (b6 hp) p.1 ?_);exact rR (jj x) (rL e (b6 hq))
noncomputable def rv:List (Nat×ab)->List ag
 |[]=>[]|c::l=>rv l++[.str ⟨#[c.1]⟩ c.2]
abbrev xj:Str:=nc ("_law_stream.<locals>.<lambda>")
structure LX where
 lx:af
 ld:af
 sf:af
 sd:af
 rd:af
 c2:af
 ce:af
 sl:af
 pb:af
 n:Int
 e1:Nat
 tn:ab
 k1:ab
 k2:ab
 k3:ab
 k4:ab
 k5:ab
 k6:ab
 kq:ab
 GN:uM
 pm:ag
 ct:ag
 oct:ag
 GO:Option af
 v0:ag
 vr:List ag
 sR:Array (Option ag)
 GP:ag
 GQ:Option af
 GR:Array (Option ag)
abbrev LX.led(X:LX)(w:aj)(l:List (Nat×ab)):List (af×aq):=[(X.lx,dW 227 X.ld),(X.ld,Cz w X.n X.tn X.sf X.pb X.k1 X.k2 X.k3 X.k4 X.k5),(X.sf,GJ X.GN (some X.sd)),(X.sd,GM w X.rd X.k6),(X.rd,GL xj X.ce X.pm X.c2 X.ct),(X.c2,⟨X.oct,X.GO, .fields (X.v0:: .str xj X.kq::X.vr).toArray,X.sR⟩),(X.ce,⟨X.GP,X.GQ, .cell (some (.ref X.sl)),X.GR⟩),(X.sl,listOf (rv l).toArray X.e1)]
end
end
variable {X:LX}
section
noncomputable def pO(a b:UInt64):Bool:=kW a b==some Ordering.gt
noncomputable def pP(a b:UInt64):Bool:=kW a b==some Ordering.lt
def fL(a b c:UInt64):UInt64:=if pO b a then(if pO c b then c else b)else(if pO c a then c else a)
def iM(a b c:UInt64):UInt64:=if pP b a then(if pP c b then c else b)else(if pP c a then c else a)
end
abbrev lu(id:String)(x y r:UInt64)(t u:ab)(next:aM):aF:=cK id [.float x t, .float y u] (λk=> .float r k) next
abbrev n6(id:String)(x y:UInt64)(b:Bool)(t u:ab)(next:aM):aF:=cK id [.float x t, .float y u] (λ_=> .bool b) next
section
variable {x r:UInt64}{b:Bool}{next:aM}{B:Builtin}
theorem zA(J:yX "float" name id)(H:me gy id=some B)(args:∀a c,lc id ⟨[a,c],[]⟩)(g:Mg (B ⟨[.float x t, .float y u],[]⟩) (.float r))(k:bJ next ao w A U fr aa):(lu id x y r t u next).Ok ao (av w) A U fr aa lv:=dY (λz=>eM J H (args _ _) g (λs=>rfl) λQ s k=>k _ _) λe z=>k e lv
theorem zB(J:yX "float" name id)(H:me gy id=some B)(args:∀a c,lc id ⟨[a,c],[]⟩)(g:Mg (B ⟨[.float x t, .float y u],[]⟩) (.val (.bool b)))(k:bJ next ao w A U fr aa):(n6 id x y b t u next).Ok ao (av w) A U fr aa lv:=dY (λz=>eM (r:=λz=> .bool b) J H (args _ _) g (λs=>rfl) λQ s k=>k 0 s.toks) λe z=>k e lv
theorem NJ(h:pO x y=b)(k:bJ next ao w A U fr aa):(n6 "float.__gt__" x y b t u next).Ok ao (av w) A U fr aa lv:=by subst h;exact zB PySem.F.slot_float_gt PySem.F.entry_float_gt PySem.F.args_float_gt_2 (aWt x t y u) k
theorem jO(h:gV x y=r)(k:bJ next ao w A U fr aa):(lu "float.__sub__" x y r t u next).Ok ao (av w) A U fr aa lv:=by subst h;exact zA aSp aSq aSr (aWu x t y u) k
theorem NK(h:pP x y=b)(k:bJ next ao w A U fr aa):(n6 "float.__lt__" x y b t u next).Ok ao (av w) A U fr aa lv:=by subst h;exact zB PySem.F.slot_float_lt PySem.F.entry_float_lt PySem.F.args_float_lt_2 (aWv x t y u) k
theorem ZT(h:(kW x y==some .lt||kW x y==some .eq)=b)(k:bJ next ao w A U fr aa):(n6 "float.__le__" x y b t u next).Ok ao (av w) A U fr aa lv:=by subst h;exact zB PySem.F.slot_float_le PySem.F.entry_float_le PySem.F.args_float_le_2 (aWw x t y u) k
theorem n7(h:(kW x y==some .eq)=b)(k:bJ next ao w A U fr aa):(n6 "float.__eq__" x y b t u next).Ok ao (av w) A U fr aa lv:=by subst h;exact zB PySem.F.slot_float_eq PySem.F.entry_float_eq PySem.F.args_float_eq_2 (aWx x t y u) k
theorem NM(h:(kW x y !=some .eq)=b)(k:bJ next ao w A U fr aa):(n6 "float.__ne__" x y b t u next).Ok ao (av w) A U fr aa lv:=by subst h;exact zB PySem.F.slot_float_ne PySem.F.entry_float_ne PySem.F.args_float_ne_2 (aWy x t y u) k
theorem zC(h:uK x y=r)(k:bJ next ao w A U fr aa):(lu "float.__add__" x y r t u next).Ok ao (av w) A U fr aa lv:=by subst h;exact zA PySem.F.slot_float_add PySem.F.entry_float_add PySem.F.args_float_add_2 (aWz x t y u) k
theorem sS(h:iI x y=r)(k:bJ next ao w A U fr aa):(lu "float.__mul__" x y r t u next).Ok ao (av w) A U fr aa lv:=by subst h;exact zA WZ W0 W3 (aW0 x t y u) k
theorem n8(H:kX y=false)(h:gX x y=r)(k:bJ next ao w A U fr aa):(lu "float.__truediv__" x y r t u next).Ok ao (av w) A U fr aa lv:=by subst h;exact zA aSs aSt aSu (aW1 x t y u (by refine rR H ?_;decide)) k
theorem CA(H:kX y=false)(h:(W4 x y).2=r)(k:bJ next ao w A U fr aa):(lu "float.__mod__" x y r t u next).Ok ao (av w) A U fr aa lv:=by subst h;exact zA PySem.F.slot_float_mod PySem.F.entry_float_mod PySem.F.args_float_mod_2 (aW2 x t y u (by refine rR H ?_;decide)) k
end
def GS(id:String)(a b c:UInt64)(t u v:ab)(H J:Bool):aF:=n6 id b a H u t λ_=>n6 id c (bif H then b else a) J v (bif H then u else t) λ_=> .nil
abbrev CB(f:String)(a b c:UInt64)(t u v:ab):Code:=nc (.call (.builtin f) ⟨[.float a t, .float b u, .float c v],[]⟩)
noncomputable section
abbrev LX.jk(X:LX)(b:Bool)(t:ab):LX:=nc ({ X with n:=bif b then X.n+1 else X.n,tn:=bif b then t else X.tn,e1:=X.e1+1 })
def NN(X:LX)(c:Nat)(t:ab)(l:List (Nat×ab))(b:Bool):aF:=vm 9 X.sl (rv ((c,t)::l)) X.e1 ((rv l).length+1) λ_=>xi 9 X.sl (rv l) (.str ⟨#[c]⟩ t) X.e1 λx=>cB ⟨#[c]⟩ "\n" t (x 1+1) b λ_=> .nil
def ZU(b:Bool):List Nat:=(dN 52 0x10be21084a52949129490042628cc521080200842106010800008000004100421)++(bif b then(dN 35 0x884200600006018003000001800400c600006000003)else [])
def NO:List Nat:=(dN 52 0x1001f1084a0280a029490042628cc521080200842106010800008000004100421)
def GT(X:LX)(w:aj)(c:Nat)(t:ab)(l:List (Nat×ab))(b:Bool):(Nat->Nat)->Out:=nc (λx=>⟨.ok (.ret (.str ⟨#[c]⟩ t)),(X.jk b (x 2)).led w l,[],x 0,x 1⟩)
def GU(X:LX)(w:aj):(Nat->Nat)->Out:=nc (λx=>⟨.ok (.ret (.str "" (x 2))),X.led w [],[],x 0,x 1⟩)
abbrev xk(X:LX):Code:=nc (.call (.ref 210) ⟨[.ref X.lx],[]⟩)
noncomputable def ZV(b:Bool)(H:Xs):Nat->Nat
 |0=>H 2 0|1=>bif b then H 2 1+5 else H 2 1|_=>H 2 1+2
def ZW(X:LX)(w:aj)(c:Nat)(t:ab)(l:List (Nat×ab))(b:Bool)(sz tk:Nat)(H:Xs):=(aI w 3 0 none 500).C [] H ⟨X.led w ((c,t)::l),sz,tk,ZU b,NN X c t l b⟩ (xk X) fin
def bW(o:Out):cw×List (Option (af×aq))×Nat×Nat:=nc ((o.res,(o.new++o.post).map some,o.sz,o.tk))
theorem ZX(X:LX)(w:aj)(c:Nat)(t:ab)(l:List (Nat×ab))(b:Bool)(sz tk:Nat)(H:Xs):Ends [2,3,4,5,6,7,8,9] (ZW X w c t l b sz tk H) (bW (GT X w c t l b (ZV b H))):=by induction b<;>kernel_rfl
theorem CC(l:List (Nat×ab)):(rv l).length=l.length:=by
 induction l with
 |nil=>rfl|cons c l ih=>refine rR bQ (rR ih ?_);rfl
theorem ZY(Y:aK w aa)(J:aa.NoLimit)(X:LX)(c:Nat)(t:ab)(l:List (Nat×ab))(b:Bool)(Z:(c==10)=b)(H:l.length<=1000):Any ao w aa 3 (xk X) (X.led w ((c,t)::l)) (GT X w c t l b):=bS Y J 500 _ [2,3,4,5,6,7,8,9] (λz z=>NN ..) (by decide) _ (λz=>rfl) (λJ J z z z=>
  nX (λJ z z=>NI _ _ _ _ (by rw[CC,CC];rfl) (rR (CC ..) (iH H (by decide)))) λx z z=>nX (λJ z z=>xh _ _ _ _ (rR (CC ..) H)) λx z z=>dB (Z▸(aSv _)) λz z=>True.intro) λsz tk H=>ZX ..
end
def ZZ(J H:Bool):List Nat:=(dN 36 0x17c421884010041004211086210040104010041f08400)++((bif J then [1,1,1]else [])++((dN 13 0x2f88431080200820)++((bif H then [1,1,1]else [])++(dN 15 0xc63088431080200820))))
def NP(w:aj)(f id:String)(a b c:UInt64)(t u v:ab)(H J:Bool)(sz tk:Nat)(Y:Xs):=(aI w 2 0 none 500).C [] Y ⟨[],sz,tk,ZZ H J,GS id a b c t u v H J⟩ (CB f a b c t u v) fin
noncomputable def zE(a b c:UInt64)(H J:Bool):UInt64:=bif J then c else bif H then b else a
noncomputable def NQ(t u v:ab)(J Y:Bool)(H:Xs):Nat->Nat
 |0=>H 1 0+2|1=>H 1 1|_=>bif Y then v else bif J then u else t
def NR(a b c:UInt64)(H J:Bool):(Nat->Nat)->Out:=λx=>⟨.ok (.ret (.float (zE a b c H J) (x 2))),[],[],x 0,x 1⟩
section
variable (w:aj)(a b c:UInt64)(t u v:ab)(b1 b2:Bool)(sz tk:Nat)(σ:Xs)
theorem Z0:Ends [] (NP w "max" "float.__gt__" a b c t u v b1 b2 sz tk σ) (bW (NR a b c b1 b2 (NQ t u v b1 b2 σ))):=by induction b1<;>induction b2<;>kernel_rfl
theorem Z1:Ends [] (NP w "min" "float.__lt__" a b c t u v b1 b2 sz tk σ) (bW (NR a b c b1 b2 (NQ t u v b1 b2 σ))):=by induction b1<;>induction b2<;>kernel_rfl
end
abbrev pQ(f:String)(a b c m:UInt64)(t u v:ab)(next:aM):aF:= .cons (some 2) (CB f a b c t u v) [] [] (λx=>⟨.ok (.ret (.float m (x 2))),[],[],x 0,x 1⟩) next
section
variable (XK:aK w aa)(NL:aa.NoLimit)(a b c:UInt64)(t u v:ab)
include XK NL
theorem Z2:Any ao w aa 2 (CB "max" a b c t u v) [] (λx=>⟨.ok (.ret (.float (fL a b c) (x 2))),[],[],x 0,x 1⟩):=by
 have h:fL a b c=zE a b c (pO b a) (pO c (bif pO b a then b else a)):=by unfold fL zE;induction pO b a<;>simp only[cond_true,cond_false,if_true,if_false,W5]<;>split<;>simp_all
 exact h▸bS XK NL 500 _ [] (λz z=>GS "float.__gt__" a ..) bN _ (λz=>rfl) (λH H z z z=>NJ rfl λz z=>NJ rfl λz z=>True.intro) λsz tk H=>Z0 ..
theorem Z3:Any ao w aa 2 (CB "min" a b c t u v) [] (λx=>⟨.ok (.ret (.float (iM a b c) (x 2))),[],[],x 0,x 1⟩):=by
 have h:iM a b c=zE a b c (pP b a) (pP c (bif pP b a then b else a)):=by unfold iM zE;induction pP b a<;>simp only[cond_true,cond_false,if_true,if_false,W5]<;>split<;>simp_all
 exact h▸bS XK NL 500 _ [] (λz z=>GS "float.__lt__" a ..) bN _ (λz=>rfl) (λH H z z z=>NK rfl λz z=>NK rfl λz z=>True.intro) λsz tk H=>Z1 ..
end
abbrev jm:UInt64:=nc (4611686018427387904)
abbrev CD:UInt64:=nc (4616189618054758400)
abbrev ku:UInt64:=nc (4618441417868443648)
abbrev e6:UInt64:=nc (4607182418800017408)
abbrev il:=lu "float.__sub__"
abbrev CE:=lu "float.__add__"
abbrev vn:=lu "float.__mul__"
abbrev lw:=lu "float.__truediv__"
abbrev GV:=lu "float.__mod__"
abbrev oa:=n6 "float.__eq__"
structure HV where
 r:UInt64
 g:UInt64
 b:UInt64
 mx:UInt64
 mn:UInt64
 rg:UInt64
 s:UInt64
 d1:UInt64
 d2:UInt64
 d3:UInt64
 rc:UInt64
 gc:UInt64
 bc:UInt64
 k:UInt64
 h0:UInt64
 h1:UInt64
 h:UInt64
 sm:UInt64
 l:UInt64
 n1:UInt64
 n2:UInt64
def GW(q:Nat)(V:HV)(J tg tb:ab)(H Y rc Z bc:Nat->Nat)(Y:Nat->Nat):aF:=match q with
 |0=>oa V.r V.mx true J (H 2) λ_=>il V.bc V.gc V.h0 (bc 2) (Z 2) λa=>lw V.h0 ku V.h1 (a 2) (a 1+1) λb=>GV V.h1 e6 V.h (b 2) (b 1) λ_=> .nil|1=>oa V.r V.mx false J (H 2) λc=>oa V.g V.mx true tg (H 2) λc=>CE jm V.rc V.k (c 1) (rc 2) λa=>il V.k V.bc V.h0 (a 2) (bc 2) λa=>lw V.h0 ku V.h1 (a 2) (a 1+1) λb=>GV V.h1 e6 V.h (b 2) (b 1) λ_=> .nil|_=>oa V.r V.mx false J (H 2) λc=>oa V.g V.mx false tg (H 2) λc=>CE CD V.gc V.k (c 1) (Z 2) λa=>il V.k V.rc V.h0 (a 2) (rc 2) λa=>lw V.h0 ku V.h1 (a 2) (a 1+1) λb=>GV V.h1 e6 V.h (b 2) (b 1) λ_=> .nil
def CF(q:Nat)(V:HV)(Y tg tb:ab):aF:=pQ "max" V.r V.g V.b V.mx Y tg tb λH=>pQ "min" V.r V.g V.b V.mn Y tg tb λZ=>il V.mx V.mn V.rg (H 2) (Z 2) λJ=>oa V.mn V.mx false (Z 2) (H 2) λ_=>lw V.rg V.mx V.s (J 2) (H 2) λs=>
 il V.mx V.r V.d1 (H 2) Y λa=>lw V.d1 V.rg V.rc (a 2) (J 2) λrc=>il V.mx V.g V.d2 (H 2) tg λa=>lw V.d2 V.rg V.gc (a 2) (J 2) λgc=>il V.mx V.b V.d3 (H 2) tb λa=>lw V.d3 V.rg V.bc (a 2) (J 2) λZ=>GW q V Y tg tb H J rc gc Z Z
def NS(V:HV)(H tg tb:ab):aF:=pQ "max" V.r V.g V.b V.mx H tg tb λJ=>pQ "min" V.r V.g V.b V.mn H tg tb λH=>il V.mx V.mn V.rg (J 2) (H 2) λY=>oa V.mn V.mx true (H 2) (J 2) λ_=> .nil
abbrev kx(f:af)(V:HV)(H tg tb:ab):Code:=nc (.call (.ref f) ⟨[.float V.r H, .float V.g tg, .float V.b tb],[]⟩)
abbrev xl:UInt64:=nc (4602678819172646912)
abbrev Z4:=n6 "float.__le__"
def GX(q:Nat)(V:HV)(Y tg tb:ab)(J H:Nat->Nat):aF:=il V.mx V.r V.d1 (J 2) Y λa=>lw V.d1 V.rg V.rc (a 2) (H 2) λrc=>il V.mx V.g V.d2 (J 2) tg λa=>lw V.d2 V.rg V.gc (a 2) (H 2) λgc=>il V.mx V.b V.d3 (J 2) tb λa=>lw V.d3 V.rg V.bc (a 2) (H 2) λZ=>GW q V Y tg tb J H rc gc Z Z
def vo(q:Nat)(lo:Bool)(V:HV)(Y tg tb:ab):aF:=pQ "max" V.r V.g V.b V.mx Y tg tb λH=>pQ "min" V.r V.g V.b V.mn Y tg tb λZ=>CE V.mx V.mn V.sm (H 2) (Z 2) λsm=>il V.mx V.mn V.rg (H 2) (Z 2) λJ=>lw V.sm jm V.l (sm 2) (J 1+1) λl=>oa V.mn V.mx false (Z 2) (H 2) λe=>Z4 V.l xl lo (l 2) (e 1) λe=>
  bif lo then lw V.rg V.sm V.s (J 2) (sm 2) λ_=>GX q V Y tg tb H J else il jm V.mx V.n1 (e 1) (H 2) λa=>il V.n1 V.mn V.n2 (a 2) (Z 2) λa=>lw V.rg V.n2 V.s (J 2) (a 2) λ_=>GX q V Y tg tb H J
def NT(V:HV)(J tg tb:ab):aF:=pQ "max" V.r V.g V.b V.mx J tg tb λH=>pQ "min" V.r V.g V.b V.mn J tg tb λJ=>CE V.mx V.mn V.sm (H 2) (J 2) λsm=>il V.mx V.mn V.rg (H 2) (J 2) λY=>lw V.sm jm V.l (sm 2) (Y 1+1) λl=>oa V.mn V.mx true (J 2) (H 2) λe=> .nil
structure RV where
 h:UInt64
 s:UInt64
 v:UInt64
 m1:UInt64
 f:UInt64
 a1:UInt64
 p:UInt64
 a2:UInt64
 a3:UInt64
 q:UInt64
 a4:UInt64
 a5:UInt64
 a6:UInt64
 t:UInt64
abbrev qP(V:RV)(H Y J:ab):Code:=nc (.call (.ref 189) ⟨[.float V.h H, .float V.s Y, .float V.v J],[]⟩)
def NU(V:RV)(H:ab)(tk:Nat):aF:=oa V.s 0 true H (tk+3) λ_=> .nil
abbrev zF(x:UInt64)(i:Int)(t:ab)(next:aM):aF:=cK "float.__int__" [.float x t] (λk=> .int i k) next
abbrev NV(x:UInt64)(i:Int)(r:UInt64)(t u:ab)(next:aM):aF:=cK "float.__sub__" [.float x t, .int i u] (λk=> .float r k) next
def vp(i:Nat)(V:RV)(Y H J:ab)(tk:Nat):aF:=oa V.s 0 false H (tk+3) λe=>vn V.h ku V.m1 Y (e 1) λm=>zF V.m1 i (m 2) λj=>vn V.h ku V.m1 Y (j 1+1) λm=>NV V.m1 i V.f (m 2) (j 2) λf=>il e6 V.s V.a1 (f 1+1) H λa=>vn V.v V.a1 V.p J (a 2) λp=>vn V.s V.f V.a2 H (f 2) λa=>il e6 V.a2 V.a3 (p 1+1) (a 2) λa=>vn V.v V.a3 V.q J (a 2) λq=>il e6 V.f V.a4 (q 1+2) (f 2) λa=>vn V.s V.a4 V.a5 H (a 2) λa=>il e6 V.a5 V.a6 (q 1+1) (a 2) λa=>vn V.v V.a6 V.t J (a 2) λt=> .nil
abbrev Z5(a b c:UInt64)(t u v:ab):Obj:=nc (⟨.type "tuple",none, .seq #[.float a t, .float b u, .float c v] 0,#[]⟩)
def cQ(a b c:UInt64):(Nat->Nat)->Out:=λx=>⟨.ok (.ret (.ref (x 2))),[],[(x 2,Z5 a b c (x 3) (x 4) (x 5))],x 0,x 1⟩
noncomputable def iN(k n:Nat)(ta tb tc:ab)(H:Xs):Nat->Nat
 |0=>H k 0+1|1=>H k 1+n|2=>H k 0|3=>ta|4=>tb|_=>tc
def qQ(q:Nat):List Nat:=match q with
 |0=>(dN 13 0x1084211082108821)|_=>(dN 18 0x2108422104211044117c21)
def GY:List Nat:=(dN 66 0x5f0842110441084220882108441104210882117c210842108821084410840008441084000042108421)
def Z6:List Nat:=(dN 37 0x117c210842108821084410840008441084000042108421)
def xm(H:Bool):List Nat:=bif H then(dN 75 0xbe108422088210844110421088220842110422f845f08421104211042108821084410840008441084000042108421)else(dN 78 0x5f0842110441084220882108441104210884110422f845f08421104211042108821084410840008441084000042108421)
def Z7:List Nat:=(dN 43 0x45f08421104211042108821084410840008441084000042108421)
def xn(i:Nat):List Nat:=(dN 59 0x421000210884210421084421042108442084211044108400100000082000be10042108421)++((List.replicate (i+1) [777,0,0,1]).flatten++[1,1])
def Z8:List Nat:=(dN 14 0x2108be10042108421)
def iP(w:aj)(H:List Nat)(J:aF)(c:bB)(sz tk:Nat)(Y:Xs):=(aI w 5 0 none 600).C [] Y ⟨[],sz,tk,H,J⟩ c fin
section
variable (w:aj)(V:HV)(W:RV)(t u v:ab)(sz tk:Nat)(σ:Xs)
theorem pR:(∀w(V:HV)t u v sz tk σ,Ends [0] (iP w Z6 (NS V t u v) (kx 182 V t u v) sz tk σ) (bW (cQ 0 0 V.mx (iN 3 2 (σ 3 1) (σ 3 1+1) (σ 0 2) σ))))/\(∀w(V:HV)t u v sz tk σ,Ends [0] (iP w (GY++qQ 0) (CF 0 V t u v) (kx 182 V t u v) sz tk σ) (bW (cQ V.h V.s V.mx (iN 14 1 (σ 14 2) (σ 4 2) (σ 0 2) σ))))/\(∀w(V:HV)t u v sz tk σ,Ends [0] (iP w (GY++qQ 1) (CF 1 V t u v) (kx 182 V t u v) sz tk σ) (bW (cQ V.h V.s V.mx (iN 16 1 (σ 16 2) (σ 4 2) (σ 0 2) σ))))/\(∀w(V:HV)t u v sz tk σ,Ends [0] (iP w (GY++qQ 2) (CF 2 V t u v) (kx 182 V t u v) sz tk σ) (bW (cQ V.h V.s V.mx (iN 16 1 (σ 16 2) (σ 4 2) (σ 0 2) σ))))/\(∀w(V:HV)t u v sz tk σ,Ends [0] (iP w Z7 (NT V t u v) (kx 175 V t u v) sz tk σ) (bW (cQ 0 V.l 0 (iN 5 2 (σ 5 1) (σ 4 2) (σ 5 1+1) σ))))/\(∀w(V:HV)t u v sz tk σ,Ends [0] (iP w (xm true++qQ 0) (vo 0 true V t u v) (kx 175 V t u v) sz tk σ) (bW (cQ V.h V.l V.s (iN 17 1 (σ 17 2) (σ 4 2) (σ 7 2) σ))))/\(∀w(V:HV)t u v sz tk σ,Ends [0] (iP w (xm false++qQ 0) (vo 0 false V t u v) (kx 175 V t u v) sz tk σ) (bW (cQ V.h V.l V.s (iN 19 1 (σ 19 2) (σ 4 2) (σ 9 2) σ))))/\(∀w(V:HV)t u v sz tk σ,Ends [0] (iP w (xm true++qQ 1) (vo 1 true V t u v) (kx 175 V t u v) sz tk σ) (bW (cQ V.h V.l V.s (iN 19 1 (σ 19 2) (σ 4 2) (σ 7 2) σ))))/\(∀w(V:HV)t u v sz tk σ,Ends [0] (iP w (xm false++qQ 1) (vo 1 false V t u v) (kx 175 V t u v) sz tk σ) (bW (cQ V.h V.l V.s (iN 21 1 (σ 21 2) (σ 4 2) (σ 9 2) σ))))/\(∀w(V:HV)t u v sz tk σ,Ends [0] (iP w (xm true++qQ 2) (vo 2 true V t u v) (kx 175 V t u v) sz tk σ) (bW (cQ V.h V.l V.s (iN 19 1 (σ 19 2) (σ 4 2) (σ 7 2) σ)))):=by and_intros<;>intros<;>kernel_rfl
end
theorem sT:(∀w(V:HV)t u v sz tk σ,Ends [0] (iP w (xm false++qQ 2) (vo 2 false V t u v) (kx 175 V t u v) sz tk σ) (bW (cQ V.h V.l V.s (iN 21 1 (σ 21 2) (σ 4 2) (σ 9 2) σ))))/\(∀w(W:RV)t u v sz tk σ,Ends [0] (iP w Z8 (NU W u tk) (qP W t u v) sz tk σ) (bW (cQ W.v W.v W.v (iN 0 0 v v v σ))))/\(∀w(W:RV)t u v sz tk σ,Ends [0] (iP w (xn 0) (vp 0 W t u v tk) (qP W t u v) sz tk σ) (bW (cQ W.v W.t W.p (iN 13 5 v (σ 13 2) (σ 6 2) σ))))/\(∀w(W:RV)t u v sz tk σ,Ends [0] (iP w (xn 1) (vp 1 W t u v tk) (qP W t u v) sz tk σ) (bW (cQ W.q W.v W.p (iN 13 6 (σ 9 2) v (σ 6 2) σ))))/\(∀w(W:RV)t u v sz tk σ,Ends [0] (iP w (xn 2) (vp 2 W t u v tk) (qP W t u v) sz tk σ) (bW (cQ W.p W.v W.t (iN 13 7 (σ 6 2) v (σ 13 2) σ))))/\(∀w(W:RV)t u v sz tk σ,Ends [0] (iP w (xn 3) (vp 3 W t u v tk) (qP W t u v) sz tk σ) (bW (cQ W.p W.q W.v (iN 13 8 (σ 6 2) (σ 9 2) v σ))))/\(∀w(W:RV)t u v sz tk σ,Ends [0] (iP w (xn 4) (vp 4 W t u v tk) (qP W t u v) sz tk σ) (bW (cQ W.t W.p W.v (iN 13 9 (σ 13 2) (σ 6 2) v σ))))/\(∀w(W:RV)t u v sz tk σ,Ends [0] (iP w (xn 5) (vp 5 W t u v tk) (qP W t u v) sz tk σ) (bW (cQ W.v W.p W.q (iN 13 10 v (σ 6 2) (σ 9 2) σ)))):=by and_intros<;>intros<;>kernel_rfl
noncomputable abbrev iQ(a b:UInt64):Bool:=kW a b==some .eq
structure vq(q:Nat)(V:HV):Prop where
 mx:fL V.r V.g V.b=V.mx
 mn:iM V.r V.g V.b=V.mn
 rg:gV V.mx V.mn=V.rg
 ne:iQ V.mn V.mx=false
 rz:kX V.rg=false
 d1:gV V.mx V.r=V.d1
 d2:gV V.mx V.g=V.d2
 d3:gV V.mx V.b=V.d3
 rc:gX V.d1 V.rg=V.rc
 gc:gX V.d2 V.rg=V.gc
 bc:gX V.d3 V.rg=V.bc
 h1:gX V.h0 ku=V.h1
 h:(W4 V.h1 e6).2=V.h
 way:(q=0/\iQ V.r V.mx=true/\gV V.bc V.gc=V.h0)\/(q=1/\iQ V.r V.mx=false/\iQ V.g V.mx=true/\uK jm V.rc=V.k/\gV V.k V.bc=V.h0)\/
  (q=2/\iQ V.r V.mx=false/\iQ V.g V.mx=false/\uK CD V.gc=V.k/\gV V.k V.rc=V.h0)
section
variable (XK:aK w aa)(NL:aa.NoLimit)(V:HV)(t u v:ab)(W:RV)
theorem GZ:kX ku=false:=by decide+kernel
theorem CG:kX e6=false:=by decide+kernel
theorem NW:kX jm=false:=by decide+kernel
theorem Z9{q:Nat}{V:HV}(H:vq q V){J tg:ab}{mx Y rc Z bc la:Nat->Nat}:(GW q V J tg tb mx Y rc Z bc la).Ok ao (av w) A U none aa lv:=by
 rcases H.way with ⟨rfl,a,b⟩|⟨rfl,a,b,c,d⟩|⟨rfl,a,b,c,d⟩
 ·exact n7 a λz z=>jO b λz z=>n8 GZ H.h1 λz z=>CA CG H.h λz z=>True.intro
 ·exact n7 a λz z=>n7 b λz z=>zC c λz z=>jO d λz z=>n8 GZ H.h1 λz z=>CA CG H.h λz z=>True.intro
 ·exact n7 a λz z=>n7 b λz z=>zC c λz z=>jO d λz z=>n8 GZ H.h1 λz z=>CA CG H.h λz z=>True.intro
theorem Ha{q:Nat}{V:HV}(H:vq q V){J tg:ab}{Z Y:Nat->Nat}:(GX q V J tg tb Z Y).Ok ao (av w) A U none aa lv:=jO H.d1 λz z=>n8 H.rz H.rc λz z=>jO H.d2 λz z=>n8 H.rz H.gc λz z=>jO H.d3 λz z=>n8 H.rz H.bc λz z=>Z9 H
include XK NL in
theorem CH{a b c m:UInt64}{t u v:ab}{next:aM}(h:fL a b c=m)(k:bJ next ao w A U none aa):(pQ "max" a b c m t u v next).Ok ao (av w) A U none aa lv:=by subst h;exact⟨rfl,bN,Z2 XK NL a b c t u v,λx z z=>k x _⟩
include XK NL in
theorem CI{a b c m:UInt64}{t u v:ab}{next:aM}(h:iM a b c=m)(k:bJ next ao w A U none aa):(pQ "min" a b c m t u v next).Ok ao (av w) A U none aa lv:=by subst h;exact⟨rfl,bN,Z3 XK NL a b c t u v,λx z z=>k x _⟩
include XK NL
theorem aAa{q:Nat}(H:vq q V)(Z:kX V.mx=false)(hs:gX V.rg V.mx=V.s):Any ao w aa 5 (kx 182 V t u v) [] (cQ V.h V.s V.mx):=by
 have Y:∀(J:aD),(CF q V t u v).Ok ao _ J J.units none aa []:=λJ=>
  CH XK NL H.mx λmx z=>CI XK NL H.mn λmn z=>jO H.rg λrg z=>n7 H.ne λz z=>n8 Z hs λz z=>Ha H;rcases H.way with ⟨rfl,j⟩|⟨rfl,j⟩|⟨rfl,j⟩
 ·exact bS XK NL 600 _ [0] _ (by decide) _ (λz=>rfl) (λJ z z z z=>Y J) λsz tk H=>pR.2.1 ..
 ·exact bS XK NL 600 _ [0] _ (by decide) _ (λz=>rfl) (λJ z z z z=>Y J) λsz tk H=>pR.2.2.1 ..
 ·exact bS XK NL 600 _ [0] _ (by decide) _ (λz=>rfl) (λJ z z z z=>Y J) λsz tk H=>pR.2.2.2.1 ..
theorem aAb(Y:fL V.r V.g V.b=V.mx)(H:iM V.r V.g V.b=V.mn)(Z:iQ V.mn V.mx=true)(J:gV V.mx V.mn=V.rg):Any ao w aa 5 (kx 182 V t u v) [] (cQ 0 0 V.mx):=bS XK NL 600 _ [0] (λz z=>NS ..) (by decide) _ (λz=>rfl) (λA' z z z z=>CH XK NL Y λY z=>CI XK NL H λH z=>jO J λH z=>n7 Z λz z=>True.intro) λsz tk H=>pR.1 ..
theorem aAc{q:Nat}{Z:Bool}(H:vq q V)(h1:uK V.mx V.mn=V.sm)(h2:gX V.sm jm=V.l)(h3:(kW V.l xl==some .lt||kW V.l xl==some .eq)=Z)(h4:Z=true->kX V.sm=false/\gX V.rg V.sm=V.s)(h5:Z=false->gV jm V.mx=V.n1/\gV V.n1 V.mn=V.n2/\kX V.n2=false/\gX V.rg V.n2=V.s):Any ao w aa 5 (kx 175 V t u v) [] (cQ V.h V.l V.s):=by
 have Y:∀(J:aD),(vo q Z V t u v).Ok ao _ J J.units none aa []:=λJ=>by
  refine CH XK NL H.mx λmx z=>CI XK NL H.mn λmn z=>zC h1 λsm z=>jO H.rg λrg z=>n8 NW h2 λz z=>n7 H.ne λz z=>ZT h3 λz z=>?_;induction Z with
  |true=>exact n8 (h4 rfl).1 (h4 rfl).2 λz z=>Ha H|false=>exact jO (h5 rfl).1 λz z=>jO (h5 rfl).2.1 λz z=>n8 (h5 rfl).2.2.1 (h5 rfl).2.2.2 λz z=>Ha H
 rcases H.way with ⟨rfl,j⟩|⟨rfl,j⟩|⟨rfl,j⟩<;>induction Z
 ·exact bS XK NL 600 _ [0] _ (by decide) _ (λz=>rfl) (λJ z z z z=>Y J) λsz tk H=>pR.2.2.2.2.2.2.1 ..
 ·exact bS XK NL 600 _ [0] _ (by decide) _ (λz=>rfl) (λJ z z z z=>Y J) λsz tk H=>pR.2.2.2.2.2.1 ..
 ·exact bS XK NL 600 _ [0] _ (by decide) _ (λz=>rfl) (λJ z z z z=>Y J) λsz tk H=>pR.2.2.2.2.2.2.2.2.1 ..
 ·exact bS XK NL 600 _ [0] _ (by decide) _ (λz=>rfl) (λJ z z z z=>Y J) λsz tk H=>pR.2.2.2.2.2.2.2.1 ..
 ·exact bS XK NL 600 _ [0] _ (by decide) _ (λz=>rfl) (λJ z z z z=>Y J) λsz tk H=>sT.1 ..
 ·exact bS XK NL 600 _ [0] _ (by decide) _ (λz=>rfl) (λJ z z z z=>Y J) λsz tk H=>pR.2.2.2.2.2.2.2.2.2 ..
theorem aAd(Z:fL V.r V.g V.b=V.mx)(J:iM V.r V.g V.b=V.mn)(h3:iQ V.mn V.mx=true)(Y:gV V.mx V.mn=V.rg)(h5:uK V.mx V.mn=V.sm)(H:gX V.sm jm=V.l):Any ao w aa 5 (kx 175 V t u v) [] (cQ 0 V.l 0):=bS XK NL 600 _ [0] (λz z=>NT ..) (by decide) _ (λz=>rfl) (λA' z z z z=>CH XK NL Z λZ z=>CI XK NL J λJ z=>zC h5 λz z=>jO Y λJ z=>n8 NW H λz z=>n7 h3 λz z=>True.intro) λsz tk H=>pR.2.2.2.2.1 ..
end
structure NX(i:Nat)(V:RV):Prop where
 nz:iQ V.s 0=false
 m1:iI V.h ku=V.m1
 int:∃sg m e,BK V.m1= .fin sg m e/\BL sg m e=(i:Int)
 f:gV V.m1 (d6 i)=V.f
 a1:gV e6 V.s=V.a1
 p:iI V.v V.a1=V.p
 a2:iI V.s V.f=V.a2
 a3:gV e6 V.a2=V.a3
 q:iI V.v V.a3=V.q
 a4:gV e6 V.f=V.a4
 a5:iI V.s V.a4=V.a5
 a6:gV e6 V.a5=V.a6
 t:iI V.v V.a6=V.t
def NY(i:Nat)(V:RV):(Nat->Nat)->Out:=match i with
 |0=>cQ V.v V.t V.p|1=>cQ V.q V.v V.p|2=>cQ V.p V.v V.t|3=>cQ V.p V.q V.v|4=>cQ V.t V.p V.v|_=>cQ V.v V.p V.q
section
theorem aAe{x:UInt64}{i:Int}{next:aM}(h:∃J m e,BK x= .fin J m e/\BL J m e=i)(k:bJ next ao w A U none aa):(zF x i t next).Ok ao (av w) A U none aa lv:=by refine mX h λJ m e Y H=>?_;subst H;exact dY (λz=>eM aSw aSx (aSy _) (aSz t Y) (λs=>rfl) λQ s k=>k _ _) λe z=>k e lv
theorem aAf{x r:UInt64}{i:Int}{next:aM}(H:lf (d6 i)=false)(h:gV x (d6 i)=r)(k:bJ next ao w A U none aa):(NV x i r t u next).Ok ao (av w) A U none aa lv:=by subst h;exact dY (λz=>eM aSp aSq (aSr _ _) (aW3 x t i u (by refine rR H ?_;decide)) (λs=>rfl) λQ s k=>k _ _) λe z=>k e lv
variable (XK:aK w aa)(NL:aa.NoLimit)(V:RV)(t u v:ab)
include XK NL
theorem aAg(h:iQ V.s 0=true):Any ao w aa 5 (qP V t u v) [] (cQ V.v V.v V.v):=bS XK NL 600 _ [0] (λz tk=>NU ..) (by decide) _ (λz=>rfl) (λH z z z z=>n7 h λz z=>True.intro) λsz tk H=>sT.2.1 ..
theorem aAh{i:Nat}(Z:i< 6)(H:NX i V):Any ao w aa 5 (qP V t u v) [] (NY i V):=by
 have zr:lf (d6 i)=false:=by rcases i with _|_|_|_|_|_|i<;>first|decide+kernel|exact absurd Z (dw.mpr (dF ..))
 have Y:∀(J:aD)tk,(vp i V t u v tk).Ok ao (av w) J J.units none aa []:=λJ tk=>
  n7 H.nz λz z=>sS H.m1 λz z=>aAe H.int λz z=>sS H.m1 λz z=>aAf zr H.f λz z=>jO H.a1 λz z=>sS H.p λz z=>sS H.a2 λz z=>jO H.a3 λz z=>sS H.q λz z=>jO H.a4 λz z=>sS H.a5 λz z=>jO H.a6 λz z=>sS H.t λz z=>True.intro;rcases i with _|_|_|_|_|_|i
 ·exact bS XK NL 600 _ [0] _ (by decide) _ (λz=>rfl) (λJ z z z z=>Y J _) λsz tk H=>sT.2.2.1 ..
 ·exact bS XK NL 600 _ [0] _ (by decide) _ (λz=>rfl) (λJ z z z z=>Y J _) λsz tk H=>sT.2.2.2.1 ..
 ·exact bS XK NL 600 _ [0] _ (by decide) _ (λz=>rfl) (λJ z z z z=>Y J _) λsz tk H=>sT.2.2.2.2.1 ..
 ·exact bS XK NL 600 _ [0] _ (by decide) _ (λz=>rfl) (λJ z z z z=>Y J _) λsz tk H=>sT.2.2.2.2.2.1 ..
 ·exact bS XK NL 600 _ [0] _ (by decide) _ (λz=>rfl) (λJ z z z z=>Y J _) λsz tk H=>sT.2.2.2.2.2.2.1 ..
 ·exact bS XK NL 600 _ [0] _ (by decide) _ (λz=>rfl) (λJ z z z z=>Y J _) λsz tk H=>sT.2.2.2.2.2.2.2 ..
 ·exact absurd Z (dw.mpr (dF ..))
end
section
open PySem PySem.Float64
set_option exponentiation.threshold 3000
noncomputable def N(k:Nat)(n:Int):Int:=n*2 ^ (1074 - k)
theorem CJ{n:Int}(hn:n.natAbs< 2 ^ 53)(H:k<=1000):Rep (N k n):=GB hn (fz [lE Y1 1000,eQ (Y0+Y1) 1074] (lE 52 Y0) [1,-1] 1 rfl H (bX (bu [lE Y0 1000] (lE Y0 1074) rfl H))) (aT [eQ (Y0+Y1) 1074] (lE Y0 1200) rfl (bX (bu [lE Y0 1000] (lE Y0 1074) rfl H)))
theorem NZ(k:Nat)(a b:Int):N k a+N k b=N k (a+b):=(WI ..).symm
theorem N0(k:Nat)(a b:Int):N k a - N k b=N k (a - b):=(Int.sub_mul ..).symm
theorem sU{k:Nat}(i:Nat)(a:Int)(h:k+i<=1074):N k a=N (k+i) (a*2 ^ i):=by unfold N;exact rR (pi ..) (rL (wQ ..) (rR (Zd h ..) rfl))
theorem oe(h:0<=a):0<=N k a:=lZ h (gh (r8 (by decide)))
theorem vv{k:Nat}{a:Int}(h:0< a):0< N k a:=W6 h (r8 (by decide))
theorem CK:N k a<=N k b ↔ a<=b:=Int.mul_le_mul_right (r8 (by decide))
theorem zG:N k a=N k b ↔ a=b:=Int.mul_eq_mul_right_iff (nL (r8 (by decide)))
theorem zH{x:UInt64}(Y:Is x (N k a))(J:Is y (N k b))(h:(a+b).natAbs< 2 ^ 53)(H:k<=1000):Is (uK x y) (N k (a+b)):=rL (NZ ..) (Y.add J (rR (NZ ..) (CJ h H)))
theorem m4{x:UInt64}(Y:Is x (N k a))(J:Is y (N k b))(h:(a - b).natAbs< 2 ^ 53)(H:k<=1000):Is (gV x y) (N k (a - b)):=rL (N0 ..) (Y.sub J (rR (N0 ..) (CJ h H)))
theorem qR{x:UInt64}(hx:Is x (N j a))(Z:Is y (N k b))(J:0<=a)(Y:0<=b)(h:(a*b).natAbs< 2 ^ 53)(H:j+k<=1000):Is (iI x y) (N (j+k) (a*b)):=by refine hx.mul Z (oe J) (oe Y) (oe (lZ J Y)) (CJ h H) ?_;unfold N;exact rR (pi ..) (rR (W7 (2 ^ _) ..) (rL (pi ..) (rR (pi (a*b) ..) (rL (wQ ..) (rL (wQ ..) (rR (Zc (aE H (by decide)) ..) rfl))))))
theorem zI{x:UInt64}{m:Nat}{c:Int}(hx:Is x (N k a))(Y:Is y (N k b))(J:0<=a)(Z:0< b)(hc:0<=c)(h:c.natAbs< 2 ^ 53)(H:m<=1000)(e:a*2 ^ m=b*c):Is (gX x y) (N m c):=by
 refine hx.div Y (oe J) (vv Z) (oe hc) (CJ h H) ?_;unfold N;have J:(2:Int) ^ 1074=2 ^ m*2 ^ (1074 - m):=by rw[<-wQ,show m+(1074 - m)=1074 from c8 (aT [eQ (Y1+Y0) 1074] (lE (Y0+Y1) 1074) rfl (bX (bu [lE Y0 1000] (lE Y0 1074) rfl H))) (fz [eQ (Y1+Y0) 1074] (lE 1074 (Y0+Y1)) [-1] 1 rfl (bX (bu [lE Y0 1000] (lE Y0 1074) rfl H)))]
 simp only[J,pi,W7 (2 ^ (1074 - k)),<-pi a,e,pi b c,pi b _,W7 (2 ^ _) c]
theorem Hb{x:UInt64}(H:Is x a)(J:Is y b):pO x y=decide (b< a):=by
 unfold pO;refine rR (H.cmp J) ?_;rcases Mh a b with h|h|h
 ·rw[show compare a b= .lt from Mi.mpr h];simp;exact bR [lL Y0 Y1] (lE Y0 Y1) rfl h
 ·rw[show compare a b= .eq from Mj.mpr h];simp;exact bR [eQ Y0 Y1] (lE Y0 Y1) rfl h
 ·rw[show compare a b= .gt from FQ.mpr h];simp;exact bR [lL Y0 Y1] (lL Y0 Y1) rfl h
theorem Hc{x:UInt64}(H:Is x a)(J:Is y b):pP x y=decide (a< b):=by
 unfold pP;refine rR (H.cmp J) ?_;rcases Mh a b with h|h|h
 ·rw[show compare a b= .lt from Mi.mpr h];simp;exact bR [lL Y0 Y1] (lL Y0 Y1) rfl h
 ·rw[show compare a b= .eq from Mj.mpr h];simp;exact cN [eQ Y1 Y0] (lE Y0 Y1) [-1] 1 rfl h
 ·rw[show compare a b= .gt from FQ.mpr h];simp;exact bR [lL Y0 Y1] (lE Y0 Y1) rfl h
theorem vx{x:UInt64}(H:Is x a)(J:Is y b):iQ x y=decide (a=b):=by
 unfold iQ;refine rR (H.cmp J) ?_;rcases Mh a b with h|h|h
 ·rw[show compare a b= .lt from Mi.mpr h];simp;exact WB (bR [lL Y0 Y1] (lL Y0 Y1) rfl h)
 ·rw[show compare a b= .eq from Mj.mpr h];simp;exact bw (bR [eQ Y0 Y1] (lE Y0 Y1) rfl h) (cN [eQ Y1 Y0] (lE Y0 Y1) [-1] 1 rfl h)
 ·rw[show compare a b= .gt from FQ.mpr h];simp;exact nL (bR [lL Y0 Y1] (lL Y0 Y1) rfl h)
theorem He{x z:UInt64}{c m:Int}(hx:Is x a)(Z:Is y b)(Y:Is z c)(h:(m=a\/m=b\/m=c)/\a<=m/\b<=m/\c<=m):Is (fL x y z) m:=by
 refine zn h λJ h1 h2 h3=>?_;unfold fL;rw[Hb Z hx];by_cases H:a< b
 ·rw[if_pos (by simpa using H),Hb Y Z];by_cases e2:b< c
  ·rw[if_pos (by simpa using e2)];have:m=c:=M3 J (gh (Mk H e2)) (gh e2) (fv _) h3;exact this▸Y
  ·rw[if_neg (by simpa using e2)];have:m=b:=M3 J (gh H) (fv _) (fG.mp e2) h2;exact this▸Z
 ·rw[if_neg (by simpa using H),Hb Y hx];by_cases e2:a< c
  ·rw[if_pos (by simpa using e2)];have:m=c:=M3 J (gh e2) (kU (fG.mp H) (gh e2)) (fv _) h3;exact this▸Y
  ·rw[if_neg (by simpa using e2)];have:m=a:=M3 J (fv _) (fG.mp H) (fG.mp e2) h1;exact this▸hx
theorem Hf{x z:UInt64}{c m:Int}(Z:Is x a)(Y:Is y b)(J:Is z c)(h:(m=a\/m=b\/m=c)/\m<=a/\m<=b/\m<=c):Is (iM x y z) m:=by
 unfold iM;rw[Hc Y Z];by_cases H:b< a
 ·rw[if_pos (by simpa using H),Hc J Y];by_cases e2:c< b
  ·rw[if_pos (by simpa using e2)];have:m=c:=m3 h.1 (gh (Mk e2 H)) (gh e2) (fv _) h.2.2.2;exact this▸J
  ·rw[if_neg (by simpa using e2)];have:m=b:=m3 h.1 (gh H) (fv _) (fG.mp e2) h.2.2.1;exact this▸Y
 ·rw[if_neg (by simpa using H),Hc J Z];by_cases e2:c< a
  ·rw[if_pos (by simpa using e2)];have:m=c:=m3 h.1 (gh e2) (kU (gh e2) (fG.mp H)) (fv _) h.2.2.2;exact this▸J
  ·rw[if_neg (by simpa using e2)];have:m=a:=m3 h.1 (fv _) (fG.mp H) (fG.mp e2) h.2.1;exact this▸Z
noncomputable def jP(x:UInt64)(z:Int):Bool:=decide (x.toNat % 2 ^ 63< infMag) && (x==pack (decide (z< 0)) (x.toNat % 2 ^ 63) && V (x.toNat % 2 ^ 63)==z.natAbs)
theorem mu{x:UInt64}(h:jP x z=true):Is x z:=by unfold jP at h;rw[gw,gw,decide_eq_true_eq,beq_iff_eq,beq_iff_eq]at h;exact⟨_,h.1,h.2.1,h.2.2⟩
theorem aAi:Is ku (N 0 6):=mu (by decide+kernel)
theorem aAj:Is jm (N 0 2):=mu (by decide+kernel)
theorem aAk:Is CD (N 0 4):=mu (by decide+kernel)
theorem xp:Is 0 0:=mu (by decide+kernel)
def wt(H:Int)(P:Nat):Int:=max 0 (min 32 (64 - min (3*(P:Int) - H).natAbs (192 - (3*(P:Int) - H).natAbs)))
def q3(P:Nat):Nat:=if wt 0 P=32 then 0 else if wt 64 P=32 then 1 else 2
def qS(P:Nat):Int:=match q3 P with
 |0=>wt 64 P - wt 128 P|1=>64+wt 128 P - wt 0 P|_=>128+wt 0 P - wt 64 P
theorem aAl:∀P< 64,jP (ofFrac (decide (qS P< 0)) (qS P).natAbs 32) (qS P*2 ^ 1069)=true/\jP (divmod (div (ofFrac (decide (qS P< 0)) (qS P).natAbs 32) ku) e6).2 ((P:Int)*2 ^ 1068)=true:=by decide+kernel
theorem aAm:∀n< 128,jP (ofFrac false n 64) ((n:Int)*2 ^ 1068)=true/\jP (divmod (ofFrac false n 64) e6).2 (((n % 64:Nat):Int)*2 ^ 1068)=true:=by decide+kernel
theorem zJ:∀P< 64,(wt 0 P=32\/wt 64 P=32\/wt 128 P=32)/\(wt 0 P=0\/wt 64 P=0\/wt 128 P=0)/\(0<=wt 0 P/\wt 0 P<=32)/\(0<=wt 64 P/\wt 64 P<=32)/\(0<=wt 128 P/\wt 128 P<=32):=by decide+kernel
def six(i:Nat)(fr:Int):Int×Int×Int:=nc (match i with
 |0=>(32,fr,0)|1=>(32 - fr,32,0)|2=>(0,32,fr)|3=>(0,32 - fr,32)|4=>(fr,0,32)|_=>(32,0,32 - fr))
theorem aAn:∀P< 64,3*P / 32< 6/\six (3*P / 32) ((3*P % 32:Nat):Int)=(wt 0 P,wt 64 P,wt 128 P):=by decide+kernel
theorem N6(P:Nat):N (6+0) ((P:Int)*6)/ 2 ^ 1074=((3*P / 32:Nat):Int):=by show _*6*2 ^ 1068 / 2 ^ 1074=_;exact rR (show(2:Int) ^ 1074=64*2 ^ 1068 from wQ 2 6 1068) (rR (aSa _ _ (r8 (by decide))) (congrArg mf (show P*6 / 64=_ by exact rR (show P*6=2*_ from rR (dU ..) (rL (i9 ..) rfl)) (Nat.mul_div_mul_left _ 32 (by decide)))))
theorem aAo{x:Nat}(Y:B<=256)(h:x<=B*256):16384*B - 32*x<=4194304/\32*x<=16384*B - 32*x/\16384*B - 32*x+32*x<=4194304:=by have h':=dU B 256▸h;have H:=nA [x,B] [lE Y0 (.m 256 Y1)] (lE ((Ax.m 32 Y0)+(Ax.m 32 Y0)) (Ax.m 16384 Y1)) [64] 1 rfl h';have J:=dT 16384 Y;exact⟨aE (nK ..) J,Nat.le_sub_of_add_le H,aE (qu (bX (aE (dF ..) H))) J⟩
theorem aAp{x:Nat}(h:x<=B*256):8192*(B:Int)+(8192*(B:Int) - 32*(x:Int))=((16384*B - 32*x:Nat):Int):=by have h':=dU B 256▸h;refine rR (ph (nA [x,B] [lE Y0 (.m 256 Y1)] (lE (.m 32 Y0) (.m 16384 Y1)) [64] 2 rfl h') ..) (rL (aR0 ..) (rL (WI ..) ?_));rfl
end
section
open PySem PySem.Float64
set_option exponentiation.threshold 3000
noncomputable def Li(B F w:Int):Int:=B*(32*(256 - F)+F*w)
theorem vy(B F w:Int):Li B F w=8192*B - 32*(B*F)+B*F*w:=by unfold Li;grind
structure d8(P:Nat)(F B:Int)(r g b:UInt64):Prop where
 r:Is r (N 21 (Li B F (wt 0 P)))
 g:Is g (N 21 (Li B F (wt 64 P)))
 b:Is b (N 21 (Li B F (wt 128 P)))
def pS(q:Nat)(r g b:UInt64)(s:UInt64):HV:=let H:=fL r g b
 let J:=iM r g b
 let Y:=sub H J
 let rc:=div (sub H r) Y
 let Z:=div (sub H g) Y
 let bc:=div (sub H b) Y
 let k:=if q=1 then add jm rc else add CD Z
 let h0:=if q=0 then sub bc Z else if q=1 then sub k bc else sub k rc
 let n1:=sub jm H
 ⟨r,g,b,H,J,Y,s,sub H r,sub H g,sub H b,rc,Z,bc,k,h0,div h0 ku,(divmod (div h0 ku) e6).2,add H J,div (add H J) jm,n1,sub n1 J⟩
theorem mw{x y X Y:Int}(Z:0<=x)(J:x<=X)(H:0<=y)(h3:y<=Y):0<=x*y/\x*y<=X*Y:=⟨lZ Z H,Ml J h3 H (kU Z J)⟩
theorem m5{x:UInt64}{n:Int}(h:jP x (n*2 ^ j)=true)(e:j=1074 - k):Is x (N k n):=by subst e;exact mu h
theorem N8{P:Nat}{F B:Int}{r g b:UInt64}(s:UInt64)(hP:P< 64)(hF:0< F)(cc:F<=256)(hB:0< B)(bF:B<=256)(C:d8 P F B r g b):vq (q3 P) (pS (q3 P) r g b s)/\Is (pS (q3 P) r g b s).mx (N 21 (8192*B))/\Is (pS (q3 P) r g b s).mn (N 21 (8192*B - 32*(B*F)))/\Is (pS (q3 P) r g b s).rg (N 21 (32*(B*F)))/\Is (pS (q3 P) r g b s).h (N 6 P):=by
 refine hO λcg aY=>YS (zJ P hP) λw1 w2 z1 z2 c0 c1=>?_;obtain⟨a0,a1⟩:=z1;obtain⟨b0,b1⟩:=z2;obtain⟨J,A1⟩:=mw (gh hB) bF (gh hF) cc;refine aY ?_;have A0:=W6 hB hF;obtain⟨Cr,Cg,Cb⟩:=C;rw[vy]at Cr Cg Cb;have q:=aAl P hP;have hq:q3 P=if wt 0 P=32 then 0 else if wt 64 P=32 then 1 else 2:=rfl
 have hh:qS P=(match q3 P with
  |0=>wt 64 P - wt 128 P|1=>64+wt 128 P - wt 0 P|_=>128+wt 0 P - wt 64 P):=rfl;have H:B*F*32=32*_:=fj _ _;have Y:B*F*0=0:=yU _;generalize wt 0 P=x at*;generalize wt 64 P=y at*;generalize wt 128 P=z at*;generalize B*F=A at*;obtain⟨p0,p1⟩:=mw J A1 a0 a1;obtain⟨r0,r1⟩:=mw J A1 b0 b1;obtain⟨s0,s1⟩:=mw J A1 c0 c1;have u1:=H▸FS a1 J;have u2:=H▸FS b1 J;have u3:=H▸FS c1 J;have Z:Is _ (N 21 (8192*B)):=He Cr Cg Cb (by
  simp only[CK,zG];refine⟨?_,g9 [lE Y2 (Ax.m 32 Y1)] (lE ((Ax.m 8192 Y0)-(Ax.m 32 Y1)+Y2) (Ax.m 8192 Y0)) rfl u1,g9 [lE Y2 (Ax.m 32 Y1)] (lE ((Ax.m 8192 Y0)-(Ax.m 32 Y1)+Y2) (Ax.m 8192 Y0)) rfl u2,g9 [lE Y2 (Ax.m 32 Y1)] (lE ((Ax.m 8192 Y0)-(Ax.m 32 Y1)+Y2) (Ax.m 8192 Y0)) rfl u3⟩;rcases w1 with h|h|h
  ·rw[h];left;exact bw (jN [eQ Y2 (Ax.m 32 Y1)] (lE (Ax.m 8192 Y0) ((Ax.m 8192 Y0)-(Ax.m 32 Y1)+Y2)) [-1] 1 rfl H) (g9 [eQ Y2 (Ax.m 32 Y1)] (lE ((Ax.m 8192 Y0)-(Ax.m 32 Y1)+Y2) (Ax.m 8192 Y0)) rfl H)
  ·rw[h];right;left;exact bw (jN [eQ Y2 (Ax.m 32 Y1)] (lE (Ax.m 8192 Y0) ((Ax.m 8192 Y0)-(Ax.m 32 Y1)+Y2)) [-1] 1 rfl H) (g9 [eQ Y2 (Ax.m 32 Y1)] (lE ((Ax.m 8192 Y0)-(Ax.m 32 Y1)+Y2) (Ax.m 8192 Y0)) rfl H)
  ·rw[h];right;right;exact bw (jN [eQ Y2 (Ax.m 32 Y1)] (lE (Ax.m 8192 Y0) ((Ax.m 8192 Y0)-(Ax.m 32 Y1)+Y2)) [-1] 1 rfl H) (g9 [eQ Y2 (Ax.m 32 Y1)] (lE ((Ax.m 8192 Y0)-(Ax.m 32 Y1)+Y2) (Ax.m 8192 Y0)) rfl H));have mn:Is _ (N 21 (8192*B - 32*A)):=Hf Cr Cg Cb (by
  simp only[CK,zG];refine⟨?_,g9 [lE 0 Y2] (lE ((Ax.m 8192 Y0)-(Ax.m 32 Y1)) ((Ax.m 8192 Y0)-(Ax.m 32 Y1)+Y2)) rfl p0,g9 [lE 0 Y2] (lE ((Ax.m 8192 Y0)-(Ax.m 32 Y1)) ((Ax.m 8192 Y0)-(Ax.m 32 Y1)+Y2)) rfl r0,g9 [lE 0 Y2] (lE ((Ax.m 8192 Y0)-(Ax.m 32 Y1)) ((Ax.m 8192 Y0)-(Ax.m 32 Y1)+Y2)) rfl s0⟩;rcases w2 with h|h|h
  ·rw[h];left;exact bw (jN [eQ Y2 0] (lE ((Ax.m 8192 Y0)-(Ax.m 32 Y1)) ((Ax.m 8192 Y0)-(Ax.m 32 Y1)+Y2)) [-1] 1 rfl Y) (g9 [eQ Y2 0] (lE ((Ax.m 8192 Y0)-(Ax.m 32 Y1)+Y2) ((Ax.m 8192 Y0)-(Ax.m 32 Y1))) rfl Y)
  ·rw[h];right;left;exact bw (jN [eQ Y2 0] (lE ((Ax.m 8192 Y0)-(Ax.m 32 Y1)) ((Ax.m 8192 Y0)-(Ax.m 32 Y1)+Y2)) [-1] 1 rfl Y) (g9 [eQ Y2 0] (lE ((Ax.m 8192 Y0)-(Ax.m 32 Y1)+Y2) ((Ax.m 8192 Y0)-(Ax.m 32 Y1))) rfl Y)
  ·rw[h];right;right;exact bw (jN [eQ Y2 0] (lE ((Ax.m 8192 Y0)-(Ax.m 32 Y1)) ((Ax.m 8192 Y0)-(Ax.m 32 Y1)+Y2)) [-1] 1 rfl Y) (g9 [eQ Y2 0] (lE ((Ax.m 8192 Y0)-(Ax.m 32 Y1)+Y2) ((Ax.m 8192 Y0)-(Ax.m 32 Y1))) rfl Y));have rg:Is (sub (fL r g b) (iM r g b)) (N 21 (32*A)):=by
  have:=m4 Z mn (ii (cN [lE 0 Y1] (lE 0 ((Ax.m 8192 Y0)-((Ax.m 8192 Y0)-(Ax.m 32 Y1)))) [32] 1 rfl J) (cN [lE Y1 (Ax.m 256 256)] (lE ((Ax.m 8192 Y0)-((Ax.m 8192 Y0)-(Ax.m 32 Y1))) 100000000) [32] 1 rfl A1)) (by decide);rwa [show 8192*B - (8192*B - 32*A)=32*A from bw (bR [] (lE ((Ax.m 8192 Y0)-((Ax.m 8192 Y0)-(Ax.m 32 Y1))) (Ax.m 32 Y1)) rfl) (bR [] (lE (Ax.m 32 Y0) ((Ax.m 8192 Y1)-((Ax.m 8192 Y1)-(Ax.m 32 Y0)))) rfl)]at this
 have dd:∀{v:UInt64}{t:Int},Is v (N 21 (8192*B - 32*A+A*t))->0<=t->t<=32->0<=A*t->A*t<=32*A->Is (sub (fL r g b) v) (N 21 (A*(32 - t)))/\Is (div (sub (fL r g b) v) (sub (fL r g b) (iM r g b))) (N 5 (32 - t)):=by
  intro v t hv t0 t1 t2 t3;have e1:8192*B - (8192*B - 32*A+A*t)=A*(32 - t):=by grind
  have d:Is (sub (fL r g b) v) (N 21 (A*(32 - t))):=by have:=m4 Z hv (ii (g9 [lE Y2 (Ax.m 32 Y1)] (lE 0 ((Ax.m 8192 Y0)-((Ax.m 8192 Y0)-(Ax.m 32 Y1)+Y2))) rfl t3) (jN [lE Y1 (Ax.m 256 256),lE 0 Y2] (lE ((Ax.m 8192 Y0)-((Ax.m 8192 Y0)-(Ax.m 32 Y1)+Y2)) 100000000) [32,1] 1 rfl A1 t2)) (by decide);rwa [e1]at this
  exact⟨d,zI d rg (lZ J (bf [lE Y0 32] (lE 0 (32-Y0)) rfl t1)) (g8 [lL 0 Y0] (lL 0 (.m 32 Y0)) [32] 1 rfl A0) (bf [lE Y0 32] (lE 0 (32-Y0)) rfl t1) (ii (bf [lE Y0 32] (lE 0 (32-Y0)) rfl t1) (bf [lE 0 Y0] (lE (32-Y0) 100000000) rfl t0)) (by decide) (by grind)⟩
 obtain⟨J,rc⟩:=dd Cr a0 a1 p0 u1;refine d7 (dd Cg b0 b1 r0 u2) λJ gc=>?_;obtain⟨J,bc⟩:=dd Cb c0 c1 s0 u3;have up:∀{x:UInt64}{n:Int},Is x _->Is x (N 5 (n*2 ^ 5)):=λh=>rL (sU 5 _ (by decide)) h;have h0:Is (pS (q3 P) r g b s).h0 (N 5 (qS P)):=by
  have hc:q3 P=0\/q3 P=1\/q3 P=2:=by refine rR hq ?_;split;exact .inl rfl;split;exact .inr (.inl rfl);exact .inr (.inr rfl)
  rcases hc with h|h|h<;>refine rR hh (rR h ?_)
  ·have:=m4 bc gc (mZ (bR [lE 0 Y1,lE Y0 32] (lE (0-9007199254740991) (32-Y0-(32-Y1))) rfl b0 c1) (bR [lE Y1 32,lE 0 Y0] (lE (32-Y0-(32-Y1)) 9007199254740991) rfl b1 c0)) (by decide);rwa [show 32 - z - (32 - y)=y - z from bw (bR [] (lE (32-Y0-(32-Y1)) (Y1-Y0)) rfl) (bR [] (lE (Y0-Y1) (32-Y1-(32-Y0))) rfl)]at this
  ·have k:=zH (up aAj) rc (mZ (bf [lE Y0 32] (lE (0-9007199254740991) ((Ax.m 2 32)+(32-Y0))) rfl a1) (bf [lE 0 Y0] (lE ((Ax.m 2 32)+(32-Y0)) 9007199254740991) rfl a0)) (by decide);have:=m4 k bc (mZ (bR [lE Y0 32,lE 0 Y1] (lE (0-9007199254740991) ((Ax.m 2 32)+(32-Y0)-(32-Y1))) rfl a1 c0) (bR [lE 0 Y0,lE Y1 32] (lE ((Ax.m 2 32)+(32-Y0)-(32-Y1)) 9007199254740991) rfl a0 c1)) (by decide);rwa [show(2*2 ^ 5+(32 - x) - (32 - z):Int)=64+z - x from bw (bR [] (lE ((Ax.m 2 32)+(32-Y0)-(32-Y1)) (64+Y1-Y0)) rfl) (bR [] (lE (64+Y0-Y1) ((Ax.m 2 32)+(32-Y1)-(32-Y0))) rfl)]at this
  ·have k:=zH (up aAk) gc (mZ (bf [lE Y0 32] (lE (0-9007199254740991) ((Ax.m 4 32)+(32-Y0))) rfl b1) (bf [lE 0 Y0] (lE ((Ax.m 4 32)+(32-Y0)) 9007199254740991) rfl b0)) (by decide);have:=m4 k rc (mZ (bR [lE 0 Y1,lE Y0 32] (lE (0-9007199254740991) ((Ax.m 4 32)+(32-Y0)-(32-Y1))) rfl a0 b1) (bR [lE Y1 32,lE 0 Y0] (lE ((Ax.m 4 32)+(32-Y0)-(32-Y1)) 9007199254740991) rfl a1 b0)) (by decide);rwa [show(4*2 ^ 5+(32 - y) - (32 - x):Int)=128+x - y from bw (bR [] (lE ((Ax.m 4 32)+(32-Y0)-(32-Y1)) (128+Y1-Y0)) rfl) (bR [] (lE (128+Y0-Y1) ((Ax.m 4 32)+(32-Y1)-(32-Y0))) rfl)]at this
 have hz:Is (pS (q3 P) r g b s).h (N 6 P):=by show Is (divmod (div (pS _ r g b s).h0 ku) e6).2 _;exact rR (h0.inj (m5 q.1 rfl)) (m5 q.2 rfl)
 refine⟨⟨rfl,rfl,rfl,?_,rg.isZero (by have:=@vv 21 _ (g8 [lL 0 Y0] (lL 0 (.m 32 Y0)) [32] 1 rfl A0);exact nL (bf [lL 0 Y0] (lL 0 Y0) rfl this)),rfl,rfl,rfl,rfl,rfl,rfl,rfl,rfl,?_⟩,Z,mn,rg,hz⟩
 ·show iQ (iM ..) (fL ..)=false;rw[vx mn Z,decide_eq_false_iff_not,zG];exact WB (cN [lL 0 Y1] (lL ((Ax.m 8192 Y0)-(Ax.m 32 Y1)) (Ax.m 8192 Y0)) [32] 1 rfl A0)
 ·have er:iQ r (fL r g b)=decide (x=32):=by
   rw[vx Cr Z];refine decide_eq_decide.mpr (zG.trans ⟨λh=>?_,λh=>rR h (bw (g9 [eQ Y2 (Ax.m 32 Y1)] (lE ((Ax.m 8192 Y0)-(Ax.m 32 Y1)+Y2) (Ax.m 8192 Y0)) rfl H) (jN [eQ Y2 (Ax.m 32 Y1)] (lE (Ax.m 8192 Y0) ((Ax.m 8192 Y0)-(Ax.m 32 Y1)+Y2)) [-1] 1 rfl H))⟩);have h2:A*(32 - x)=0:=by grind
   rcases aS0.mp h2 with h|h<;>omega
  have eg:iQ g (fL r g b)=decide (y=32):=by
   rw[vx Cg Z];refine decide_eq_decide.mpr (zG.trans ⟨λh=>?_,λh=>rR h (bw (g9 [eQ Y2 (Ax.m 32 Y1)] (lE ((Ax.m 8192 Y0)-(Ax.m 32 Y1)+Y2) (Ax.m 8192 Y0)) rfl H) (jN [eQ Y2 (Ax.m 32 Y1)] (lE (Ax.m 8192 Y0) ((Ax.m 8192 Y0)-(Ax.m 32 Y1)+Y2)) [-1] 1 rfl H))⟩);have h2:A*(32 - y)=0:=by grind
   rcases aS0.mp h2 with h|h<;>omega
  refine rR hq ?_;by_cases hx:x=32
  ·rw[if_pos hx];exact .inl ⟨rfl,er.trans (by simp[hx]),rfl⟩
  ·rw[if_neg hx];by_cases hy:y=32
   ·rw[if_pos hy];exact .inr (.inl ⟨rfl,er.trans (by simp[hx]),eg.trans (by simp[hy]),rfl,rfl⟩)
   ·rw[if_neg hy];exact .inr (.inr ⟨rfl,er.trans (by simp[hx]),eg.trans (by simp[hy]),rfl,rfl⟩)
end
section
open PySem PySem.Float64
set_option maxHeartbeats 1000000
set_option exponentiation.threshold 3000
theorem aAq{P:Nat}{F B:Int}{r g b:UInt64}(hP:P< 64)(J:0< F)(cc:F<=256)(Y:0< B)(bF:B<=256)(C:d8 P F B r g b):∃V:HV,V.r=r/\V.g=g/\V.b=b/\vq (q3 P) V/\kX V.mx=false/\gX V.rg V.mx=V.s/\Is V.h (N 6 P)/\Is V.s (N 8 F)/\Is V.mx (N 8 B):=by
 refine hO λcg aY=>?_;obtain⟨H,Z,mn,rg,h⟩:=N8 (div _ (fL ..)) hP J cc Y bF C;refine aY ⟨_,rfl,rfl,rfl,H,Z.isZero ?_,rfl,h,?_,?_⟩
 ·have:=@vv 21 _ (g8 [lL 0 Y0] (lL 0 (.m 8192 Y0)) [8192] 1 rfl Y);exact nL (bf [lL 0 Y0] (lL 0 Y0) rfl this)
 ·exact zI rg Z (by have:=W6 Y J;exact g8 [lL 0 Y0] (lE 0 (.m 32 Y0)) [32] 1 rfl this) (g8 [lL 0 Y0] (lL 0 (.m 8192 Y0)) [8192] 1 rfl Y) (bf [lL 0 Y0] (lE 0 Y0) rfl J) (ii (bf [lL 0 Y0] (lE 0 Y0) rfl J) (bf [lE Y0 256] (lE Y0 100000000) rfl cc)) (by decide) (by grind)
 ·simp only[@sU 8 13 B (by decide),show B*2 ^ 13=8192*B from bw (bR [eQ Y0 (Ax.m 8192 Y1)] (lE Y0 (Ax.m 8192 Y1)) rfl (fj (B) _)) (cN [eQ Y1 (Ax.m 8192 Y0)] (lE (Ax.m 8192 Y0) Y1) [-1] 1 rfl (fj (B) _))];exact Z
theorem aAr:Is e6 (N 8 256):=mu (by decide+kernel)
theorem N9:Is e6 (N 13 8192):=mu (by decide+kernel)
theorem aAs:Is e6 (N 5 32):=mu (by decide+kernel)
theorem aAt:∀i< 6,jP (ofInt ((i:Nat):Int)) ((i:Int)*2 ^ 1074)=true:=by decide+kernel
def CL(h s v:UInt64)(i:Nat):RV:=let Z:=mul h ku
 let f:=sub Z (ofInt i)
 let J:=sub e6 s
 let Y:=mul s f
 let a3:=sub e6 Y
 let H:=sub e6 f
 let a5:=mul s H
 let a6:=sub e6 a5
 ⟨h,s,v,Z,f,J,mul v J,Y,a3,mul v a3,H,a5,a6,mul v a6⟩
theorem aAu{P:Nat}{F B:Int}{h s v:UInt64}(hP:P< 64)(Y:0< F)(cc:F<=256)(hB:0<=B)(bF:B<=256)(Ch:Is h (N 6 P))(Cs:Is s (N 8 F))(Cv:Is v (N 8 B)):∃V:RV,V.h=h/\V.s=s/\V.v=v/\3*P / 32< 6/\NX (3*P / 32) V/\∃r' g' b',NY (3*P / 32) V=cQ r' g' b'/\d8 P F B r' g' b':=by
 refine d7 (aAn P hP) λhi hs=>?_;have m1:=qR Ch aAi ((bG _)) (iB [] [] (lE 0 6) rfl) (mZ (iA [_,(P:Nat)] [eQ Y0 (Ax.m 6 Y1),lE 0 Y1] (lE (0-9007199254740991) Y0) [-1,6] 1 rfl (fj (↑P) _) (bG _)) (iA [_,(P:Nat)] [lL Y1 64,eQ Y0 (Ax.m 6 Y1)] (lE Y0 9007199254740991) [6,1] 1 rfl (cb.mpr hP) (fj (↑P) _))) (dF ..);generalize jo:3*P % 32=fr at*;have Z:3*P=32*(3*P / 32)+fr:=c8 (lq [eQ Y3 Y2,eQ (Y3+(Ax.m 32 Y1)) (Ax.m 3 Y0)] (lE (Ax.m 3 Y0) ((Ax.m 32 Y1)+Y2)) [1,-1] 1 rfl jo (aS1 _ _)) (lq [eQ Y3 Y1,eQ (Y3+(Ax.m 32 Y0)) (Ax.m 3 Y2)] (lE ((Ax.m 32 Y0)+Y1) (Ax.m 3 Y2)) [-1,1] 1 rfl jo (aS1 _ _));generalize CN:3*P / 32=i at*;have sW:=fz [eQ Y1 Y0,lL Y1 32] (lL Y0 32) [-1,1] 1 rfl jo (uP _ (by decide));have f:Is (sub (mul h ku) (ofInt (i:Int))) (N 5 (fr:Int)):=by have:=m4 m1 (rL (sU 6 _ (by decide)) (m5 (aAt _ hi) rfl)) (mZ (iA [_,_,(P:Nat),(i:Nat),(fr:Nat)] [eQ (Ax.m 3 Y2) ((Ax.m 32 Y3)+Y4),eQ Y0 (Ax.m 6 Y2),eQ Y1 (Ax.m 64 Y3),lE 0 Y4] (lE (0-9007199254740991) (Y0-Y1)) [-2,-1,1,2] 1 rfl (congrArg mf Z) (fj (↑P) _) (fj (↑i) _) (bG _)) (iA [_,_,(P:Nat),(i:Nat),(fr:Nat)] [eQ (Ax.m 3 Y2) ((Ax.m 32 Y3)+Y4),lL Y4 32,eQ Y0 (Ax.m 6 Y2),eQ Y1 (Ax.m 64 Y3)] (lE (Y0-Y1) 9007199254740991) [2,2,1,-1] 1 rfl (congrArg mf Z) (cb.mpr sW) (fj (↑P) _) (fj (↑i) _))) (by decide);rw[@sU 5 1 _ (by decide)];rwa [show _*6 - _*2 ^ 6=(fr:Int)*2 ^ 1 from bw (iA [_,_,_,(P:Nat),(i:Nat),(fr:Nat)] [eQ (Ax.m 3 Y3) ((Ax.m 32 Y4)+Y5),eQ Y0 (Ax.m 6 Y3),eQ Y1 (Ax.m 64 Y4),eQ Y2 (Ax.m 2 Y5)] (lE (Y0-Y1) Y2) [2,1,-1,-1] 1 rfl (congrArg mf Z) (fj (↑P) _) (fj (↑i) _) (fj (↑fr) _)) (iA [_,_,_,(P:Nat),(i:Nat),(fr:Nat)] [eQ (Ax.m 3 Y3) ((Ax.m 32 Y4)+Y5),eQ Y0 (Ax.m 2 Y5),eQ Y1 (Ax.m 6 Y3),eQ Y2 (Ax.m 64 Y4)] (lE Y0 (Y1-Y2)) [-2,1,-1,1] 1 rfl (congrArg mf Z) (fj (↑fr) _) (fj (↑P) _) (fj (↑i) _))]at this
 have a1:Is (sub e6 s) (N 8 (256 - F)):=by exact m4 aAr Cs (ii (bf [lE Y0 256] (lE 0 (256-Y0)) rfl cc) (bf [lL 0 Y0] (lE (256-Y0) 100000000) rfl Y)) (by decide)
 have a2:=qR Cs f (bf [lL 0 Y0] (lE 0 Y0) rfl Y) ((bG _)) (by have:=mw (gh Y) cc (bG fr) (show _<=32 by exact iB [(fr:Nat)] [lL Y0 32] (lE Y0 32) rfl (cb.mpr sW));exact ii (this.1) (bf [lE Y0 (Ax.m 256 32)] (lE Y0 100000000) rfl this.2)) (by decide);have b2:=mw (gh Y) cc (bG fr) (show _<=32 by exact iB [(fr:Nat)] [lL Y0 32] (lE Y0 32) rfl (cb.mpr sW));have Z:=mw (gh Y) cc (show(0:Int)<=32 - fr by exact iB [(fr:Nat)] [lL Y0 32] (lE 0 (32-Y0)) rfl (cb.mpr sW)) (show(32:Int) - fr<=32 by exact iB [(fr:Nat)] [lE 0 Y0] (lE (32-Y0) 32) rfl (bG _));have a5:=qR Cs (m4 aAs f (ii (iB [(fr:Nat)] [lL Y0 32] (lE 0 (32-Y0)) rfl (cb.mpr sW)) (iB [(fr:Nat)] [lE 0 Y0] (lE (32-Y0) 100000000) rfl (bG _))) (by decide)) (bf [lL 0 Y0] (lE 0 Y0) rfl Y) (iB [(fr:Nat)] [lL Y0 32] (lE 0 (32-Y0)) rfl (cb.mpr sW)) (ii (Z.1) (bf [lE Y0 (Ax.m 256 32)] (lE Y0 100000000) rfl Z.2)) (by decide);have c1:=mw hB bF (show 0<=256 - F by exact bf [lE Y0 256] (lE 0 (256-Y0)) rfl cc) (show 256 - F<=256 by exact bf [lL 0 Y0] (lE (256-Y0) 256) rfl Y);have c3:=mw hB bF (show 0<=8192 - F*fr by exact bf [lE Y0 (.m 256 32)] (lE 0 (8192-Y0)) rfl b2.2) (show 8192 - F*fr<=8192 by exact bf [lE 0 Y0] (lE (8192-Y0) 8192) rfl b2.1);have c6:=mw hB bF (show 0<=8192 - F*_ by exact bf [lE Y0 (.m 256 32)] (lE 0 (8192-Y0)) rfl Z.2) (show 8192 - F*_<=8192 by exact bf [lE 0 Y0] (lE (8192-Y0) 8192) rfl Z.1);have p:=qR Cv a1 hB (bf [lE Y0 256] (lE 0 (256-Y0)) rfl cc) (ii (c1.1) (bf [lE Y0 (Ax.m 256 256)] (lE Y0 100000000) rfl c1.2)) (by decide);have q:=qR Cv (m4 N9 a2 (ii (bf [lE Y0 (Ax.m 256 32)] (lE 0 (8192-Y0)) rfl b2.2) (bf [lE 0 Y0] (lE (8192-Y0) 100000000) rfl b2.1)) (by decide)) hB (bf [lE Y0 (.m 256 32)] (lE 0 (8192-Y0)) rfl b2.2) (ii (c3.1) (bf [lE Y0 (Ax.m 256 8192)] (lE Y0 100000000) rfl c3.2)) (by decide);have t:=qR Cv (m4 N9 a5 (ii (bf [lE Y0 (Ax.m 256 32)] (lE 0 (8192-Y0)) rfl Z.2) (bf [lE 0 Y0] (lE (8192-Y0) 100000000) rfl Z.1)) (by decide)) hB (bf [lE Y0 (.m 256 32)] (lE 0 (8192-Y0)) rfl Z.2) (ii (c6.1) (bf [lE Y0 (Ax.m 256 8192)] (lE Y0 100000000) rfl c6.2)) (by decide);have Lv:Is v (N 21 (Li B F 32)):=by have e:=@sU 8 13 B (by decide);exact rR (show Li B F 32=B*2 ^ 13 from by unfold Li;grind) (rL e Cv)
 have Lp:Is (CL h s v i).p (N 21 (Li B F 0)):=by have e:=@sU 16 5 (B*(256 - F)) (by decide);exact rR (show Li B F 0=B*_*2 ^ 5 from by unfold Li;grind) (rL e p)
 have Lq:Is (CL h s v i).q (N 21 (Li B F (32 - fr))):=by exact rR (show Li B F _=B*_ from by unfold Li;grind) q
 have Lt:Is (CL h s v i).t (N 21 (Li B F fr)):=by exact rR (show Li B F fr=B*_ from by unfold Li;grind) t
 refine⟨CL ..,rfl,rfl,rfl,hi,⟨?_,rfl,?_,rfl,rfl,rfl,rfl,rfl,rfl,rfl,rfl,rfl,rfl⟩,?_⟩
 ·show iQ s 0=false;rw[vx Cs xp,decide_eq_false_iff_not];have:=@vv 8 F Y;exact nL (bf [lL 0 Y0] (lL 0 Y0) rfl this)
 ·refine mX (m1.int (oe (iA [_,(P:Nat)] [eQ Y0 (Ax.m 6 Y1),lE 0 Y1] (lE 0 Y0) [-1,6] 1 rfl (fj (↑P) _) (bG _)))) λZ m e Y hv=>⟨Z,m,e,Y,hv.trans ?_⟩;exact(N6 P).trans (congrArg mf CN)
 ·have mA:∀x y z,six i _=(x,y,z)->wt 0 P=x/\wt 64 P=y/\wt 128 P=z:=λx y z h=>by rw[h]at hs;simp only[si]at hs;exact⟨hs.1.symm,hs.2.1.symm,hs.2.2.symm⟩
  rcases i with _|_|_|_|_|_|i
  ·exact cI (mA _ _ _ rfl) λH e2 J=>⟨_,_,_,rfl,⟨H▸Lv,e2▸Lt,J▸Lp⟩⟩
  ·exact cI (mA _ _ _ rfl) λH e2 J=>⟨_,_,_,rfl,⟨H▸Lq,e2▸Lv,J▸Lp⟩⟩
  ·exact cI (mA _ _ _ rfl) λH e2 J=>⟨_,_,_,rfl,⟨by refine rR H ?_;exact Lp,e2▸Lv,J▸Lt⟩⟩
  ·exact cI (mA _ _ _ rfl) λH e2 J=>⟨_,_,_,rfl,⟨by refine rR H ?_;exact Lp,e2▸Lq,J▸Lv⟩⟩
  ·exact cI (mA _ _ _ rfl) λH e2 J=>⟨_,_,_,rfl,⟨H▸Lt,e2▸Lp,J▸Lv⟩⟩
  ·exact cI (mA _ _ _ rfl) λH e2 J=>⟨_,_,_,rfl,⟨H▸Lv,e2▸Lp,J▸Lq⟩⟩
  ·exact absurd hi (dw.mpr (dF ..))
end
section
open PySem PySem.Float64
set_option exponentiation.threshold 3000
set_option maxHeartbeats 1000000
theorem Oa(hn:n< 2 ^ 53)(J:52<=j)(H:j<=1200):∃t,t< infMag/\V t=n*2 ^ j:=by refine aO (@GB (n:Int) j hn J H) λt J H=>⟨t,J,H.trans ?_⟩;rfl
theorem aAv{W D t u:Nat}(h:dist W (D*V t)<=dist W (D*V u))(hu:D*V u<=W):D*V u<=D*V t:=nB [_,_,_,_,_,_,_] [lE (Y2+Y3) (Y4+Y5),lE Y6 (Y2+Y1),eQ (Y4+Y0) Y6,eQ Y5 0] (lE Y0 Y1) rfl h (Nat.le_add_of_sub_le (a8 _)) (bX (hu)) (BU (hu))
theorem aAw{J H Y:Nat}(h:dist J Y<=dist J H)(a:H< Y)(b:J<=H):False:=jH 0 (lq [lL Y0 Y1,lE Y2 Y0,eQ (Y3+Y1) Y2] (lL 0 0) [1,1,1] 0 rfl a b (bX (nA [_,_,_,_,_,_,_] [lE (Y2+Y3) (Y4+Y5),lL Y6 Y0,eQ Y2 0,eQ (Y3+Y1) Y0,eQ Y4 0,eQ (Y5+Y1) Y6] (lE Y0 Y1) [1,1,-1,-1,1,1] 0 rfl h a (BU (b7 [lL Y2 Y1,lE Y0 Y2] (lE Y0 Y1) rfl a b)) (bX (b7 [lL Y2 Y1,lE Y0 Y2] (lE Y0 Y1) rfl a b)) (BU (b)) (bX (b)))))
theorem aAx{p q M:Nat}(h:1024*p< M)(H:q< 2 ^ 23):p*2 ^ 34<=M*2 ^ 24 - q:=nA [_,_,_,_,_,_] [lL (Ax.m 1024 Y2) Y3,lL Y4 8388608,eQ Y0 (Ax.m 17179869184 Y2),eQ (Y1+Y4) Y5,eQ Y5 (Ax.m 16777216 Y3)] (lE Y0 Y1) [16777216,1,1,-1,-1] 1 rfl h H (dU (p) _) (bX (lq [lL (Ax.m 1024 Y2) Y3,lL Y0 8388608,eQ Y1 (Ax.m 16777216 Y3)] (lE Y0 Y1) [16777216,1,-1] 1 rfl h H (dU (M) _))) (dU (M) _)
theorem Oc{x:UInt64}{p q:Nat}(hx:Is x (N 21 p))(hy:Is y (N 21 q))(hp:0< p)(zK:p<=q)(hq:q< 2 ^ 23):∃z:Int,Is (gX x y) z/\0< z/\Is (iI (gX x y) (ofInt 1024)) (z*1024)/\z*1024 / 2 ^ 1074=((1024*p / q:Nat):Int):=by
 refine hO λcg aY=>c7 hx.dec λm e1 dx e=>c7 hy.dec λk f dy hk=>aY ?_;have CO:=aE hp zK;have GC:k≠0:=λh=>by have:=@vv 21 _ ((cb.mpr CO));rw[h,BJ]at hk;exact aS2 0 (iA [((N 21 ↑q).natAbs:Nat),_] [eQ 0 Y0,lL 0 Y1,eQ Y0 Y1] (lL 0 0) [-1,1,-1] 0 rfl (congrArg mf hk) this (FH (bf [lL 0 Y0] (lE 0 Y0) rfl this)))
 have R:=div_right dx dy GC;rw[hx.val,hy.val,pK (oe (by exact iB [(p:Nat)] [lL 0 Y0] (lE 0 Y0) rfl (cb.mpr hp))),pK (oe (by exact iB [(q:Nat)] [lL 0 Y0] (lE 0 Y0) rfl (cb.mpr CO)))]at R;have e1:(N 21 (p:Int)).natAbs=p*2 ^ 1053:=by rfl
 have e2:(N 21 (q:Int)).natAbs=q*2 ^ 1053:=by rfl
 rw[e1,e2]at R;refine Gv R λt hr ht zr hn=>?_;have Z:0< 2 ^ 1053:=r7 _;generalize hZ:2 ^ 1053=Y at*;have hD:=BV CO Z;have H:2*(p*Y*2 ^ 1074)< q*Y*((2 ^ 54 - 1)*2 ^ 2045):=by have Z:q*Y*(2*2 ^ 1074)< q*Y*((2 ^ 54 - 1)*2 ^ 2045):=WM (by decide+kernel) hD;rw[Nat.mul_left_comm]at Z;exact iH (dT 2 (jF _ (jF _ zK))) Z
 have bp:t< infMag:=by
  rcases aR5 ht with h|h
  ·exact h
  ·exact absurd H (dw.mpr (zr.mp h))
 have H:=λu=>(hn bp u).1;have W:p*Y*2 ^ 1074=Y*(p*2 ^ 1074):=by rw[dU p Y,i9]
 have Dv:∀v,q*Y*v=Y*_:=λv=>by rw[dU q Y,i9]
 have ge:∀n j:Nat,n< 2 ^ 53->52<=j->j<=1200->q*_<=p*2 ^ 1074->n*2 ^ j<=V t:=λn j h1 h2 h3 h4=>by refine aO (Oa h1 h2 h3) λu e Z=>?_;have:=aAv (H u) (by simp only[Z,Dv,W];exact dT _ h4);rw[Z]at this;exact Nat.le_of_mul_le_mul_left this hD
 have le:∀n j:Nat,n< 2 ^ 53->52<=j->j<=1200->p*2 ^ 1074<=q*_->V t<=n*2 ^ j:=λn j h1 h2 h3 h4=>by
  refine aO (Oa h1 h2 h3) λu e Z=>?_;have h:=H u;rw[Z]at h;rcases W8 _ (V t)with h6|h6
  ·have a:=WM h6 hD;have b:p*Y*2 ^ 1074<=q*Y*_:=rR (Dv ..) (rR W (dT _ h4));exact(aAw h a b).elim
  ·exact h6
 generalize H:1024*p / q=n;have n2:1024*p< q*(n+1):=by have:=Nat.lt_mul_div_succ (1024*p) CO;rw[H]at this;exact this
 have Z:n<=1024:=by exact rL H (W9 (rR (dU ..) (jF _ zK)))
 have pT:(2:Nat) ^ 1074=1024*2 ^ 1064:=by decide+kernel
 have lo:=ge n 1064 (iH Z (by decide)) (by decide) (by decide) (by rw[pT,<-i9,<-i9,dU p];exact jF _ (H▸aS3 ..));have H:(2:Nat) ^ 1074=2 ^ 23*2 ^ 1051:=by decide+kernel
 have CP:=ge 1 1051 (by decide) (by decide) (by decide) (by
  simp only[H,<-i9,<-i9];exact jF _ (rR (aS4 ..) (aE (cR hq) (Nat.le_mul_of_pos_left _ hp))));have hi:=le ((n+1)*2 ^ 24 - 1) 1040 (iH (nK ..) (iH (jF _ (sj Z)) (by decide))) (by decide) (by decide) (by
  rw[show _ ^ 1074=2 ^ 34*2 ^ 1040 from by decide+kernel,<-i9,<-i9];refine jF _ ?_;simp only[Nat.mul_sub,aS4,((i9 ..).symm)];exact aAx n2 hq);refine hO λH H=>Gw (V_form t) λkk J e Od e CQ=>H ?_;have zL:998<=kk:=by
  refine aS5 λh=>?_;have c:J*2 ^ kk<=J*2 ^ 998:=dT _ (FU (by decide) (cR h));have d:J*2 ^ 998< 2 ^ 53*2 ^ 998:=yT Od (r7 _);rw[<-CQ]at c;exact absurd (iH c d) (dw.mpr CP)
 have H:0< J:=by refine Mm λh0=>?_;rw[CQ,h0,BJ]at CP;exact absurd CP (by decide+kernel)
 have zM:kk<=1100:=by
  refine aS5 λh=>?_;have b:2 ^ 1100<=2 ^ kk:=FU (by decide) (cR h);have c:1*2 ^ kk<=J*2 ^ kk:=jF _ H;simp only[<-CQ,FM]at c;have d:2 ^ 50*2 ^ 1040<=2 ^ 1100:=by decide+kernel
  exact absurd (qr (iH (aE c hi) (yT (iH (nK ..) (iH (jF _ (sj Z)) (by decide))) (r7 _))) d) (dw.mpr b)
 have CR:Is (gX x y) (V t:Int):=⟨t,bp,by rw[hr,pK (bG _)];rfl,rfl⟩
 have o:Is (ofInt 1024) (N 0 1024):=mu (by decide+kernel);refine⟨V t,CR,?_,?_,?_⟩;·exact Int.natCast_pos.mpr (qr (BV WO (r7 _)) CP)
 ·refine CR.mul o (bG _) (oe (by decide)) (lZ (bG _) (by decide)) ?_ ?_
  ·refine rR CQ ?_;have:=@GB (J:Int) _ Od (aE (aE (by decide:52<=998) zL) (fF ..)) (aE (yY zM 10) (by decide));rw[wQ,<-pi]at this;push_cast;exact this
  ·unfold N;rw[<-pi]
 ·have H:(V t:Int)*1024=((V t*1024:Nat):Int):=by push_cast;rfl
  refine rR (H ..) (rR (((Int.natCast_pow 2 1074).symm) ..) (rL (Int.natCast_ediv ..) ?_));congr 1;have J:n*2 ^ 1074<=V t*1024:=by have:=jF 1024 lo;rwa [i9,dU (2 ^ 1064),<-pT]at this
  have H:V t*1024<(n+1)*2 ^ 1074:=by
   have b:((n+1)*2 ^ 24 - 1)*2 ^ 1040*1024< _*2 ^ 24*2 ^ 1040*1024:=yT (yT (Nat.sub_lt (BV (BW n) (r7 _)) (by decide)) (r7 _)) (by decide);have d:(n+1)*2 ^ 24*2 ^ 1040*1024=(n+1)*2 ^ 1074:=by rw[i9,i9]
   simp only[d]at b;exact iH (jF 1024 hi) b
  exact Nat.div_eq_of_lt_le J H
end
section
open PySem PySem.Float64
set_option exponentiation.threshold 3000
set_option maxHeartbeats 1000000
theorem aAy:Is xl (N 22 2097152):=mu (by decide+kernel)
theorem Hh:Is jm (N 21 4194304):=mu (by decide+kernel)
theorem aAz{x:UInt64}(H:Is x a)(J:Is y b):(kW x y==some .lt||kW x y==some .eq)=decide (a<=b):=by
 refine rR (H.cmp J) ?_;rcases Mh a b with h|h|h
 ·rw[show compare a b= .lt from Mi.mpr h];simp;exact bR [lL Y0 Y1] (lE Y0 Y1) rfl h
 ·rw[show compare a b= .eq from Mj.mpr h];simp;exact bR [eQ Y0 Y1] (lE Y0 Y1) rfl h
 ·rw[show compare a b= .gt from FQ.mpr h];simp;exact bR [lL Y0 Y1] (lL Y0 Y1) rfl h
noncomputable def Bo(B F:Nat):Nat:=16384*B - 32*(B*F)
theorem aA0{P:Nat}{r g b:UInt64}(hP:P< 64)(hF:0< F)(cc:F<=256)(hB:0< B)(Y:B<=256)(C:d8 P F B r g b):∃(V:HV)(lo:Bool),V.r=r/\V.g=g/\V.b=b/\vq (q3 P) V/\uK V.mx V.mn=V.sm/\gX V.sm jm=V.l/\(kW V.l xl==some .lt||kW V.l xl==some .eq)=lo/\(lo=true->kX V.sm=false/\gX V.rg V.sm=V.s)/\(lo=false->gV jm V.mx=V.n1/\gV V.n1 V.mn=V.n2/\kX V.n2=false/\gX V.rg V.n2=V.s)/\Is V.h (N 6 P)/\Is V.l (N 22 (Bo B F))/\∃z:Int,Is V.s z/\0< z/\Is (iI V.s (ofInt 1024)) (z*1024)/\z*1024 / 2 ^ 1074=((1024*(32*(B*F))/ min (Bo B F) (4194304 - Bo B F):Nat):Int):=by
 have A0:=BV hB hF;have A1:B*F<=B*256:=dT _ cc;have A2:B*F<=256*F:=jF _ Y;have J:Bo B F=16384*B - 32*_:=rfl;have Z:=λs=>N8 s hP ((cb.mpr hF):(0:Int)< F) ((bK.mpr cc)) ((cb.mpr hB):(0:Int)< B) ((bK.mpr Y)) C;refine hO λcg aY=>qI (Z 0) λv mx mn rg v=>aY ?_;have AA:(B:Int)*(F:Int)=((B*F:Nat):Int):=by push_cast;rfl
 rw[AA]at mn rg;generalize B*F=A at*;have sm:Is (add (fL r g b) (iM r g b)) (N 21 (Bo B F:Nat)):=by have:=zH mx mn (mZ (iA [(B:Nat),(A:Nat),(F:Nat)] [lE Y2 256,lL 0 Y0,lE Y1 (Ax.m 256 Y2)] (lE (0-9007199254740991) ((Ax.m 8192 Y0)+((Ax.m 8192 Y0)-(Ax.m 32 Y1)))) [8192,16384,32] 1 rfl (bK.mpr cc) (cb.mpr hB) (bK.mpr A2)) (iA [(B:Nat),(A:Nat)] [lE Y0 256,lL 0 Y1] (lE ((Ax.m 8192 Y0)+((Ax.m 8192 Y0)-(Ax.m 32 Y1))) 9007199254740991) [16384,32] 1 rfl (bK.mpr Y) (cb.mpr A0))) (by decide);rwa [show 8192*(B:Int)+(8192*(B:Int) - 32*(A:Int))=_ from bw (iA [(B:Nat),(A:Nat),(Bo B F:Nat),(16384*B - 32*A:Nat)] [eQ Y2 Y3,eQ Y3 ((Ax.m 16384 Y0)-(Ax.m 32 Y1))] (lE ((Ax.m 8192 Y0)+((Ax.m 8192 Y0)-(Ax.m 32 Y1))) Y2) [-1,-1] 1 rfl (congrArg mf J) (ph (cz [lE Y0 Y2,eQ Y2 (Ax.m 256 Y1)] (lE (Ax.m 32 Y0) (Ax.m 16384 Y1)) [32,64] 1 rfl A1 (dU (B) _)))) (iB [(Bo B F:Nat),(B:Nat),(A:Nat),(16384*B - 32*A:Nat)] [eQ Y0 Y3,eQ Y3 ((Ax.m 16384 Y1)-(Ax.m 32 Y2))] (lE Y0 ((Ax.m 8192 Y1)+((Ax.m 8192 Y1)-(Ax.m 32 Y2)))) rfl (congrArg mf J) (ph (cz [lE Y0 Y2,eQ Y2 (Ax.m 256 Y1)] (lE (Ax.m 32 Y0) (Ax.m 16384 Y1)) [32,64] 1 rfl A1 (dU (B) _))))]at this
 have l:Is _ (N 22 _):=zI sm Hh ((bG _)) (by decide) ((bG _)) (mZ (iB [(Bo B F:Nat)] [lE 0 Y0] (lE (0-9007199254740991) Y0) rfl (bG _)) (iA [(Bo B F:Nat),(B:Nat),(A:Nat),(16384*B - 32*A:Nat)] [lE Y1 256,lL 0 Y2,eQ Y0 Y3,eQ Y3 ((Ax.m 16384 Y1)-(Ax.m 32 Y2))] (lE Y0 9007199254740991) [16384,32,1,1] 1 rfl (bK.mpr Y) (cb.mpr A0) (congrArg mf J) (ph (cz [lE Y0 Y2,eQ Y2 (Ax.m 256 Y1)] (lE (Ax.m 32 Y0) (Ax.m 16384 Y1)) [32,64] 1 rfl A1 (dU (B) _))))) (by decide) (bw (iB [_,(Bo B F:Nat)] [eQ Y0 (Ax.m 4194304 Y1)] (lE Y0 (Ax.m 4194304 Y1)) rfl (fj _ _)) (iA [(Bo B F:Nat),_] [eQ Y1 (Ax.m 4194304 Y0)] (lE (Ax.m 4194304 Y0) Y1) [-1] 1 rfl (fj _ _)));have hle:=aAz l aAy;have Oe:Is (sub (fL r g b) (iM r g b)) (N 21 ((32*A:Nat):Int)):=by exact rg
 by_cases pU:Bo B F<=2097152
 ·obtain⟨z,z1,z2,z3,z4⟩:=Oc Oe sm (qM [lL 0 Y0] (lL 0 (.m 32 Y0)) [32] 1 rfl A0) (nA [_,_,_,_,_] [lE Y0 Y2,eQ Y1 Y3,eQ Y2 (Ax.m 256 Y4),eQ (Y3+(Ax.m 32 Y0)) (Ax.m 16384 Y4)] (lE (Ax.m 32 Y0) Y1) [64,-1,64,-1] 1 rfl A1 J (dU (B) _) (bX (cz [lE Y0 Y2,eQ Y2 (Ax.m 256 Y1)] (lE (Ax.m 32 Y0) (Ax.m 16384 Y1)) [32,64] 1 rfl A1 (dU (B) _)))) (bu [lE Y0 2097152] (lL Y0 8388608) rfl pU);refine hO λkA dZ=>?_;obtain⟨H,v,v,v,h⟩:=Z _;refine dZ ⟨_,true,rfl,rfl,rfl,H,rfl,rfl,?_,λj=>⟨?_,rfl⟩,nofun,h,l,z,z1,z2,z3,?_⟩
  ·refine hle.trans ?_;rw[decide_eq_true_eq,CK];exact(bK.mpr pU)
  ·exact sm.isZero (by have:=@vv 21 _ (iA [(Bo B F:Nat),(B:Nat),(A:Nat),(B*256:Nat),(16384*B - 32*A:Nat)] [lL 0 Y1,lE Y2 Y3,eQ Y0 Y4,eQ Y3 (Ax.m 256 Y1),eQ Y4 ((Ax.m 16384 Y1)-(Ax.m 32 Y2))] (lL 0 Y0) [8192,32,-1,32,-1] 1 rfl (cb.mpr hB) (bK.mpr A1) (congrArg mf J) (congrArg mf (dU (B) _)) (ph (cz [lE Y0 Y2,eQ Y2 (Ax.m 256 Y1)] (lE (Ax.m 32 Y0) (Ax.m 16384 Y1)) [32,64] 1 rfl A1 (dU (B) _))));exact nL (bf [lL 0 Y0] (lL 0 Y0) rfl this))
  ·exact rR (show min _ _=Bo B F from c8 (aT [eQ Y0 Y1] (lE Y0 Y1) rfl (r5 (fz [lE Y0 2097152,eQ (Y1+Y0) 4194304] (lE Y0 Y1) [2,-1] 1 rfl pU (bX (bu [lE Y0 2097152] (lE Y0 4194304) rfl pU))))) (fz [eQ Y1 Y0] (lE Y0 Y1) [-1] 1 rfl (r5 (fz [lE Y0 2097152,eQ (Y1+Y0) 4194304] (lE Y0 Y1) [2,-1] 1 rfl pU (bX (bu [lE Y0 2097152] (lE Y0 4194304) rfl pU)))))) z4
 ·have n1:=m4 Hh mx (ii (iA [(B:Nat)] [lE Y0 256] (lE 0 (4194304-(Ax.m 8192 Y0))) [8192] 1 rfl (bK.mpr Y)) (iA [(B:Nat)] [lL 0 Y0] (lE (4194304-(Ax.m 8192 Y0)) 100000000) [8192] 1 rfl (cb.mpr hB))) (by decide);have n2:Is (sub (sub jm (fL r g b)) (iM r g b)) (N 21 ((4194304 - Bo B F:Nat):Int)):=by have:=m4 n1 mn (mZ (iA [(B:Nat),(A:Nat)] [lE Y0 256,lL 0 Y1] (lE (0-9007199254740991) (4194304-(Ax.m 8192 Y0)-((Ax.m 8192 Y0)-(Ax.m 32 Y1)))) [16384,32] 1 rfl (bK.mpr Y) (cb.mpr A0)) (iA [(B:Nat),(A:Nat),(F:Nat)] [lE Y2 256,lL 0 Y0,lE Y1 (Ax.m 256 Y2)] (lE (4194304-(Ax.m 8192 Y0)-((Ax.m 8192 Y0)-(Ax.m 32 Y1))) 9007199254740991) [8192,16384,32] 1 rfl (bK.mpr cc) (cb.mpr hB) (bK.mpr A2))) (by decide);rwa [show(4194304 - 8192*(B:Int) - (8192*(B:Int) - 32*(A:Int)))=_ from bw (iA [(B:Nat),(A:Nat),(4194304 - Bo B F:Nat),(Bo B F:Nat),(16384*B - 32*A:Nat)] [eQ Y3 Y4,eQ Y2 (4194304-Y3),eQ Y4 ((Ax.m 16384 Y0)-(Ax.m 32 Y1))] (lE (4194304-(Ax.m 8192 Y0)-((Ax.m 8192 Y0)-(Ax.m 32 Y1))) Y2) [1,-1,1] 1 rfl (congrArg mf J) (ph (cz [lE Y1 256,eQ Y0 Y2,lE Y2 (Ax.m 16384 Y1)] (lE Y0 4194304) [16384,1,1] 1 rfl Y J (nK _ _))) (ph (cz [lE Y0 Y2,eQ Y2 (Ax.m 256 Y1)] (lE (Ax.m 32 Y0) (Ax.m 16384 Y1)) [32,64] 1 rfl A1 (dU (B) _)))) (iA [(4194304 - Bo B F:Nat),(B:Nat),(A:Nat),(Bo B F:Nat),(16384*B - 32*A:Nat)] [eQ Y3 Y4,eQ Y0 (4194304-Y3),eQ Y4 ((Ax.m 16384 Y1)-(Ax.m 32 Y2))] (lE Y0 (4194304-(Ax.m 8192 Y1)-((Ax.m 8192 Y1)-(Ax.m 32 Y2)))) [-1,1,-1] 1 rfl (congrArg mf J) (ph (cz [lE Y1 256,eQ Y0 Y2,lE Y2 (Ax.m 16384 Y1)] (lE Y0 4194304) [16384,1,1] 1 rfl Y J (nK _ _))) (ph (cz [lE Y0 Y2,eQ Y2 (Ax.m 256 Y1)] (lE (Ax.m 32 Y0) (Ax.m 16384 Y1)) [32,64] 1 rfl A1 (dU (B) _))))]at this
  obtain⟨z,z1,z2,z3,z4⟩:=Oc Oe n2 (qM [lL 0 Y0] (lL 0 (.m 32 Y0)) [32] 1 rfl A0) (nA [_,_,_,_,_] [lE Y2 256,eQ Y3 Y4,eQ (Y1+Y3) 4194304,eQ (Y4+(Ax.m 32 Y0)) (Ax.m 16384 Y2)] (lE (Ax.m 32 Y0) Y1) [16384,1,-1,1] 1 rfl Y J (bX (cz [lE Y1 256,eQ Y0 Y2,lE Y2 (Ax.m 16384 Y1)] (lE Y0 4194304) [16384,1,1] 1 rfl Y J (nK _ _))) (bX (cz [lE Y0 Y2,eQ Y2 (Ax.m 256 Y1)] (lE (Ax.m 32 Y0) (Ax.m 16384 Y1)) [32,64] 1 rfl A1 (dU (B) _)))) (aT [lL 2097152 Y1,eQ (Y0+Y1) 4194304] (lL Y0 8388608) rfl (FV.mp pU) (bX (cz [lE Y1 256,eQ Y0 Y2,lE Y2 (Ax.m 16384 Y1)] (lE Y0 4194304) [16384,1,1] 1 rfl Y J (nK _ _))));obtain⟨H,v,v,v,h⟩:=Z _;refine⟨_,false,rfl,rfl,rfl,H,rfl,rfl,?_,nofun,λj=>⟨rfl,rfl,?_,rfl⟩,h,l,z,z1,z2,z3,?_⟩
  ·refine hle.trans ?_;rw[decide_eq_false_iff_not,CK];omega
  ·exact n2.isZero (by have:=@vv 21 _ (iA [(4194304 - Bo B F:Nat),(B:Nat),(A:Nat),(Bo B F:Nat),(16384*B - 32*A:Nat)] [lE Y1 256,lL 0 Y2,eQ Y3 Y4,eQ Y0 (4194304-Y3),eQ Y4 ((Ax.m 16384 Y1)-(Ax.m 32 Y2))] (lL 0 Y0) [16384,32,1,-1,1] 1 rfl (bK.mpr Y) (cb.mpr A0) (congrArg mf J) (ph (cz [lE Y1 256,eQ Y0 Y2,lE Y2 (Ax.m 16384 Y1)] (lE Y0 4194304) [16384,1,1] 1 rfl Y J (nK _ _))) (ph (cz [lE Y0 Y2,eQ Y2 (Ax.m 256 Y1)] (lE (Ax.m 32 Y0) (Ax.m 16384 Y1)) [32,64] 1 rfl A1 (dU (B) _))));exact nL (bf [lL 0 Y0] (lL 0 Y0) rfl this))
  ·exact rR (show min _ _=4194304 - Bo B F from(WF _ _).elim (λH=>c8 (b7 [lE Y2 Y1,eQ Y0 Y2] (lE Y0 Y1) rfl H (r5 (H))) (cz [lL 2097152 Y2,lE Y2 Y0,eQ (Y0+Y2) 4194304] (lE Y0 Y1) [2,1,1] 0 rfl (FV.mp pU) H (bX (cz [lE Y1 256,eQ Y0 Y2,lE Y2 (Ax.m 16384 Y1)] (lE Y0 4194304) [16384,1,1] 1 rfl Y J (nK _ _))))) (λH=>c8 (aT [eQ Y0 Y1] (lE Y0 Y1) rfl (FC (H))) (fz [eQ Y1 Y0] (lE Y0 Y1) [-1] 1 rfl (FC (H))))) z4
end
def fdOf(o:aq):Option FuncData:=nc (match o.data with
 | .func fd=>some fd|_=>none)
def bodyOf(o:aq):List Stmt:=match fdOf o with
 |some fd=>(match fd.body with
  | .stmts b=>b|_=>[])
 |none=>[]
def mB(o:aq)(F L:af):Env:=match fdOf o with
 |some fd=>{ scope:=fd.scope,locals:=L,globals:=fd.globals,cells:=[],qual:=fd.qualname++".<locals>.",func:=some F,code:=fd.code,frame:=some L,builtins:=fd.builtins }|none=>default
def Of(b:List ck)(i:Nat)(it:ag)(env:k7):Code:= .forLoop (pE b[i]? 0) it (pB b[i]? 0) (pB b[i]? 1) env
def Hi(b:List ck)(i:Nat):List Stmt:=pB b[i]? 0
def aA1(b:List ck)(i:Nat):List Stmt:=pB b[i]? 1
def aA2(L I:af):Code:=Of (Hi (Hi (bodyOf zm.1) 3) 1) 0 (.ref I) (mB zm.1 217 L)
def aA3(L I:af):Code:=Of (aA1 (Hi (bodyOf zm.1) 3) 1) 2 (.ref I) (mB zm.1 217 L)
structure ly where
 I:af
 bm:af
 L:af
 u:ab
 k1:ab
 k2:ab
 k3:ab
 k4:ab
abbrev gtF(w:aj)(Y:ly)(lx:af)(H:List Nat)(ta:ab)(z:Nat×ab):Obj:=nc (⟨.type "frame",none, .dict (cE [⟨aS w.params "self", .str "self" Y.k1, .ref lx⟩,⟨aS w.params "token", .str "token" Y.k2, .str ⟨H.toArray⟩ ta⟩,⟨aS w.params "fiter", .str "fiter" Y.k3, .ref Y.I⟩,⟨aS w.params "ch", .str "ch" Y.k4, .str ⟨#[z.1]⟩ z.2⟩]) 4,#[]⟩)
abbrev ly.led(Y:ly)(X:LX)(w:aj)(l:List (Nat×ab))(H:List Nat)(ta:ab)(z:Nat×ab):List (af×aq):=(Y.I,⟨.type "callable_iterator",none, .fields #[.ref Y.bm, .str "" Y.u, .bool false],#[]⟩)::(Y.bm,⟨.type "method",none, .fields #[.ref 210, .ref X.lx],#[]⟩)::(Y.L,gtF w Y X.lx H ta z)::X.led w l
def CS(q:Bool)(Y:ly):Code:=bif q then aA2 Y.L Y.I else aA3 Y.L Y.I
def xq(Y:ly)(X:LX)(w:aj)(rest:List (Nat×ab))(W:List Nat)(z:Nat×ab)(N:Int):(Nat->Nat)->Out:=λx=>⟨.ok (.ret (.str ⟨W.toArray⟩ (x 2))),Y.led { X with n:=N,tn:=x 3,e1:=x 4 } w rest W (x 2) z,[],x 0,x 1⟩
abbrev m6(i:Nat)(X:LX)(w:aj)(c:Nat×ab)(l:List (Nat×ab))(b:Bool)(next:aM):aF:= .cons (some 3) (xk X) [i,i+1,i+2,i+3,i+4,i+5,i+6,i+7] (X.led w (c::l)) (GT X w c.1 c.2 l b) next
abbrev CT(q:Bool)(Y:ly)(X:LX)(w:aj)(l rest:List (Nat×ab))(H:List Nat)(ta:ab)(c:Nat×ab)(W:List Nat)(z:Nat×ab)(N:Int):aF:= .cons (some 6) (CS q Y) [0,1,2,3,4,5,6,7,8,9,10] (Y.led X w l H ta c) (xq Y X w rest W z N) λ_=> .nil
def aA4(q:Bool)(Y:ly)(X:LX)(w:aj)(c:Nat×ab)(l:List (Nat×ab))(b:Bool):aF:=m6 3 X w c l b λx=>cB "" ⟨#[c.1]⟩ Y.u c.2 false λy=>bif q then cB ⟨#[c.1]⟩ "\"" c.2 (y 1+1) true λ_=> .nil else mr "\n\t\r " ⟨#[c.1]⟩ X.k5 c.2 true λ_=> .nil
def aA5(q:Bool)(Y:ly)(X:LX)(w:aj)(c:Nat×ab)(l rest:List (Nat×ab))(H:List Nat)(ta:ab)(b:Bool)(W:List Nat)(z:Nat×ab)(N:Int):aF:=m6 3 X w c l b λx=>cB "" ⟨#[c.1]⟩ Y.u c.2 false λy=>(bif q then cB ⟨#[c.1]⟩ "\"" c.2 (y 1+1) false else mr "\n\t\r " ⟨#[c.1]⟩ X.k5 c.2 false) λy=>cB ⟨#[c.1]⟩ "\\" c.2 (y 1) false λy=>cP ⟨H.toArray⟩ ⟨#[c.1]⟩ ⟨(H++[c.1]).toArray⟩ ta c.2 λy=>CT q Y (X.jk b (x 2)) w l rest (H++[c.1]) (y 2) c W z N
def aA6(q:Bool)(Y:ly)(X:LX)(w:aj)(c d:Nat×ab)(l rest:List (Nat×ab))(H:List Nat)(ta:ab)(b J:Bool)(W:List Nat)(z:Nat×ab)(N:Int):aF:=m6 3 X w c (d::l) b λx=>cB "" ⟨#[c.1]⟩ Y.u c.2 false λy=>(bif q then cB ⟨#[c.1]⟩ "\"" c.2 (y 1+1) false else mr "\n\t\r " ⟨#[c.1]⟩ X.k5 c.2 false) λy=>cB ⟨#[c.1]⟩ "\\" c.2 (y 1) true λy=>m6 3 (X.jk b (x 2)) w d l J λZ=>cP ⟨H.toArray⟩ ⟨#[d.1]⟩ ⟨(H++[d.1]).toArray⟩ ta d.2 λy=>CT q Y ((X.jk b (x 2)).jk J (Z 2)) w l rest (H++[d.1]) (y 2) d W z N
def Hj(q:Bool):List Nat:=(dN 19 0xc6317c21108001042008020)++bif q then [777,2,3]else(dN 16 0x188a0210000100000083)
def aA7:List Nat:=(dN 28 0x10c6218c63100a400000200002000020c5f)
def Hl(q:Bool)(w:aj)(Y:ly)(pre:List (af×aq))(H:List Nat)(J:aF)(sz tk:Nat)(Z:Xs):=(aI w 6 0 none 500).C [] Z ⟨pre,sz,tk,H,J⟩ (CS q Y) fin
noncomputable def aA8(X:LX)(b:Bool)(ta:ab)(H:Xs):Nat->Nat
 |0=>H 2 0|1=>H 2 1|2=>ta|3=>bif b then H 0 2 else X.tn|_=>X.e1+1
abbrev xt:List Nat:=nc ([0,1,2,3,4,5,6,7,8,9,10])
abbrev nx(b:Bool)(n:Int):Int:=nc (bif b then n+1 else n)
section
variable (w:aj)(X:LX)(Y:ly)(c d ch z:Nat×ab)(l rest:List (Nat×ab))(acc W:List Nat)(ta:ab)(N:Int)(sz tk:Nat)(σ:Xs)
theorem aA9(q b:Bool):Ends xt (Hl q w Y (Y.led X w (c::l) acc ta ch) (Hj q) (aA4 q Y X w c l b) sz tk σ) (bW (xq Y X w l acc c (nx b X.n) (aA8 X b ta σ))):=by
 induction q;·cases b<;>kernel_rfl
 ·cases b<;>kernel_rfl
theorem aBa(q b:Bool):Ends xt (Hl q w Y (Y.led X w (c::l) acc ta ch) (Hj q++[777,2,3,3,2,3,3,2]) (aA5 q Y X w c l rest acc ta b W z N) sz tk σ) (bW (xq Y X w rest W z N λi=>σ 5 i)):=by
 induction q;·kernel_rfl
 ·kernel_rfl
theorem aBb(q b H:Bool):Ends xt (Hl q w Y (Y.led X w (c::d::l) acc ta ch) (Hj q++aA7) (aA6 q Y X w c d l rest acc ta b H W z N) sz tk σ) (bW (xq Y X w rest W z N λi=>σ 6 i)):=by
 induction q;·kernel_rfl
 ·kernel_rfl
end
section
variable {h:aw}{m:Str->Option ag}{sX:List (af×aq)}{p:List ag}{y:ag}
theorem aBc(h:k<=1000):k+1<=sizeLine:=aE (sj h) (dh rfl)
end
noncomputable abbrev Sg:=Nat×ab
noncomputable def aL:List Sg->Int
 |[]=>0|p::l=>(if p.1=10 then 1 else 0)+aL l
noncomputable def isWs(c:Nat):Bool:=c==10||c==9||c==13||c==32
abbrev zN:Str:=nc ("\n\t\r ")
theorem fold_same(z:α×β)(l:List γ):List.foldl (λ(b:α×β)_=>(b.1,b.2)) z l=z:=by
 induction l with
 |nil=>rfl|cons a l ih=>exact ih
theorem occ_none{x y:Str}(J:∀i,Xa x y i=false)(Y H:Nat):ka x y 0 Y H=[]:=by unfold ka;simp[J,Id.run];exact congrArg (λz:Array Nat×Nat=>z.1.toList) (fold_same _ _)
theorem aBd(s:Str)(i c:Nat):Xa s ⟨#[c]⟩ i=(s.cps[i]?==some c):=by
 show(s.cps.extract i (i+1)==#[c])=_;by_cases h:i< s.cps.size
 ·refine rR (yZ h) ?_;have:s.cps.extract i (i+1)=#[s.cps[i]]:=by
   apply Array.ext;·simp[r5 (Nat.succ_le_of_lt h)]
   ·intro j J H;simp at H;subst H;simp
  refine rR this ?_;simp
 ·have:s.cps.extract i (i+1)=#[]:=by
   apply Array.ext;·simp;exact c8 (bu [eQ Y0 0] (lE Y0 0) rfl (BU (b7 [lE Y2 Y1,eQ Y0 Y2] (lE Y0 Y1) rfl (dw.mp h) (FC (Xb (dw.mp h)))))) (dF ..)
   ·intro j J H;simp at H
  refine rR this (rR (Xc (aT [lE Y0 Y1] (lE Y0 Y1) rfl (dw.mp h))) ?_);rfl
theorem Og(c:Nat):(ka zN ⟨#[c]⟩ 0 zN.length 1).isEmpty=!isWs c:=by
 by_cases Y:c=10;·subst Y;decide+kernel
 by_cases H:c=9;·subst H;decide+kernel
 by_cases Z:c=13;·subst Z;decide+kernel
 by_cases J:c=32;·subst J;decide+kernel
 have hw:isWs c=false:=by simp[isWs,Y,H,Z,J]
 refine rR hw ?_;have no:∀i,Xa zN ⟨#[c]⟩ i=false:=by
  intro i;rw[aBd];match i with
  |0=>show((some 10:Option Nat)==some c)=false;simpa using λh=>Y h.symm|1=>show((some 9:Option Nat)==some c)=false;simpa using λh=>H h.symm|2=>show((some 13:Option Nat)==some c)=false;simpa using λh=>Z h.symm|3=>show((some 32:Option Nat)==some c)=false;simpa using λh=>J h.symm|n+4=>rfl
 rw[occ_none no];rfl
def Hm(q:Bool)(c:Nat):Bool:=bif q then c==34 else isWs c
inductive og(q:Bool)(rest:List (Nat×ab))(z:Nat×ab):List (Nat×ab)->List Nat->Prop
 |stop:Hm q z.1=true->og q rest z (z::rest) []
 |xu (b d:Nat×ab) {l w:_}:b.1=92->og q rest z l w->og q rest z (b::d::l) (d.1::w)
 |one (c:Nat×ab) {l w:_}:Hm q c.1=false->c.1≠92->og q rest z l w->og q rest z (c::l) (c.1::w)
theorem pV(c:Nat×ab)(l:List (Nat×ab))(n:Int):nx (c.1==10) n=n+(aL (c::l) - aL l):=by
 show _=n+((if c.1=10 then 1 else 0)+aL l - aL l)
 by_cases h:c.1=10;·rw[if_pos h,h];exact bw (bR [] (lE (Y0+1) (Y0+(1+Y1-Y1))) rfl) (bR [] (lE (Y0+(1+Y1-Y1)) (Y0+1)) rfl)
 ·rw[if_neg h,beq_eq_false_iff_ne.mpr h];exact bw (bR [] (lE Y0 (Y0+(0+Y1-Y1))) rfl) (bR [] (lE (Y0+(0+Y1-Y1)) Y0) rfl)
theorem Oh(H:List Nat)(c:Nat):(⟨H.toArray⟩:Str)++⟨#[c]⟩=⟨(H++[c]).toArray⟩:=by show(⟨H.toArray++#[c]⟩:Str)=_;exact rR (FW ..) rfl
theorem CU(c d:Nat)(x:Str)(h:x=⟨#[d]⟩):((⟨#[c]⟩:Str).cps.toList==x.cps.toList)=(c==d):=by subst h;exact aSv _
theorem Oi{H:List Nat}{c:Nat}(h:H.length<=1000):(⟨H.toArray⟩:Str).length+(⟨#[c]⟩:Str).length<=sizeLine:=by show H.toArray.size+1<=gz;exact aBc h
section
variable {Y:ly}{c:Nat×ab}{l:List (Nat×ab)}{b:Bool}{next:aM}{i:Nat}
theorem pW(Z:aK w aa)(J:aa.NoLimit)(hb:(c.1==10)=b)(hz:l.length<=1000)(h:∀x H,(next x).Ok ao (av w) A U fr aa H):(m6 i X w c l b next).Ok ao (av w) A U fr aa lv:=⟨rfl,by simp,ZY Z J X c.1 c.2 l b hb hz,λx z z=>h x _⟩
theorem Hn(XK:aK w aa)(NL:aa.NoLimit){q:Bool}{z:Nat×ab}{l:List (Nat×ab)}{v:List Nat}(rel:og q rest z l v):∀(X:LX)(H W:List Nat)(ta:ab)(ch:Nat×ab)(N:Int),l.length<=1000->W=H++v->W.length<=1000->N=X.n+(aL l - aL rest)->Any ao w aa 6 (CS q Y) (Y.led X w l H ta ch) (xq Y X w rest W z N):=by
 have Qs:∀c:Nat×ab,((("":Str)).cps.toList==(⟨#[c.1]⟩:Str).cps.toList)=false:=λc=>rfl;have Qq:∀(c:Nat×ab)(b:Bool),_=b->((⟨#[c.1]⟩:Str).cps.toList==(("\"":Str)).cps.toList)=b:=λc b h=>rR (CU _ 34 _ (by decide+kernel)) h;have Qb:∀(c:Nat×ab)(b:Bool),_=b->((⟨#[c.1]⟩:Str).cps.toList==(("\\":Str)).cps.toList)=b:=λc b h=>rR (CU _ 92 _ (by decide+kernel)) h;have Qw:∀(c:Nat×ab)(b:Bool),isWs c.1=b->(!(ka "\n\t\r " ⟨#[c.1]⟩ 0 (("\n\t\r ":Str)).length 1).isEmpty)=b:=λc b h=>rR (show _=zN from rfl ..) (rR (Og ..) (rR (aS6 ..) h));induction rel with
 |stop Z=>
  intro X H W ta ch N J hW sY hN;have hW':W=H:=by rw[hW,dQ]
  subst hW';have oh:N=nx _ X.n:=rR (pV ..) hN;subst oh;refine bS XK NL 500 _ xt _ (by decide) _ (λj=>rfl) (λA' hA j j j=>?_) λsz tk σ=>aA9 ..;refine pW XK NL rfl (nN J) λx lv=>dB (Qs _) λy lv=>?_;induction q;·exact nY (Qw _ _ Z) λj j=>True.intro
  ·exact dB (Qq _ _ Z) λj j=>True.intro
 |one c Z hb rel ih=>
  intro X H W ta ch N J hW sY hN;rename_i l v;have hl:H.length<=1000:=by rw[hW,bQ]at sY;exact aE (fF ..) sY
  refine bS XK NL 500 _ xt _ (by decide) _ (λj=>rfl) (λA' hA j j j=>?_) λsz tk σ=>aBa w X Y c ch z l rest H W ta N sz tk σ q (c.1==10);have oh:N=nx _ X.n+_:=rR (pV ..) (hN.trans sG);refine pW XK NL rfl (nN J) λx lv=>dB (Qs _) λy lv=>?_;have Rq:∀(y:Nat->Nat)lv,(cB ⟨#[c.1]⟩ "\\" c.2 (y 1) false λy=>cP ⟨H.toArray⟩ ⟨#[c.1]⟩ ⟨(H++[c.1]).toArray⟩ ta c.2 λy=>CT q Y _ w l rest (H++[c.1]) (y 2) ..).Ok ao _ A' A'.units none aa lv:=λy lv=>
   dB (Qb _ _ (beq_eq_false_iff_ne.mpr hb)) λy j=>nZ (Oh _ _) (Oi hl) λy j=>⟨rfl,by decide,ih (X.jk _ (x 2)) _ W _ c N (nN J) (by simp only[hW,bH];rfl) sY oh,λj j j=>True.intro⟩;induction q;·exact nY (Qw _ _ Z) λj j=>Rq _ _
  ·exact dB (Qq _ _ Z) λj j=>Rq _ _
 |xu c d hb rel ih=>
  intro X H W ta ch N J hW sY hN;rename_i l v;have hl:H.length<=1000:=by rw[hW,bQ]at sY;exact aE (fF ..) sY
  refine bS XK NL 500 _ xt _ (by decide) _ (λj=>rfl) (λA' hA j j j=>?_) λsz tk σ=>aBb w X Y c d ch z l rest H W ta N sz tk σ q (c.1==10) (d.1==10);have oh:N=nx (d.1==10) (nx _ X.n)+_:=rR (pV c _ ..) (rR (pV ..) (hN.trans (sG.trans sG)));have Z:Hm q c.1=false:=by rw[hb];induction q<;>rfl
  refine pW XK NL rfl (nN J) λx lv=>dB (Qs _) λy lv=>?_;have Rq:∀(y:Nat->Nat)lv,(cB ⟨#[c.1]⟩ "\\" c.2 (y 1) true λy=>m6 3 (X.jk (c.1==10) (x 2)) w d l _ λx2=>cP ⟨H.toArray⟩ ⟨#[d.1]⟩ ⟨(H++[d.1]).toArray⟩ ta d.2 λy=>CT q Y _ w l rest (H++[d.1]) (y 2) ..).Ok ao _ A' A'.units none aa lv:=λy lv=>
   dB (Qb _ _ (beq_iff_eq.mpr hb)) λy j=>pW XK NL rfl (bu [lE (Y0+1+1) 1000] (lE Y0 1000) rfl J) λx2 lv=>nZ (Oh _ _) (Oi hl) λy j=>⟨rfl,by decide,ih ((X.jk _ (x 2)).jk _ (x2 2)) _ W _ d N (bu [lE (Y0+1+1) 1000] (lE Y0 1000) rfl J) (by simp only[hW,bH];rfl) sY oh,λj j j=>True.intro⟩;induction q;·exact nY (Qw _ _ Z) λj j=>Rq _ _
  ·exact dB (Qq _ _ Z) λj j=>Rq _ _
end
abbrev LX.cC(X:LX)(w:aj)(l:List (Nat×ab))(H:List ag)(e2:Nat):List (af×aq):=X.led w l++[(X.pb,aA H e2)]
abbrev aBe(i:Nat)(X:LX)(w:aj)(next:aM):aF:= .cons (some 3) (xk X) [i,i+1,i+2,i+3,i+4,i+5,i+6,i+7] (X.led w []) (GU X w) next
abbrev Ho(q:Bool)(Y:ly)(X:LX)(w:aj)(l rest:List (Nat×ab))(H:List Nat)(ta:ab)(c:Nat×ab)(W:List Nat)(z:Nat×ab)(N:Int):aF:= .cons (some 6) (CS q Y) [0,1,2,3,4,5,6,7,8,9,10] (Y.led X w l H ta c) (xq Y X w rest W z N) λ_=> .nil
def Hp(sz tk H:Nat):ly:=nc (⟨sz+2,sz+1,sz,tk+7,tk,tk+5,tk+8,H⟩)
def zO(k:Nat)(X:LX)(w:aj)(c d:Nat×ab)(l rest:List (Nat×ab))(b Y:Bool)(W:List Nat)(z:Nat×ab)(N:Int)(sz tk:Nat)(J:Option Nat):aF:=match k with
 |0=>aBe 3 X w λx=>cB "" "" (tk+7) (x 2) true λ_=> .nil|1=>m6 3 X w c l b λx=>cB "" ⟨#[c.1]⟩ (tk+7) c.2 false λH=>mr "\n\t\r " ⟨#[c.1]⟩ X.k5 c.2 false λy=>cB ⟨#[c.1]⟩ "\"" c.2 (y 1) true λ_=>Ho true (Hp sz tk (J.getD (H 1))) (X.jk b (x 2)) w l rest [] (tk+4) c W z N|2=>m6 3 X w c (d::l) b λx=>cB "" ⟨#[c.1]⟩ (tk+7) c.2 false λH=>mr "\n\t\r " ⟨#[c.1]⟩ X.k5 c.2 false λy=>cB ⟨#[c.1]⟩ "\"" c.2 (y 1) false λy=>cB ⟨#[c.1]⟩ "\\" c.2 (y 1) true λ_=>m6 3 (X.jk b (x 2)) w d l Y λZ=>Ho false (Hp sz tk (J.getD (H 1))) ((X.jk b (x 2)).jk Y (Z 2)) w l rest [d.1] d.2 d W z N|_=>m6 3 X w c l b λx=>cB "" ⟨#[c.1]⟩ (tk+7) c.2 false λH=>mr "\n\t\r " ⟨#[c.1]⟩ X.k5 c.2 false λy=>cB ⟨#[c.1]⟩ "\"" c.2 (y 1) false λy=>cB ⟨#[c.1]⟩ "\\" c.2 (y 1) false λ_=>Ho false (Hp sz tk (J.getD (H 1))) (X.jk b (x 2)) w l rest [c.1] c.2 c W z N
def sZ(k:Nat)(c d:Nat×ab)(l:List (Nat×ab)):List (Nat×ab):=nc (match k with
 |0=>[]|2=>c::d::l|_=>c::l)
def CV(k:Nat)(X:LX)(w:aj)(s c d:Nat×ab)(l rest:List (Nat×ab))(H b J:Bool)(W:List Nat)(z:Nat×ab)(N:Int)(sz tk:Nat):aF:=m6 3 X w s (sZ k c d l) H λx=>cB "" ⟨#[s.1]⟩ (tk+7) s.2 false λy=>mr "\n\t\r " ⟨#[s.1]⟩ X.k5 s.2 true λ_=>zO k (X.jk H (x 2)) w c d l rest b J W z N sz tk (some (y 1))
abbrev pX(X:LX):Code:=nc (.call (.ref 217) ⟨[.ref X.lx],[]⟩)
def tj:List Nat:=(dN 66 0x20083e108c63080000000000c021000000002000001040008540501405286010800008000004100421)
def pY:List Nat:=(dN 34 0x4501080000800000418c6317c21108001042008020)
def xw(k:Nat):List Nat:=match k with
 |1=>(dN 12 0x1040107c2118be3)|2=>(dN 41 0x208020f842318c0018c63100a400000200002000020c5f18be3)|_=>(dN 21 0x208020f842318c0018c5f18be3)
def tm(w:aj)(X:LX)(pre:List (af×aq))(H:List Nat)(J:aF)(sz tk:Nat)(Y:Xs):=(aI w 8 0 none 600).C [] Y ⟨pre,sz,tk,H,J⟩ (pX X) fin
def m7(X:LX)(w:aj)(rest:List (Nat×ab))(H:List ag)(e2:Nat)(W:List Nat)(N:Int):(Nat->Nat)->Out:=λx=>⟨.ok (.ret (.str ⟨W.toArray⟩ (x 2))),LX.cC { X with n:=N,tn:=x 3,e1:=x 4 } w rest H e2,[],x 0,x 1⟩
abbrev m8:List Nat:=nc ([3,4,5,6,7,8,9,10,11])
section
variable (w:aj)(X:LX)(s c d z:Nat×ab)(l rest:List (Nat×ab))(W:List Nat)(N:Int)(e2:Nat)(b0 b b2:Bool)(sz tk:Nat)(σ:Xs)
end
theorem xy:(∀w(X:LX)c d z l rest W N e2 b b2 sz tk σ,Ends m8 (tm w X (X.cC w (sZ 1 c d l) [] e2) (tj++(pY++xw 1)) (zO 1 X w c d l rest b b2 W z N sz tk none) sz tk σ) (bW (m7 X w rest [] e2 W N λi=>σ 4 i)))/\(∀w(X:LX)c d z l rest W N e2 b b2 sz tk σ,Ends m8 (tm w X (X.cC w (sZ 2 c d l) [] e2) (tj++(pY++xw 2)) (zO 2 X w c d l rest b b2 W z N sz tk none) sz tk σ) (bW (m7 X w rest [] e2 W N λi=>σ 6 i)))/\(∀w(X:LX)c d z l rest W N e2 b b2 sz tk σ,Ends m8 (tm w X (X.cC w (sZ 3 c d l) [] e2) (tj++(pY++xw 3)) (zO 3 X w c d l rest b b2 W z N sz tk none) sz tk σ) (bW (m7 X w rest [] e2 W N λi=>σ 5 i)))/\(∀w(X:LX)s c d z l rest W N e2 b0 b b2 sz tk σ,Ends m8 (tm w X (X.cC w (s::sZ 1 c d l) [] e2) (tj++(pY++(pY++xw 1))) (CV 1 X w s c d l rest b0 b b2 W z N sz tk) sz tk σ) (bW (m7 X w rest [] e2 W N λi=>σ 7 i)))/\(∀w(X:LX)s c d z l rest W N e2 b0 b b2 sz tk σ,Ends m8 (tm w X (X.cC w (s::sZ 2 c d l) [] e2) (tj++(pY++(pY++xw 2))) (CV 2 X w s c d l rest b0 b b2 W z N sz tk) sz tk σ) (bW (m7 X w rest [] e2 W N λi=>σ 9 i)))/\(∀w(X:LX)s c d z l rest W N e2 b0 b b2 sz tk σ,Ends m8 (tm w X (X.cC w (s::sZ 3 c d l) [] e2) (tj++(pY++(pY++xw 3))) (CV 3 X w s c d l rest b0 b b2 W z N sz tk) sz tk σ) (bW (m7 X w rest [] e2 W N λi=>σ 8 i))):=by and_intros<;>intros<;>kernel_rfl
theorem Oj:yX "callable_iterator" "__next__" "callable_iterator.__next__":= .of (owner:="callable_iterator") (n:="__next__") (by kernel_rfl) (by decide+kernel) (by decide+kernel) (by decide+kernel)
  (by first|exact .inl (by decide+kernel)|exact .inr _) (by kernel_rfl)
theorem aBf:me gy "callable_iterator.__next__"=some Builtin.«callable_iterator.__next__»:=aS7 (by kernel_rfl)
theorem aBg(a:ag):lc "callable_iterator.__next__" ⟨[a],[]⟩:=by kernel_rfl
abbrev Ol(q:af)(x:Str)(k:ab):Obj:=⟨.type "callable_iterator",none, .fields #[.ref q, .str x k, .bool false],#[]⟩
section
variable {h:aw}{q f:af}{m:Str->Option ag}{k:ab}{fo:aq}
theorem aBh{Q:Bool->am->Prop}(J:s.heap.get? q=some (BX (.ref f) self))(H:s.heap.get? f=some fo)(hd:fo.data= .func fd)(h:Q true s):aG M A (borrowsExactly (.ref q)) Q E s:=by refine au (y3 J ?_);refine au (y3 H ?_);exact hd▸aH h
end
noncomputable def Hq(o:Option aq):Bool:=match o with
 |some o=>(match o.data with| .func _=>true|_=>false)|none=>false
theorem aBi{o:Option aq}(h:Hq o=true):∃H fd,o=some H/\H.data= .func fd:=by
 unfold Hq at h;split at h
 ·split at h;·exact⟨_,_,rfl,by assumption⟩
  ·injection h
 ·injection h
theorem aBj(w:aj):Hq ((K w.params).lookup 210)=true:=by kernel_rfl
theorem aBk{t:ca α}{Q:α->am->Prop}(SR:ay ao aa ak pre s)(X:aK w aa)(hA:A.handled=none)(n:Nat)(Z H:List Nat)(nd:H.Nodup)(J:ag)(ents:List (af×aq))(sz tk:Nat)(e:∀Y,Ends H ((aI w 0 0 none n).S [] Y ⟨pre,s.heap.objs.size,s.toks,Z, .nil⟩ t fin) (.error J,ents.map some,sz,tk))(h:∀s',ay ao aa ak ents s'->s'.heap.objs.size=sz->s'.toks=tk->Goes pre s.heap ents s'.heap->E J s'):aG (av w) A t Q E s:=by
 refine(zz (P:=λo:Except ag α×WS=>(o.1,H.map (λi=>o.2.led[i]?),o.2.sz,o.2.tk)=_) X hA (dep:=0) nofun (a8 _) n).S [] ⟨pre,s.heap.objs.size,s.toks,Z, .nil⟩ t fin Q E s ak ⟨SR,rfl,rfl⟩ ⟨_,λz=>id,True.intro⟩
  (λY=>Cy (e Y) λr H h=>h) λr H s' F z G hm=>?_;obtain⟨j,j,e1,j,e2⟩:=hm λz z=>0;cases e1;simp only[si]at e2;obtain⟨rfl,e3,e4,e5⟩:=e2;exact h s' ⟨F.r.h.sel nd e3,F.r.os,F.r.gens,F.r.same⟩ (F.sz.trans e4) (F.tk.trans e5) (G.sel e3)
def aBl(X:LX)(w:aj)(sz tk:Nat)(H:Xs):=(aI w 3 0 none 500).C [] H ⟨X.led w [],sz,tk,NO, .nil⟩ (xk X) fin
noncomputable def aBm(sz tk:Nat):Nat->Nat
 |0=>sz+2|1=>tk+10|_=>tk+7
theorem aBn(X:LX)(w:aj)(sz tk:Nat)(H:Xs):Ends [2,3,4,5,6,7,8,9] (aBl X w sz tk H) (bW (GU X w (aBm sz tk))):=by kernel_rfl
theorem aBo(J:aK w aa)(H:aa.NoLimit)(X:LX):Any ao w aa 3 (xk X) (X.led w []) (GU X w):=bS J H 500 NO [2,3,4,5,6,7,8,9] (λz z=> .nil) (by decide) _ (λz=>rfl) (λH H z z z=>True.intro) λsz tk H=>aBn ..
abbrev Hr(t:af):Obj:=nc (⟨.type "StopIteration",none, .fields #[.ref t, .none, .none, .none, .bool false, .none],#[]⟩)
abbrev Hs:Obj:=nc (⟨.type "callable_iterator",none, .fields #[.none, .none, .bool true],#[]⟩)
theorem Om(XK:aK w aa)(NL:aa.NoLimit)(X:LX)(I Y:af)(u:ab):Any ao w aa 3 (bC "callable_iterator.__next__" [.ref I]) ((I,Ol Y "" u)::(Y,BX (.ref 210) (.ref X.lx))::X.led w []) (λx=>⟨.error (.ref (x 2)),(I,Hs)::(Y,BX (.ref 210) (.ref X.lx))::X.led w [],[(x 2,Hr (x 3))],x 0,x 1⟩):=by
 intro A' hA hd u' s ak R hu H z hR;have J:=H.h.at_ _ az;have hq:=H.h.at_ _ (aB az);refine c7 (aBi (aBj w)) λfo fd g1 g2=>dJ Oj.plain aBf (Oj.check _ _ _ _ _ _ _ _ (⟨_,J,rfl⟩) (aBg _) ?_);show aG _ _ (BY _ 2>>=_) ..;refine au (jb J rfl rfl ?_);refine au (jb J rfl (x:= .ref Y) rfl ?_);refine au (uQ ?_);refine au (aBh hq (H.h.keep _ _ (XK _ _ g1)) g2 ?_);refine Nz (method_call hq (aBo XK NL X { A' with units:=u'+1 } hA hd _ s ak _ (a8 _) (⟨H.h.sel (ix:=[2,3,4,5,6,7,8,9]) (by decide) rfl,H.os,H.gens,H.same⟩) (λL J=>nomatch J) λx s' J J Z hn J kp=>?_));refine cI (H.h.told (ix:=[2,3,4,5,6,7,8,9]) (by decide) rfl Z hn J.h kp) λH G z=>nd_pure ?_;have tq:=H.at_ _ az;refine au (jb tq rfl rfl ?_);refine au (jb tq rfl rfl ?_);refine au (fV (eqBool_str ?_));refine aBk (⟨H,J.os,J.gens,J.same⟩) XK hA 100 [1,2,0,1,1,1,1,1,1] [0,2,3,4,5,6,7,8,9,10,11] (by decide) (.ref (s'.heap.objs.size+1)) ((s'.heap.objs.size+1,Hr s'.heap.objs.size)::(I,Hs)::(Y,BX (.ref 210) (.ref X.lx))::X.led w []) (s'.heap.objs.size+2) s'.toks (λH=>by kernel_rfl) λY On H J G2=>?_;have G3:=Goes.trans G G2;refine hR (λi=>match i with|0=>s'.heap.objs.size+2|1=>s'.toks|2=>s'.heap.objs.size+1|_=>s'.heap.objs.size) Y H J rfl (λp Z=>?_) On G3.keep;rcases G3.new p (bL _ Z)with h|⟨r,hr,e⟩
 ·exact h
 ·have H:=On.h.nd;rw[bI.mp Z]at e ⊢;have J:r.1=s'.heap.objs.size+1:=e;refine absurd ?_ ((ci.mp H).1);simp only[<-J];exact b6 (f:=(·.1)) hr
abbrev aBp(I:af):Code:=nc (.call (.builtin "callable_iterator.__next__") ⟨[.ref I],[]⟩)
abbrev aBq(X:LX)(w:aj)(I H:af)(u:ab):List (af×aq):=(I,Ol H "" u)::(H,BX (.ref 210) (.ref X.lx))::X.led w []
abbrev aBr(X:LX)(w:aj)(I H:af):(Nat->Nat)->Out:=λx=>⟨.error (.ref (x 2)),(I,Hs)::(H,BX (.ref 210) (.ref X.lx))::X.led w [],[(x 2,Hr (x 3))],x 0,x 1⟩
def Ht(X:LX)(w:aj)(sz tk:Nat):aF:= .cons (some 3) (aBp (sz+2)) [0,1,3,4,5,6,7,8,9,10] (aBq X w (sz+2) (sz+1) (tk+7)) (aBr X w (sz+2) (sz+1)) λ_=> .nil
def aBs(X:LX)(w:aj)(s:Nat×ab)(H:Bool)(sz tk:Nat):aF:=m6 3 X w s [] H λx=>cB "" ⟨#[s.1]⟩ (tk+7) s.2 false λy=>mr "\n\t\r " ⟨#[s.1]⟩ X.k5 s.2 true λ_=>Ht (X.jk H (x 2)) w sz tk
noncomputable def Oo(X:LX)(tk:Nat)(i:Nat)(J:Option Bool)(H:Xs):Nat->Nat
 |0=>H i 0|1=>H i 1|2=>tk+4|3=>(match J with
  |some true=>H 0 2|_=>X.tn)
 |_=>(match J with
  |some _=>X.e1+1|none=>X.e1)
abbrev CW:List Nat:=nc ([4,5,6,7,8,9,10,11,12])
section
variable (w:aj)(X:LX)(s:Nat×ab)(e2:Nat)(b0:Bool)(sz tk:Nat)(σ:Xs)
theorem aBt:Ends CW (tm w X (X.cC w [] [] e2) (tj++[0,1,2,1,0,4]) (Ht X w sz tk) sz tk σ) (bW (m7 X w [] [] e2 [] X.n (Oo X tk 0 none σ))):=by kernel_rfl
theorem aBu:Ends CW (tm w X (X.cC w [s] [] e2) (tj++(pY++[0,1,2,1,0,4])) (aBs X w s b0 sz tk) sz tk σ) (bW (m7 X w [] [] e2 [] (nx b0 X.n) (Oo X tk 3 (some b0) σ))):=by induction b0<;>kernel_rfl
end
inductive vz(rest:List (Nat×ab)):List (Nat×ab)->List Nat->Prop
 |xz (c z:Nat×ab) {l v:_}:c.1=34->og true rest z l v->vz rest (c::l) v
 |xu (c d z:Nat×ab) {l v:_}:c.1=92->og false rest z l v->vz rest (c::d::l) (d.1::v)
 |one (c z:Nat×ab) {l v:_}:isWs c.1=false->c.1≠92->c.1≠34->og false rest z l v->vz rest (c::l) (c.1::v)
inductive fb(rest:List (Nat×ab)):List (Nat×ab)->List Nat->Prop
 |head {l v:_}:vz rest l v->fb rest l v
 |ws (s:Nat×ab) {l v:_}:isWs s.1=true->vz rest l v->fb rest (s::l) v
 |eof:rest=[]->fb rest [] []
 |Op (s:Nat×ab):isWs s.1=true->rest=[]->fb rest [s] []
section
theorem zP(c:Nat×ab):((("":Str)).cps.toList==(⟨#[c.1]⟩:Str).cps.toList)=false:=rfl
theorem Hu(c:Nat×ab)(b:Bool)(h:(c.1==34)=b):((⟨#[c.1]⟩:Str).cps.toList==(("\"":Str)).cps.toList)=b:=rR (CU _ 34 _ (by decide+kernel)) h
theorem Oq(c:Nat×ab)(b:Bool)(h:(c.1==92)=b):((⟨#[c.1]⟩:Str).cps.toList==(("\\":Str)).cps.toList)=b:=rR (CU _ 92 _ (by decide+kernel)) h
theorem zQ(c:Nat×ab)(b:Bool)(h:isWs c.1=b):(!(ka "\n\t\r " ⟨#[c.1]⟩ 0 (("\n\t\r ":Str)).length 1).isEmpty)=b:=rR (show _=zN from rfl ..) (rR (Og ..) (rR (aS6 ..) h))
theorem Ot(Y:aK w aa)(J:aa.NoLimit){l:List (Nat×ab)}(rel:vz rest l W)(X:LX)(N:Int)(hz:l.length<=1000)(hW:W.length<=1000)(hN:N=X.n+(aL l - aL rest)):∃(k:Nat)(c d z:Nat×ab)(l':List (Nat×ab))(b b2:Bool),(k=1\/k=2\/k=3)/\sZ k c d l'=l/\∀(Z:aD),Z.handled=none->∀(H:LX),H.n=X.n->∀sz tk k4 lv,(zO k H w c d l' rest b b2 W z N sz tk k4).Ok ao (av w) Z Z.units none aa lv:=by
 cases rel with
 |@xz c z l v hc r=>
  have hw:isWs c.1=false:=by rw[hc];rfl
  refine⟨1,c,c,z,l,c.1==10,false, .inl rfl,rfl,λZ hA H hX sz tk k4 lv=>?_⟩;refine pW Y J rfl (nN hz) λx j=>dB (zP c) λy0 j=>nY (zQ c _ hw) λy j=>dB (Hu c _ (beq_iff_eq.mpr hc)) λj j=>⟨rfl,by decide,Hn Y J r _ _ W _ c N (nN hz) rfl hW ?_,λj j j=>True.intro⟩;show N=nx _ H.n+_;simp only[pV c l,hX];exact hN.trans sG
 |@xu c d z l v hc r=>
  have hw:isWs c.1=false:=by rw[hc];rfl
  have oi:=bu [lE (Y0+1+1) 1000] (lE Y0 1000) rfl hz;refine⟨2,c,d,z,l,c.1==10,d.1==10, .inr (.inl rfl),rfl,λZ hA H hX sz tk k4 lv=>?_⟩;refine pW Y J rfl (nN hz) λx j=>dB (zP c) λy0 j=>nY (zQ c _ hw) λy j=>dB (Hu c _ (beq_eq_false_iff_ne.mpr (jc (qM [eQ Y0 92] (lL 34 Y0) [-1] 1 rfl hc)))) λy j=>dB (Oq c _ (beq_iff_eq.mpr hc)) λj j=>pW Y J rfl oi λx2 j=>⟨rfl,by decide,Hn Y J r _ _ _ _ d N oi rfl hW ?_,λj j j=>True.intro⟩;show N=nx _ (nx _ H.n)+_;simp only[pV c (d::l),pV d l,hX];exact hN.trans (sG.trans sG)
 |@one c z l v hw hb hq r=>refine⟨3,c,c,z,l,c.1==10,false, .inr (.inr rfl),rfl,λZ hA H hX sz tk k4 lv=>?_⟩;refine pW Y J rfl (nN hz) λx j=>dB (zP c) λy0 j=>nY (zQ c _ hw) λy j=>dB (Hu c _ (beq_eq_false_iff_ne.mpr hq)) λy j=>dB (Oq c _ (beq_eq_false_iff_ne.mpr hb)) λj j=>⟨rfl,by decide,Hn Y J r _ _ _ _ c N (nN hz) rfl hW ?_,λj j j=>True.intro⟩;show N=nx _ H.n+_;simp only[pV c l,hX];exact hN.trans sG
theorem Hv(Z:aK w aa)(Y:aa.NoLimit){l:List (Nat×ab)}(rel:fb rest l W)(X:LX)(N:Int)(e2:Nat)(hz:l.length<=1000)(hW:W.length<=1000)(hN:N=X.n+(aL l - aL rest)):Any ao w aa 8 (pX X) (X.cC w l [] e2) (m7 X w rest [] e2 W N):=by
 induction rel with
 |head r=>
  obtain⟨k,c,d,z,l',b,b2,hk,rfl,ok⟩:=Ot (ao:=ao) Z Y r X N hz hW hN;rcases hk with rfl|rfl|rfl
  ·exact bS Z Y 600 _ m8 _ (by decide) _ (λj=>rfl) (λH J sz tk j=>ok H J X rfl sz tk none _) λsz tk σ=>xy.1 ..
  ·exact bS Z Y 600 _ m8 _ (by decide) _ (λj=>rfl) (λH J sz tk j=>ok H J X rfl sz tk none _) λsz tk σ=>xy.2.1 ..
  ·exact bS Z Y 600 _ m8 _ (by decide) _ (λj=>rfl) (λH J sz tk j=>ok H J X rfl sz tk none _) λsz tk σ=>xy.2.2.1 ..
 |@ws s l v hs r=>
  have oh:N=nx _ X.n+_:=rR (pV ..) (hN.trans sG);obtain⟨k,c,d,z,l',b,b2,hk,rfl,ok⟩:=Ot (ao:=ao) Z Y r { X with n:=nx _ X.n } N (nN hz) hW oh;have Hw:∀H:aD,H.handled=none->∀sz tk lv,(CV ..).Ok ao _ H H.units none aa lv:=λH J sz tk lv=>by exact pW Z Y rfl (nN hz) λx j=>dB (zP s) λy j=>nY (zQ s _ hs) λj j=>ok H J (X.jk _ (x 2)) rfl sz tk _ _
  rcases hk with rfl|rfl|rfl
  ·exact bS Z Y 600 _ m8 _ (by decide) _ (λj=>rfl) (λH J sz tk j=>Hw H J ..) λsz tk σ=>xy.2.2.2.1 ..
  ·exact bS Z Y 600 _ m8 _ (by decide) _ (λj=>rfl) (λH J sz tk j=>Hw H J ..) λsz tk σ=>xy.2.2.2.2.1 ..
  ·exact bS Z Y 600 _ m8 _ (by decide) _ (λj=>rfl) (λH J sz tk j=>Hw H J ..) λsz tk σ=>xy.2.2.2.2.2 ..
 |eof hr=>subst hr;have oh:N=X.n:=hN▸bw (bf [] (lE (Y0+(0-0)) Y0) rfl) (bf [] (lE Y0 (Y0+(0-0))) rfl);subst oh;exact bS Z Y 600 _ CW (λsz tk=>Ht ..) (by decide) _ (λj=>rfl) (λH J sz tk j=>⟨rfl,by decide,Om Z Y X _ _ _,λj j j=>True.intro⟩) λsz tk σ=>aBt ..|Op s hs hr=>subst hr;have oh:N=nx _ X.n:=rR (pV s [] ..) hN;subst oh;refine bS Z Y 600 _ CW _ (by decide) _ (λj=>rfl) (λH J sz tk j=>?_) λsz tk σ=>aBu ..;exact pW Z Y rfl (nN hz) λx j=>dB (zP s) λy j=>nY (zQ s _ hs) λj j=>⟨rfl,by decide,Om Z Y _ _ _ _,λj j j=>True.intro⟩
end
abbrev LX.im(X:LX)(w:aj)(H:List ag)(e2:Nat):List (af×aq):=[(X.lx,dW 227 X.ld),(X.ld,Cz w X.n X.tn X.sf X.pb X.k1 X.k2 X.k3 X.k4 X.k5),(X.pb,aA H e2)]
abbrev zR(X:LX)(x:Str)(t:ab):Code:=nc (.call (.ref 224) ⟨[.ref X.lx, .str x t],[]⟩)
def xA(o:Option (Str×ab)):List Value:=nc (match o with
 |none=>[]|some p=>[.str p.1 p.2])
def zT(X:LX)(w:aj)(x:Str)(t:ab)(o:Option (Str×ab))(e2:Nat):(Nat->Nat)->Out:=λe=>⟨.ok (.ret (.str x t)),X.im w (xA o) (e2+1),[],e 0,e 1⟩
def zU(X:LX)(w:aj)(x:Str)(t:ab)(o:Option (Str×ab))(e2:Nat):(Nat->Nat)->Out:=λe=>⟨.ok (.ret .none),X.im w (xA o++[.str x t]) (e2+1),[],e 0,e 1⟩
def Ou(w:aj)(pre:List (af×aq))(H:List Nat)(c:bB)(sz tk:Nat)(J:Xs):=(aI w 2 0 none 500).C [] J ⟨pre,sz,tk,H, .nil⟩ c fin
noncomputable def two(a b:Nat):Nat->Nat
 |0=>a|_=>b
def Ov:List Nat:=(dN 51 0x1084200802108418042000020000010480200802106010800008000004100421)
def Ow:List Nat:=(dN 31 0x108401001210841804200002000001040108421)
theorem aBv(w:aj)(X:LX)(x:Str)(t:ab)(o:Option (Str×ab))(e2 sz tk:Nat)(H:Xs):Ends [1,2,3] (Ou w (X.im w (.str x t::xA o) e2) Ov (pX X) sz tk H) (bW (zT X w x t o e2 (two (sz+1) (tk+6)))):=by induction o<;>kernel_rfl
theorem aBw(w:aj)(X:LX)(x:Str)(t:ab)(o:Option (Str×ab))(e2 sz tk:Nat)(H:Xs):Ends [1,2,3] (Ou w (X.im w (xA o) e2) Ow (zR X x t) sz tk H) (bW (zU X w x t o e2 (two (sz+1) (tk+3)))):=by induction o<;>kernel_rfl
section
variable (XK:aK w aa)(NL:aa.NoLimit)(X:LX)(x:Str)(t:ab)(o:Option (Str×ab))(e2:Nat)
include XK NL
theorem CX:Any ao w aa 2 (pX X) (X.im w (.str x t::xA o) e2) (zT X w x t o e2):=bS XK NL 500 Ov [1,2,3] (λz z=> .nil) (by decide) _ (λz=>rfl) (λH H z z z=>True.intro) λsz tk H=>aBv ..
theorem CY:Any ao w aa 2 (zR X x t) (X.im w (xA o) e2) (zU X w x t o e2):=bS XK NL 500 Ow [1,2,3] (λz z=> .nil) (by decide) _ (λz=>rfl) (λH H z z z=>True.intro) λsz tk H=>aBw ..
end
theorem aBx{T:af}{H:List ag}{ys:List Str}{x:Str}{b:Bool}(hi:StrsAre H ys)(Z:ys.any (· ==x)=b):Told ao (av w) A U fr aa (bC "tuple.__contains__" [.ref T, .str x u]) [(T,⟨.type "tuple",none, .seq H.toArray n,#[]⟩)] (λx=>⟨.ok (.ret (.bool b)),[(T,⟨.type "tuple",none, .seq H.toArray n,#[]⟩)],[],x 0,x 1⟩):=by
 intro u s ak R hu J z hR;have Y:Xd s.heap T H.toArray:=⟨_,(J.h.at_ _ az),rfl,n,rfl⟩
 refine dJ Mn.plain aS8 (Mn.check _ _ _ _ _ _ _ _ Y.typeIs (aS9 _ _) (tuple_contains_strs Y hi ?_));exact Z▸hR (λi=>bif bY i 0 then s.heap.objs.size else s.toks) s rfl rfl rfl (λp H=>absurd H bi) ⟨J.h,J.os,J.gens,J.same⟩ λb o H J=>H
abbrev zV(i j:Nat)(X:LX)(w:aj)(l rest:List (Nat×ab))(e2:Nat)(W:List Nat)(N:Int)(next:aM):aF:= .cons (some 8) (pX X) [i,i+1,i+2,i+3,i+4,i+5,i+6,i+7,j] (X.cC w l [] e2) (m7 X w rest [] e2 W N) next
def aBy(b:List ck)(i:Nat)(env:k7):Code:= .whileLoop (pE b[i]? 0) (pB b[i]? 0) (pB b[i]? 1) env
abbrev kB(L:af):Env:=mB sC.1 262 L
def qU(L:af):Code:=aBy (bodyOf sC.1) 1 (kB L)
structure TF where
 L:Nat
 lx:Nat
 tg:Nat
 dp:Int
 td:ab
 nm:Str
 tn:ab
 k:_root_.Fin 7->ab
structure DS where
 r:UInt64
 g:UInt64
 b:UInt64
 tr:ab
 tg:ab
 tb:ab
 ky:List Nat
 fg:Int
 hu:UInt64
 sh:UInt64
 va:UInt64
 ty:ab
 tf:ab
 th:ab
 ts:ab
 tv:ab
 tw:ab
 kf:ab
 kh:ab
 ks:ab
 kv:ab
variable {Dv:DS}
noncomputable abbrev TF.base(T:TF)(w:aj)(D:DS):List DictEntry:=[⟨aS w.params "lexer", .str "lexer" (T.k 0), .ref T.lx⟩,⟨aS w.params "target", .str "target" (T.k 1), .ref T.tg⟩,⟨aS w.params "deep", .str "deep" (T.k 2), .int T.dp T.td⟩,⟨aS w.params "red", .str "red" (T.k 3), .float D.r D.tr⟩,⟨aS w.params "green", .str "green" (T.k 4), .float D.g D.tg⟩,⟨aS w.params "blue", .str "blue" (T.k 5), .float D.b D.tb⟩,⟨aS w.params "name", .str "name" (T.k 6), .str T.nm T.tn⟩]
abbrev TF.aJ(T:TF)(w:aj)(D:DS)(f:Nat):Obj:=nc (match f with
 |0=>⟨.type "frame",none, .dict (cE (T.base w D)) 7,#[]⟩|1=>⟨.type "frame",none, .dict (cE (T.base w D++[⟨aS w.params "key", .str "key" D.tw, .str ⟨D.ky.toArray⟩ D.ty⟩])) 8,#[]⟩|_=>⟨.type "frame",none, .dict (cE (T.base w D++[⟨aS w.params "key", .str "key" D.tw, .str ⟨D.ky.toArray⟩ D.ty⟩,⟨aS w.params "figure", .str "figure" D.kf, .int D.fg D.tf⟩,⟨aS w.params "hue", .str "hue" D.kh, .float D.hu D.th⟩,⟨aS w.params "share", .str "share" D.ks, .float D.sh D.ts⟩,⟨aS w.params "value", .str "value" D.kv, .float D.va D.tv⟩])) 12,#[]⟩)
abbrev ip(T:TF)(X:LX)(w:aj)(D:DS)(f:Nat)(l:List (Nat×ab))(H:List ag)(e2:Nat):List (af×aq):=nc ((T.L,T.aJ w D f)::{ X with lx:=T.lx }.cC w l H e2)
abbrev qV(k:Nat):Str:=nc (⟨#[match k with|0=>104|1=>115|_=>118]⟩)
abbrev Ox(t:ab):Obj:=nc (⟨.type "tuple",none, .seq (cE [.str ⟨#[104]⟩ t, .str ⟨#[115]⟩ (t+1), .str ⟨#[118]⟩ (t+2)]) 0,#[]⟩)
abbrev Hx(T:Nat)(t:ab)(H:List Nat)(u:ab)(b:Bool)(next:aM):aF:= .cons (some 0) (bC "tuple.__contains__" [.ref T, .str ⟨H.toArray⟩ u]) [0] [(T,Ox t)] (λx=>⟨.ok (.ret (.bool b)),[(T,Ox t)],[],x 0,x 1⟩) next
abbrev CZ(W:List Nat)(u:ab)(fg:Int)(next:aM):aF:=nc (.cons (some 2) (.call (.type "int") ⟨[.str ⟨W.toArray⟩ u],[]⟩) [] [] (λx=>⟨.ok (.ret (.int fg (x 2))),[],[],x 0,x 1⟩) next)
abbrev xB(c:bB)(a b d:UInt64)(next:aM):aF:= .cons (some 5) c [] [] (cQ a b d) next
structure DV where
 h:UInt64
 s:UInt64
 v:UInt64
 m:UInt64
 q:UInt64
 n:UInt64
 r:UInt64
 g:UInt64
 b:UInt64
abbrev aBz(D:DS):Code:=nc (.call (.ref 182) ⟨[.float D.r D.tr, .float D.g D.tg, .float D.b D.tb],[]⟩)
abbrev vA(h s v:UInt64)(t u x:ab):Code:=nc (.call (.ref 189) ⟨[.float h t, .float s u, .float v x],[]⟩)
def Oy(κ:Nat)(V:DV)(fg:Int)(H J:ab)(Y z:Nat)(v:Nat->Nat)(next:(Nat->Nat)->(Nat->Nat)->(Nat->Nat)->aF):aF:=match κ with
 |0=>cB (qV 0) "h" H z true λe=>cK "int.__truediv__" [.int fg J, .int 64 (e 1)] (λk=> .float V.q k) λd=>lu "float.__add__" V.h V.q V.m (v 3) (d 2) λp=>lu "float.__mod__" V.m e6 V.n (p 2) (p 1) λm=>xB (vA V.n V.s V.v (m 2) (v 4) (v 5)) V.r V.g V.b λy=>next m y y|1=>cB (qV 1) "h" H z false λe=>cB (qV 1) "s" H (e 1) true λe=>cK "float.__mul__" [.float V.s (v 4), .int fg J] (λk=> .float V.m k) λp=>cK "float.__truediv__" [.float V.m (p 2), .int 4 (p 1)] (λk=> .float V.n k) λm=>xB (vA V.h V.n V.v (v 3) (m 2) (v 5)) V.r V.g V.b λy=>next m y y|_=>cB (qV 2) "h" H z false λe=>cB (qV 2) "s" H (e 1) false λe=>cK "float.__mul__" [.float V.v (v 5), .int fg J] (λk=> .float V.m k) λp=>cK "float.__truediv__" [.float V.m (p 2), .int 4 (p 1)] (λk=> .float V.n k) λm=>xB (vA V.h V.s V.n (v 3) (v 4) (m 2)) V.r V.g V.b λy=>next m y y
def DS.next(D:DS)(κ:Nat)(V:DV)(fg:Int)(f:Nat)(a i v m y:Nat->Nat):DS where
 r:=V.r
 g:=V.g
 b:=V.b
 tr:=y 3
 tg:=y 4
 tb:=y 5
 ky:=(qV κ).cps.toList
 ty:=a 2
 fg:=fg
 tf:=i 2
 hu:=match κ with
  |0=>V.n|_=>V.h
 th:=match κ with
  |0=>m 2|_=>v 3
 sh:=match κ with
  |1=>V.n|_=>V.s
 ts:=match κ with
  |1=>m 2|_=>v 4
 va:=match κ with
  |0=>V.v|1=>V.v|_=>V.n
 tv:=match κ with
  |0=>v 5|1=>v 5|_=>m 2
 tw:=match f with
  |0=>a 1|_=>D.tw
 kf:=match f with
  |0=>i 1|_=>D.kf
 kh:=match f with
  |0=>v 1|_=>D.kh
 ks:=match f with
  |0=>v 1+1|_=>D.ks
 kv:=match f with
  |0=>v 1+2|_=>D.kv
def qW(κ f:Nat)(T:TF)(X:LX)(w:aj)(D:DS)(V:DV)(fg:Int)(l Y Z:List (Nat×ab))(W:List Nat)(J H:Int)(e2:Nat)(next:DS->LX->aF):aF:=zV 1 9 { X with lx:=T.lx } w l Y e2 (qV κ).cps.toList J λa=>Hx (a 0) (a 1+1) (qV κ).cps.toList (a 2) true λc=>zV 2 10 { X with lx:=T.lx,n:=J,tn:=a 3,e1:=a 4 } w Y Z e2 W H λb=>CZ W (b 2) fg λi=>
 xB (aBz D) V.h V.s V.v λv=>Oy κ V fg (a 2) (i 2) 0 (v 1+3) v λm y _=>next (D.next κ V fg f a i v m y) { X with n:=H,tn:=b 3,e1:=b 4 }
def Hy(T:TF)(X:LX)(w:aj)(l J:List (Nat×ab))(W:List Nat)(H:Int)(e2:Nat):aF:=zV 1 9 { X with lx:=T.lx } w l J e2 W H λa=>Hx (a 0) (a 1+1) W (a 2) false λc=>
  .cons (some 2) (zR { X with lx:=T.lx } ⟨W.toArray⟩ (a 2)) [2,3,10] ({ X with lx:=T.lx,n:=H,tn:=a 3,e1:=a 4 }.im w [] e2) (zU { X with lx:=T.lx,n:=H,tn:=a 3,e1:=a 4 } w ⟨W.toArray⟩ (a 2) none e2) λ_=> .nil
noncomputable def DS.ext(D:DS)(W:List Nat)(e:Nat->Nat):DS where
 r:=D.r
 g:=D.g
 b:=D.b
 tr:=e 10
 tg:=e 11
 tb:=e 12
 ky:=W
 fg:=D.fg
 hu:=D.hu
 sh:=D.sh
 va:=D.va
 ty:=e 22
 tf:=e 13
 th:=e 14
 ts:=e 15
 tv:=e 16
 tw:=e 17
 kf:=e 18
 kh:=e 19
 ks:=e 20
 kv:=e 21
def iq(T:TF)(X:LX)(w:aj)(D:DS)(W:List Nat)(rest:List (Nat×ab))(N:Int)(f e2:Nat):(Nat->Nat)->Out:=λe=>⟨.ok .next,ip T { X with n:=N,tn:=e 3,e1:=e 4 } w (D.ext W e) f rest [.str ⟨W.toArray⟩ (e 22)] (e2+1),[],e 0,e 1⟩
noncomputable def Oz(D:DS)(f:Nat)(H:Xs):Nat->Nat
 |0=>H 2 0|1=>H 2 1|3=>H 0 3|4=>H 0 4|10=>D.tr|11=>D.tg|12=>D.tb|13=>D.tf|14=>D.th|15=>D.ts|16=>D.tv|17=>(match f with
  |0=>H 0 1|_=>D.tw)
 |18=>D.kf|19=>D.kh|20=>D.ks|21=>D.kv|_=>H 0 2
abbrev tC(T:TF)(w:aj)(Dv:DS)(W:List Nat)(H rest:List (Nat×ab))(N:Int)(e2:Nat)(D:DS)(X:LX):aF:= .cons (some 10) (qU T.L) [9,10,11,12,13,14,15,16,17,18] (ip T X w D 2 H [] e2) (iq T X w Dv W rest N 2 e2) λ_=> .nil
def xC(κ:Nat):List Nat:=(dN 109 0x617cc6318c630421104200802108821004010844108020084220840100420083e10844010840108420106000003000030000310002084210880310000008000080000820)++((match κ with
 |0=>[6,2]|_=>[777,2,6,6])++(dN 62 0x4a5294a50421104200802108821004010844108020084220840100420083e108440318c031842))
def C0:List Nat:=(dN 44 0x100441800000c0000c0000c42084210880310000008000080000820)
def tD(w:aj)(T:TF)(pre:List (af×aq))(H:List Nat)(J:aF)(sz tk:Nat)(Y:Xs):=(aI w 10 0 none 800).C [] Y ⟨pre,sz,tk,H,J⟩ (qU T.L) fin
section
variable (w:aj)(X:LX)(T:TF)(D Dv:DS)(V:DV)(fg:Int)(l l1 l2 rest:List (Nat×ab))(W F:List Nat)(N1 N2 N:Int)(e2 sz tk:Nat)(σ:Xs)
end
theorem tE:(∀w X T D l Y W J e2 sz tk H,Ends [1,2,3,4,5,6,7,8,9,10] (tD w T (ip T X w D 0 l [] e2) C0 (Hy T X w l Y W J e2) sz tk H) (bW (iq T X w D W Y J 1 e2 (Oz D 0 H))))/\(∀w X T D l Y W J e2 sz tk H,Ends [1,2,3,4,5,6,7,8,9,10] (tD w T (ip T X w D 2 l [] e2) C0 (Hy T X w l Y W J e2) sz tk H) (bW (iq T X w D W Y J 2 e2 (Oz D 2 H))))/\(∀w X T D Dv V fg l Y Z rest W F J N2 N e2 sz tk H,Ends [9,10,11,12,13,14,15,16,17,18] (tD w T (ip T X w D 0 l [] e2) (xC 0) (qW 0 0 T X w D V fg l Y Z F J N2 e2 (tC T w Dv W Z rest N e2)) sz tk H) (bW (iq T X w Dv W rest N 2 e2 λi=>H 10 i)))/\(∀w X T D Dv V fg l Y Z rest W F J N2 N e2 sz tk H,Ends [9,10,11,12,13,14,15,16,17,18] (tD w T (ip T X w D 0 l [] e2) (xC 1) (qW 1 0 T X w D V fg l Y Z F J N2 e2 (tC T w Dv W Z rest N e2)) sz tk H) (bW (iq T X w Dv W rest N 2 e2 λi=>H 10 i)))/\(∀w X T D Dv V fg l Y Z rest W F J N2 N e2 sz tk H,Ends [9,10,11,12,13,14,15,16,17,18] (tD w T (ip T X w D 0 l [] e2) (xC 2) (qW 2 0 T X w D V fg l Y Z F J N2 e2 (tC T w Dv W Z rest N e2)) sz tk H) (bW (iq T X w Dv W rest N 2 e2 λi=>H 10 i)))/\(∀w X T D Dv V fg l Y Z rest W F J N2 N e2 sz tk H,Ends [9,10,11,12,13,14,15,16,17,18] (tD w T (ip T X w D 2 l [] e2) (xC 0) (qW 0 2 T X w D V fg l Y Z F J N2 e2 (tC T w Dv W Z rest N e2)) sz tk H) (bW (iq T X w Dv W rest N 2 e2 λi=>H 10 i)))/\(∀w X T D Dv V fg l Y Z rest W F J N2 N e2 sz tk H,Ends [9,10,11,12,13,14,15,16,17,18] (tD w T (ip T X w D 2 l [] e2) (xC 1) (qW 1 2 T X w D V fg l Y Z F J N2 e2 (tC T w Dv W Z rest N e2)) sz tk H) (bW (iq T X w Dv W rest N 2 e2 λi=>H 10 i)))/\(∀w X T D Dv V fg l Y Z rest W F J N2 N e2 sz tk H,Ends [9,10,11,12,13,14,15,16,17,18] (tD w T (ip T X w D 2 l [] e2) (xC 2) (qW 2 2 T X w D V fg l Y Z F J N2 e2 (tC T w Dv W Z rest N e2)) sz tk H) (bW (iq T X w Dv W rest N 2 e2 λi=>H 10 i))):=by and_intros<;>intros<;>kernel_rfl
theorem aB0{x:Str}{n:Int}(g:Mg (Builtin.«int.__new__» ⟨[.type "int", .str x u],[]⟩) (.int n)):Told ao (av w) A U fr aa (bC "int.__new__" [.type "int", .str x u]) [] (λx=>⟨.ok (.ret (.int n (x 2))),[],[],x 0,x 1⟩):=by intro u s ak R H H j J;refine dJ (by decide+kernel) F.entry_int_new (rR (F.newCall_int_1 ..) ?_);refine aH (g _ _ _ _ _ ?_);exact J (λi=>bif bY i 0 then s.heap.objs.size else bif bY i 1 then s.toks+1 else s.toks) _ rfl rfl rfl (λz J=>absurd J bi) ⟨H.h,H.os,H.gens,H.same⟩ λb o H J=>H
def OA(W:List Nat)(u:ab)(n:Int):aF:=cK "int.__new__" [.type "int", .str ⟨W.toArray⟩ u] (λk=> .int n k) λ_=> .nil
def aB1(w:aj)(W:List Nat)(n:Int)(u:ab)(sz tk:Nat)(H:Xs):=(aI w 2 0 none 500).C [] H ⟨[],sz,tk,[0,0,2,0,0],OA W u n⟩ (.call (.type "int") ⟨[.str ⟨W.toArray⟩ u],[]⟩) fin
def intOut(n:Int):(Nat->Nat)->Out:=nc (λx=>⟨.ok (.ret (.int n (x 2))),[],[],x 0,x 1⟩)
theorem aB2(w:aj)(W:List Nat)(n:Int)(u:ab)(sz tk:Nat)(H:Xs):Ends [] (aB1 w W n u sz tk H) (bW (intOut n λi=>H 0 i)):=by kernel_rfl
section
theorem C1(Y:aK w aa)(J:aa.NoLimit)(W:List Nat)(n:Int)(u:ab)(H:W.length<=640)(hn:uR ⟨W.toArray⟩=some n):Any ao w aa 2 (.call (.type "int") ⟨[.str ⟨W.toArray⟩ u],[]⟩) [] (intOut n):=bS Y J 500 [0,0,2,0,0] [] (λz z=>OA ..) bN _ (λz=>rfl) (λJ J z z z=>dY (λJ=>aB0 (aW4 (H) hn)) λz z=>True.intro) λsz tk H=>aB2 ..
theorem aB3{r:UInt64}{next:aM}(J:(b==0)=false)(H:lf (Xe (decide (a< 0) !=decide (b< 0)) a.natAbs b.natAbs)=false)(h:Xe (decide (a< 0) !=decide (b< 0)) a.natAbs b.natAbs=r)(k:bJ next ao w A U none aa):(cK "int.__truediv__" [.int a t, .int b u] (λk=> .float r k) next).Ok ao (av w) A U none aa lv:=by subst h;exact dY (λz=>eM PySem.F.slot_int_truediv PySem.F.entry_int_truediv (PySem.F.args_int_truediv_2 _ _) (aW5 a t b u (by rw[J];decide) (by rw[H];decide)) (λs=>rfl) λQ s k=>k _ _) λe z=>k e lv
theorem OB{x r:UInt64}{i:Int}{next:aM}(H:lf (d6 i)=false)(h:iI x (d6 i)=r)(k:bJ next ao w A U none aa):(cK "float.__mul__" [.float x t, .int i u] (λk=> .float r k) next).Ok ao (av w) A U none aa lv:=by subst h;exact dY (λz=>eM WZ W0 (W3 _ _) (aTa x t i u (by refine rR H ?_;decide)) (λs=>rfl) λQ s k=>k _ _) λe z=>k e lv
theorem OC{x r:UInt64}{i:Int}{next:aM}(H:lf (d6 i)=false)(J:kX (d6 i)=false)(h:gX x (d6 i)=r)(k:bJ next ao w A U none aa):(cK "float.__truediv__" [.float x t, .int i u] (λk=> .float r k) next).Ok ao (av w) A U none aa lv:=by subst h;exact dY (λz=>eM aSs aSt (aSu _ _) (aW6 x t i u (by rw[H];decide) (by rw[J];decide)) (λs=>rfl) λQ s k=>k _ _) λe z=>k e lv
structure tG(ao:Prop)(w:aj)(aa:aw)(κ:Nat)(V:DV)(fg:Int)(r g b:UInt64):Prop where
 hsv:∀t u x:ab,Any ao w aa 5 (gF 182 [.float r t, .float g u, .float b x]) [] (cQ V.h V.s V.v)
 inf:lf (d6 fg)=false
 way:(κ=0/\lf V.q=false/\Xe (decide (fg< 0) !=decide ((64:Int)< 0)) fg.natAbs 64=V.q/\uK V.h V.q=V.m/\(W4 V.m e6).2=V.n/\∀t u x:ab,Any ao w aa 5 (vA V.n V.s V.v t u x) [] (cQ V.r V.g V.b))\/
  (κ=1/\iI V.s (d6 fg)=V.m/\gX V.m (d6 4)=V.n/\∀t u x:ab,Any ao w aa 5 (vA V.h V.n V.v t u x) [] (cQ V.r V.g V.b))\/
  (κ=2/\iI V.v (d6 fg)=V.m/\gX V.m (d6 4)=V.n/\∀t u x:ab,Any ao w aa 5 (vA V.h V.s V.n t u x) [] (cQ V.r V.g V.b))
theorem OD:lf (d6 4)=false:=by decide+kernel
theorem OE:kX (d6 4)=false:=by decide+kernel
theorem zW{c:bB}{a b d:UInt64}{next:aM}(h:Any ao w aa 5 c [] (cQ a b d))(k:bJ next ao w A U none aa):(xB c a b d next).Ok ao (av w) A U none aa lv:=⟨rfl,bN,h,λx z z=>k x _⟩
theorem aB4{κ:Nat}{V:DV}{fg:Int}{r g b:UInt64}(H:tG ao w aa κ V fg r g b){J Y:ab}{Z z:Nat}{v:Nat->Nat}{next:(Nat->Nat)->(Nat->Nat)->(Nat->Nat)->aF}(k:∀m y e lv,(next m y e).Ok ao (av w) A U none aa lv):(Oy κ V fg J Y Z z v next).Ok ao (av w) A U none aa lv:=by
 rcases H.way with ⟨rfl,a,b,c,d,e⟩|⟨rfl,a,b,c⟩|⟨rfl,a,b,c⟩
 ·exact dB (by decide+kernel) λj j=>aB3 rfl (rR (show(64:Int).natAbs=64 from rfl) (rR b a)) b λj j=>zC c λj j=>CA CG d λj j=>zW (e _ _ _) λj j=>k ..
 ·exact dB (by decide+kernel) λj j=>dB (by decide+kernel) λj j=>OB H.inf a λj j=>OC OD OE b λj j=>zW (c _ _ _) λj j=>k ..
 ·exact dB (by decide+kernel) λj j=>dB (by decide+kernel) λj j=>OB H.inf a λj j=>OC OD OE b λj j=>zW (c _ _ _) λj j=>k ..
end
abbrev tH(κ:Nat):List Nat:=(qV κ).cps.toList
def tI(W:List Nat):Prop:=([⟨#[104]⟩,⟨#[115]⟩,⟨#[118]⟩]:List Str).any (· ==⟨W.toArray⟩)=false
def OF(κ:Nat)(V:DV):UInt64:=nc (match κ with
 |0=>V.n|_=>V.h)
def OG(κ:Nat)(V:DV):UInt64:=nc (match κ with
 |1=>V.n|_=>V.s)
def OH(κ:Nat)(V:DV):UInt64:=nc (match κ with
 |0=>V.v|1=>V.v|_=>V.n)
inductive xD(ao:Prop)(w:aj)(aa:aw)(W:List Nat)(rest:List (Nat×ab))(Dv:DS):List (Nat×ab)->UInt64->UInt64->UInt64->Option (Int×UInt64×UInt64×UInt64)->Prop
 |stop {l r g b q:_}:fb rest l W->tI W->W.length<=640->l.length<=1000->Dv.r=r->Dv.g=g->Dv.b=b->(∀p,q=some p->(Dv.fg,Dv.hu,Dv.sh,Dv.va)=p)->xD ao w aa W rest Dv l r g b q
 |OI {l l1 l2 r g b q:_} (κ:Nat) (V:DV) (fg:Int) (F:List Nat):κ< 3->fb l1 l (tH κ)->fb l2 l1 F->F.length<=640->uR ⟨F.toArray⟩=some fg->l.length<=1000->l1.length<=1000->tG ao w aa κ V fg r g b->
   xD ao w aa W rest Dv l2 V.r V.g V.b (some (fg,OF κ V,OG κ V,OH κ V))->xD ao w aa W rest Dv l r g b q
section
theorem C3(XK:aK w aa)(Z:aa.NoLimit){i:Nat}{l:List (Nat×ab)}{N:Int}{next:aM}(J:[i,i+1,i+2,i+3,i+4,i+5,i+6,i+7,j].Nodup)(H:fb rest l W)(hz:l.length<=1000)(Y:W.length<=1000)(hN:N=X.n+(aL l - aL rest))(k:bJ next ao w A U none aa):(zV i j X w l rest e2 W N next).Ok ao (av w) A U none aa lv:=⟨rfl,J,Hv XK Z H X N e2 hz Y hN,λx z z=>k x _⟩
theorem OJ{T:Nat}{H:List Nat}{b:Bool}{next:aM}(J:([⟨#[104]⟩,⟨#[115]⟩,⟨#[118]⟩]:List Str).any (· ==⟨H.toArray⟩)=b)(k:bJ next ao w A U none aa):(Hx T t H u b next).Ok ao (av w) A U none aa lv:=⟨rfl,by decide,λH z z=>aBx (.cons _ _ (.cons _ _ (.cons _ _ .nil))) J,λx z z=>k x _⟩
theorem aB5{κ:Nat}(h:κ< 3):([⟨#[104]⟩,⟨#[115]⟩,⟨#[118]⟩]:List Str).any (· ==⟨(tH κ).toArray⟩)=true:=by
 rcases κ with _|_|_|κ
 ·decide+kernel
 ·decide+kernel
 ·decide+kernel
 ·exact absurd h (dw.mpr (dF ..))
theorem aB6{D:DS}(W:List Nat)(e:Nat->Nat)(Z:Dv.r=D.r)(J:Dv.g=D.g)(h3:Dv.b=D.b)(Y:Dv.fg=D.fg)(h5:Dv.hu=D.hu)(H:Dv.sh=D.sh)(h7:Dv.va=D.va):D.ext W e=Dv.ext W e:=by unfold DS.ext;simp only[Z,J,h3,Y,h5,H,h7]
theorem OK(Y:aK w aa)(J:aa.NoLimit){T:TF}{l:List (Nat×ab)}{N:Int}(H:fb rest l W)(nk:tI W)(hz:l.length<=1000)(Z:W.length<=1000)(hN:N=X.n+(aL l - aL rest)):(Hy T X w l rest W N e2).Ok ao (av w) A U none aa lv:=C3 Y J (by decide) H hz Z hN λa z=>OJ nk λc z=>⟨rfl,by decide,CY Y J _ _ _ none e2,λz z z=>True.intro⟩
theorem OL(XK:aK w aa)(Z:aa.NoLimit){κ:Nat}{T:TF}{D:DS}{V:DV}{fg:Int}{l J l2:List (Nat×ab)}{F:List Nat}{N1 Y:Int}{next:DS->LX->aF}(oj:κ< 3)(r1:fb J l (tH κ))(r2:fb l2 J F)(hF:F.length<=640)(hi:uR ⟨F.toArray⟩=some fg)(hz:l.length<=1000)(kr:J.length<=1000)(H:tG ao w aa κ V fg D.r D.g D.b)(Hz:N1=X.n+(aL l - aL J))(jp:Y=N1+(aL J - aL l2))(k:∀(a i v m y b:Nat->Nat)lv,(next (D.next κ V fg f a i v m y) { X with n:=Y,tn:=b 3,e1:=b 4 }).Ok ao (av w) A U none aa lv):(qW κ f T X w D V fg l J l2 F N1 Y e2 next).Ok ao (av w) A U none aa lv:=by
 have J:(tH κ).length<=1000:=by show 1<=1000;decide
 exact C3 XK Z (by decide) r1 hz J Hz λa z=>OJ (aB5 oj) λc z=>C3 XK Z (by decide) r2 kr (aE hF (by decide)) jp λb z=>⟨rfl,bN,C1 XK Z F fg _ hF hi,λi z z=>zW (H.hsv _ _ _) λv z=>aB4 H λm y z z=>k ..⟩
theorem aB7(Z:aK w aa)(Y:aa.NoLimit){T:TF}{l:List (Nat×ab)}{r g b:UInt64}{q:Option (Int×UInt64×UInt64×UInt64)}(R:xD ao w aa W rest Dv l r g b q):∀(X:LX)(D:DS)(e2:Nat)(N:Int),D.r=r->D.g=g->D.b=b->q=some (D.fg,D.hu,D.sh,D.va)->N=X.n+(aL l - aL rest)->Any ao w aa 10 (qU T.L) (ip T X w D 2 l [] e2) (iq T X w Dv W rest N 2 e2):=by
 induction R with
 |stop rel nk hW hz h1 h2 h3 h4=>
  rename_i l r g b q;intro X D e2 N d1 d2 d3 d4 hN;have e4:=h4 _ d4;simp only[si]at e4;have es:iq T X w Dv W rest N 2 e2=iq T X w D W rest N 2 e2:=funext λe=>by unfold iq;simp only[aB6 W e (h1.trans d1.symm) (h2.trans d2.symm) (h3.trans d3.symm) e4.1 e4.2.1 e4.2.2.1 e4.2.2.2]
  exact rR es (bS Z Y 800 C0 [1,2,3,4,5,6,7,8,9,10] _ (by decide) _ (λz=>rfl) (λJ hA z z z=>OK Z Y rel nk hz (aE hW (by decide)) hN) λsz tk σ=>tE.2.1 ..)
 |OI κ V fg F oj r1 r2 hF hi hz kr H R ih=>
  rename_i l l1 l2 r g b q;intro X D e2 N d1 d2 d3 d4 hN;subst d1 d2 d3;have ok:∀J:aD,(qW κ 2 T X w D V fg l l1 l2 F _ _ e2 (tC T w Dv W l2 rest N e2)).Ok ao _ J J.units none aa ((ip T X w D 2 l [] e2).map (·.1)):=λJ=>
   OL Z Y oj r1 r2 hF hi hz kr H rfl rfl λa i v m y b lv=>⟨rfl,by decide,ih _ _ e2 N rfl rfl rfl rfl (bw (iB [_,_,_,_,_,_] [eQ Y0 (Y1+(Y2-Y5))] (lE Y0 (Y1+(Y2-Y3)+(Y3-Y4)+(Y4-Y5))) rfl hN) (iA [_,_,_,_,_,_] [eQ Y5 (Y0+(Y1-Y4))] (lE (Y0+(Y1-Y2)+(Y2-Y3)+(Y3-Y4)) Y5) [-1] 1 rfl hN)),λz z z=>True.intro⟩;rcases κ with _|_|_|κ
  ·exact bS Z Y 800 _ [9,10,11,12,13,14,15,16,17,18] _ (by decide) _ (λz=>rfl) (λJ hA z z z=>ok J) λsz tk σ=>tE.2.2.2.2.2.1 ..
  ·exact bS Z Y 800 _ [9,10,11,12,13,14,15,16,17,18] _ (by decide) _ (λz=>rfl) (λJ hA z z z=>ok J) λsz tk σ=>tE.2.2.2.2.2.2.1 ..
  ·exact bS Z Y 800 _ [9,10,11,12,13,14,15,16,17,18] _ (by decide) _ (λz=>rfl) (λJ hA z z z=>ok J) λsz tk σ=>tE.2.2.2.2.2.2.2 ..
  ·exact absurd oj (dw.mpr (dF ..))
theorem aB8(Y:aK w aa)(J:aa.NoLimit){T:TF}{l:List (Nat×ab)}(H:fb rest l W)(nk:tI W)(Z:W.length<=640)(hz:l.length<=1000)(X:LX)(D:DS)(e2:Nat)(N:Int)(hN:N=X.n+(aL l - aL rest)):Any ao w aa 10 (qU T.L) (ip T X w D 0 l [] e2) (iq T X w D W rest N 1 e2):=bS Y J 800 C0 [1,2,3,4,5,6,7,8,9,10] _ (by decide) _ (λz=>rfl) (λA' hA z z z=>OK Y J H nk hz (aE Z (by decide)) hN) λsz tk H=>tE.1 ..
theorem aB9(Z:aK w aa)(Y:aa.NoLimit){T:TF}{l l1 l2:List (Nat×ab)}(κ:Nat)(V:DV)(fg:Int)(F:List Nat)(oj:κ< 3)(r1:fb l1 l (tH κ))(r2:fb l2 l1 F)(hF:F.length<=640)(hi:uR ⟨F.toArray⟩=some fg)(hz:l.length<=1000)(kr:l1.length<=1000)(D:DS)(H:tG ao w aa κ V fg D.r D.g D.b)(R:xD ao w aa W rest Dv l2 V.r V.g V.b (some (fg,OF κ V,OG κ V,OH κ V)))(X:LX)(e2:Nat)(N:Int)(hN:N=X.n+(aL l - aL rest)):Any ao w aa 10 (qU T.L) (ip T X w D 0 l [] e2) (iq T X w Dv W rest N 2 e2):=by
 have ok:∀J:aD,(qW κ 0 T X w D V fg l l1 l2 F _ _ e2 (tC T w Dv W l2 rest N e2)).Ok ao _ J J.units none aa ((ip T X w D 0 l [] e2).map (·.1)):=λJ=>
  OL Z Y oj r1 r2 hF hi hz kr H rfl rfl λa i v m y b lv=>⟨rfl,by decide,aB7 Z Y R _ _ e2 N rfl rfl rfl rfl (bw (iB [_,_,_,_,_,_] [eQ Y0 (Y1+(Y2-Y5))] (lE Y0 (Y1+(Y2-Y3)+(Y3-Y4)+(Y4-Y5))) rfl hN) (iA [_,_,_,_,_,_] [eQ Y5 (Y0+(Y1-Y4))] (lE (Y0+(Y1-Y2)+(Y2-Y3)+(Y3-Y4)) Y5) [-1] 1 rfl hN)),λz z z=>True.intro⟩;rcases κ with _|_|_|κ
 ·exact bS Z Y 800 _ [9,10,11,12,13,14,15,16,17,18] _ (by decide) _ (λz=>rfl) (λJ H z z z=>ok J) λsz tk σ=>tE.2.2.1 ..
 ·exact bS Z Y 800 _ [9,10,11,12,13,14,15,16,17,18] _ (by decide) _ (λz=>rfl) (λJ H z z z=>ok J) λsz tk σ=>tE.2.2.2.1 ..
 ·exact bS Z Y 800 _ [9,10,11,12,13,14,15,16,17,18] _ (by decide) _ (λz=>rfl) (λJ H z z z=>ok J) λsz tk σ=>tE.2.2.2.2.1 ..
 ·exact absurd oj (dw.mpr (dF ..))
end
section
open PySem PySem.Float64
set_option exponentiation.threshold 3000
set_option maxHeartbeats 1000000
section
theorem aCa(k:Nat):N k 0=0:=BH _
theorem OM{P:Nat}{F B:Int}{r g b:UInt64}(h:F=0\/B=0)(C:d8 P F B r g b):∃J:Int,(J=if F=0 then B else 0)/\Is r (N 21 (8192*J))/\Is g (N 21 (8192*J))/\Is b (N 21 (8192*J)):=by
 obtain⟨a,H,c⟩:=C;rw[vy]at a H c;refine⟨_,rfl,?_⟩;rcases h with h|h
 ·subst h;simp only[yU,BH,uJ,aTb]at a H c;exact⟨a,H,c⟩
 ·subst h;simp only[yU,BH,uJ,aTb]at a H c;have:(if F=0 then(0:Int)else 0)=0:=by split<;>rfl
  exact rR (this ..) (rR (yU ..) ⟨a,H,c⟩)
theorem HA{P:Nat}{F B:Int}{r g b:UInt64}(hP:P< 64)(hF:0<=F)(cc:F<=256)(hB:0<=B)(bF:B<=256)(C:d8 P F B r g b):∃(h s v:UInt64)(P':Nat)(F' J:Int),(∀aa:aw,aK w aa->aa.NoLimit->∀t u x:ab,Any ao w aa 5 (gF 182 [.float r t, .float g u, .float b x]) [] (cQ h s v))/\Is h (N 6 P')/\Is s (N 8 F')/\Is v (N 8 J)/\((0< F/\0< B/\P'=P/\F'=F/\J=B)\/((F=0\/B=0)/\P'=0/\F'=0/\J=if F=0 then B else 0)):=by
 by_cases Y:0< F/\0< B
 ·refine YT (aAq hP Y.1 cc Y.2 bF C) λV eq1 eq2 eq3 H mz hs Ih Is' Im=>?_;subst eq1;subst eq2;subst eq3;exact⟨_,_,_,P,F,B,λaa XK Z t u x=>aAa XK Z V t u x H mz hs,Ih,Is',Im, .inl ⟨Y.1,Y.2,rfl,rfl,rfl⟩⟩
 ·have hg:=z0 hF hB Y;refine hO λH aY=>?_;obtain⟨J,eB,Ir,Ig,Ib⟩:=OM hg C;refine aY ?_;have mx:=He Ir Ig Ib ⟨.inl rfl,fv _,fv _,fv _⟩;refine⟨0,0,fL ..,0,0,J,λaa XK Z t u x=>aAb XK Z (pS 0 r g b 0) t u x rfl rfl ?_ rfl,?_,?_,?_, .inr ⟨hg,rfl,rfl,eB⟩⟩
  ·show iQ (iM ..) (fL ..)=true;rw[vx (Hf Ir Ig Ib ⟨.inl rfl,fv _,fv _,fv _⟩) mx,decide_eq_true_eq]
  ·exact xp
  ·exact xp
  ·exact rR (@sU 8 13 J (by decide)) (rR (show J*2 ^ 13=8192*J from bw (bR [eQ Y0 (Ax.m 8192 Y1)] (lE Y0 (Ax.m 8192 Y1)) rfl (fj (J) _)) (cN [eQ Y1 (Ax.m 8192 Y0)] (lE (Ax.m 8192 Y0) Y1) [-1] 1 rfl (fj (J) _))) mx)
theorem zX{P:Nat}{F B:Int}{h s v:UInt64}(hP:P< 64)(hF:0<=F)(cc:F<=256)(hB:0<=B)(bF:B<=256)(Ih:Is h (N 6 P))(Js:Is s (N 8 F))(Z:Is v (N 8 B)):∃r g b:UInt64,(∀aa:aw,aK w aa->aa.NoLimit->∀t u x:ab,Any ao w aa 5 (vA h s v t u x) [] (cQ r g b))/\d8 P F B r g b:=by
 by_cases hc:0< F
 ·obtain⟨V,rfl,rfl,rfl,hi,H,r',g',b',e,C⟩:=aAu hP hc cc hB bF Ih Js Z;refine⟨r',g',b',λaa Y J t u x=>?_,C⟩;have:=aAh (ao:=ao) Y J V t u x hi H;simp only[e]at this;exact this
 ·have hz:F=0:=bw (bf [lE Y0 0] (lE Y0 0) rfl (fG.mp hc)) (bf [lE 0 Y0] (lE 0 Y0) rfl hF);subst hz;refine⟨v,v,v,λaa Y J t u x=>aAg Y J ⟨h,s,v,0,0,0,0,0,0,0,0,0,0,0⟩ t u x ?_,?_⟩;·rw[vx Js xp,decide_eq_true_eq,aCa]
  ·have e:∀x,Li B 0 x=B*2 ^ 13:=λx=>by unfold Li;grind
   have j:=@sU 8 13 B (by decide)▸Z;exact⟨by rw[e];exact j,by rw[e];exact j,rR (e ..) j⟩
theorem HB{P P':Nat}{F B H:Int}{r g b:UInt64}(C:d8 P' 0 H r g b)(e:(F=0/\B=H)\/(B=0/\H=0)):d8 P F B r g b:=by
 obtain⟨c1,c2,c3⟩:=C;have J:∀x y,Li B F x=Li H 0 y:=λx y=>by simp only[vy,vy];rcases e with ⟨Z,Y⟩|⟨Z,Y⟩<;>subst Z Y<;>simp
 exact⟨J _ _▸c1,J _ _▸c2,J _ _▸c3⟩
theorem aCb:∀i< 64,isInf (ofInt ((i:Nat):Int))=false/\isInf (ofFrac (decide (((i:Nat):Int)< 0) !=decide ((64:Int)< 0)) ((i:Nat):Int).natAbs 64)=false/\jP (ofFrac (decide (((i:Nat):Int)< 0) !=decide ((64:Int)< 0)) ((i:Nat):Int).natAbs 64) (((i:Nat):Int)*2 ^ 1068)=true:=by decide+kernel
theorem aCc{P:Nat}{F B:Int}{r g b:UInt64}(hP:P< 64)(hF:0<=F)(cc:F<=256)(J:0<=B)(bF:B<=256)(hf:fg< 64)(C:d8 P F B r g b):∃V:DV,(∀aa:aw,aK w aa->aa.NoLimit->tG ao w aa 0 V fg r g b)/\d8 ((P+fg) % 64) F B V.r V.g V.b:=by
 refine hO λcg aY=>?_;obtain⟨h,s,v,Z,F',B',A,Ih,Js,Jv,H⟩:=HA hP hF cc J bF C;refine aY ?_;have ON:Z< 64:=by rcases H with h|h;exact h.2.2.1▸hP;(rw[h.2.1];decide)
 have OO:0<=F'/\F'<=256:=by rcases H with h|h;exact h.2.2.2.1▸⟨hF,cc⟩;(rw[h.2.2.1];decide)
 have kC:0<=B'/\B'<=256:=by
  rcases H with h|⟨z,z,z,h⟩
  ·exact⟨cN [lE 0 Y1,eQ Y0 Y1] (lE 0 Y0) [1,-1] 1 rfl J h.2.2.2.2,bR [lE Y1 256,eQ Y0 Y1] (lE Y0 256) rfl bF h.2.2.2.2⟩
  ·exact h▸Ci J bF (by decide)
 refine cI (aCb fg hf) λi1 i2 i3=>?_;have t:=aAm (Z+fg) (aT [lL Y1 64,lL Y0 64] (lL (Y0+Y1) 128) rfl hf ON);have n:Is (divmod (add h _) e6).2 (N 6 _):=rR ((zH Ih (m5 i3 rfl) (ii (iB [(Z:Nat),(fg:Nat)] [lE 0 Y0,lE 0 Y1] (lE 0 (Y0+Y1)) rfl (bG _) (bG _)) (iB [(Z:Nat),(fg:Nat)] [lL Y1 64,lL Y0 64] (lE (Y0+Y1) 100000000) rfl (cb.mpr hf) (cb.mpr ON))) (by decide)).inj (m5 t.1 rfl)) (m5 t.2 rfl);obtain⟨r',g',b',A2,C2⟩:=zX (uP _ (by decide)) OO.1 OO.2 kC.1 kC.2 n Js Jv;refine⟨⟨h,s,v,_,_,_,r',g',b'⟩,λaa XK NL=>⟨A aa XK NL,i1, .inl ⟨rfl,i2,rfl,rfl,rfl,A2 aa XK NL⟩⟩,?_⟩;rcases H with ⟨z,z,rfl,rfl,rfl⟩|⟨hg,z,rfl,Y⟩
 ·exact C2
 ·refine HB C2 ?_;by_cases H:F=0;·rw[if_pos H]at Y;exact .inl ⟨H,Y.symm⟩
  ·rw[if_neg H]at Y;exact .inr ⟨hg.elim (λZ=>(Xf H).elim (λH=>bw (cN [lE 0 Y1,lL Y1 0] (lE Y0 0) [1,1] 0 rfl hF H) (J)) (λH=>bw (cN [eQ Y1 0,lL 0 Y1] (lE Y0 0) [1,1] 0 rfl Z H) (J))) (λZ=>bw (bf [eQ Y0 0] (lE Y0 0) rfl Z) (J)),Y⟩
theorem zY:∀i< 5,isInf (ofInt ((i:Nat):Int))=false/\jP (ofInt ((i:Nat):Int)) (((i:Nat):Int)*2 ^ 1074)=true:=by decide+kernel
theorem aCd:Is (ofInt 4) (N 8 1024):=mu (by decide+kernel)
theorem C4{x:UInt64}{c:Int}(hx:Is x (N 8 a))(Y:0<=a)(HC:a<=256)(J:fg< 5)(H:a*fg=4*c):Is (div (mul x (ofInt (fg:Int))) (ofInt 4)) (N 8 c):=by refine d7 (zY fg J) λz Z=>?_;have b:=mw Y HC (bG fg) (show _<=4 by exact iB [(fg:Nat)] [lL Y0 5] (lE Y0 4) rfl (cb.mpr J));have m:Is _ (N (8+0) _):=qR hx (m5 Z rfl) Y ((bG _)) (ii (b.1) (bf [lE Y0 (Ax.m 256 4)] (lE Y0 100000000) rfl b.2)) (by decide);exact zI m aCd (bf [lE 0 Y0] (lE 0 Y0) rfl b.1) (by decide) (cN [eQ Y1 (.m 4 Y0),lE 0 Y1] (lE 0 Y0) [1,1] 4 rfl H b.1) (ii (cN [eQ Y1 (Ax.m 4 Y0),lE 0 Y1] (lE 0 Y0) [1,1] 4 rfl H b.1) (cN [eQ Y1 (Ax.m 4 Y0),lE Y1 (Ax.m 256 4)] (lE Y0 100000000) [-1,1] 4 rfl H b.2)) (by decide) (by omega)
theorem aCe{P:Nat}{F B F2:Int}{r g b:UInt64}(hP:P< 64)(hF:0<=F)(cc:F<=256)(H:0<=B)(bF:B<=256)(Z:fg< 5)(Y:F*fg=4*F2)(C:d8 P F B r g b):∃V:DV,(∀aa:aw,aK w aa->aa.NoLimit->tG ao w aa 1 V fg r g b)/\d8 P F2 B V.r V.g V.b:=by
 refine hO λcg aY=>?_;obtain⟨h,s,v,P',F',B',A,Ih,Js,Jv,way⟩:=HA (ao:=ao) (w:=w) hP hF cc H bF C;refine aY ?_;have b4:=mw hF cc (bG fg) (show _<=4 by exact iB [(fg:Nat)] [lL Y0 5] (lE Y0 4) rfl (cb.mpr Z));rcases way with ⟨z,z,rfl,rfl,rfl⟩|⟨hg,rfl,rfl,hb⟩
 ·have n:=C4 Js hF cc Z Y;refine hO λkA dZ=>?_;obtain⟨r',g',b',A2,C2⟩:=zX hP (by exact cN [eQ Y1 (.m 4 Y0),lE 0 Y1] (lE 0 Y0) [1,1] 4 rfl Y b4.1) (by exact cN [eQ Y1 (.m 4 Y0),lE Y1 (.m 256 4)] (lE Y0 256) [-1,1] 4 rfl Y b4.2) H bF Ih n Jv;exact dZ ⟨⟨h,s,v,_,0,_,r',g',b'⟩,λaa XK J=>⟨A aa XK J,(zY fg Z).1, .inr (.inl ⟨rfl,rfl,rfl,A2 aa XK J⟩)⟩,C2⟩
 ·have n:=C4 (c:=0) Js (by decide) (by decide) Z (by simp);have kC:=hb▸Ci H bF (by decide);refine hO λkA dZ=>?_;obtain⟨r',g',b',A2,C2⟩:=zX (by decide) (by decide) (by decide) kC.1 kC.2 Ih n Jv;refine dZ ⟨⟨h,s,v,_,0,_,r',g',b'⟩,λaa XK J=>⟨A aa XK J,(zY fg Z).1, .inr (.inl ⟨rfl,rfl,rfl,A2 aa XK J⟩)⟩,HB C2 ?_⟩;by_cases hz:F=0
  ·subst hz;exact .inl ⟨bw (cN [eQ (.m 0 Y1) (.m 4 Y0)] (lE Y0 0) [-1] 4 rfl Y) (cN [eQ (.m 0 Y1) (.m 4 Y0)] (lE 0 Y0) [1] 4 rfl Y),hb.symm⟩
  ·rw[if_neg hz]at hb;exact .inr ⟨hg.elim (λY=>(Xf hz).elim (λJ=>bw (cN [lE 0 Y1,lL Y1 0] (lE Y0 0) [1,1] 0 rfl hF J) (H)) (λJ=>bw (cN [eQ Y1 0,lL 0 Y1] (lE Y0 0) [1,1] 0 rfl Y J) (H))) (λY=>bw (bf [eQ Y0 0] (lE Y0 0) rfl Y) (H)),hb⟩
theorem aCf{P:Nat}{F B:Int}{r g b:UInt64}(hP:P< 64)(hF:0<=F)(cc:F<=256)(J:0<=B)(bF:B<=256)(hf:fg< 5)(H:B*fg=4*B2)(C:d8 P F B r g b):∃V:DV,(∀aa:aw,aK w aa->aa.NoLimit->tG ao w aa 2 V fg r g b)/\d8 P F B2 V.r V.g V.b:=by
 refine hO λcg aY=>?_;obtain⟨h,s,v,P',F',B',A,Ih,Js,Jv,way⟩:=HA (ao:=ao) (w:=w) hP hF cc J bF C;refine aY ?_;have b4:=mw J bF (bG fg) (show _<=4 by exact iB [(fg:Nat)] [lL Y0 5] (lE Y0 4) rfl (cb.mpr hf));rcases way with ⟨z,z,rfl,rfl,rfl⟩|⟨hg,rfl,rfl,Z⟩
 ·have n:=C4 Jv J bF hf H;obtain⟨r',g',b',A2,C2⟩:=zX hP hF cc (by exact cN [eQ Y1 (.m 4 Y0),lE 0 Y1] (lE 0 Y0) [1,1] 4 rfl H b4.1) (by exact cN [eQ Y1 (.m 4 Y0),lE Y1 (.m 256 4)] (lE Y0 256) [-1,1] 4 rfl H b4.2) Ih Js n;exact⟨⟨h,s,v,_,0,_,r',g',b'⟩,λaa XK Y=>⟨A aa XK Y,(zY fg hf).1, .inr (.inr ⟨rfl,rfl,rfl,A2 aa XK Y⟩)⟩,C2⟩
 ·have hc:∃c:Int,B'*fg=4*c/\0<=c/\c<=256/\((F=0/\B2=c)\/(B2=0/\c=0)):=by
   by_cases hz:F=0
   ·rw[if_pos hz]at Z;subst Z;exact⟨B2,H,cN [eQ Y1 (.m 4 Y0),lE 0 Y1] (lE 0 Y0) [1,1] 4 rfl H b4.1,cN [eQ Y1 (.m 4 Y0),lE Y1 (.m 256 4)] (lE Y0 256) [-1,1] 4 rfl H b4.2, .inl ⟨hz,rfl⟩⟩
   ·rw[if_neg hz]at Z;subst Z;have hb0:B=0:=hg.elim (λq2=>(Xf hz).elim (λq1=>bw (cN [lE 0 Y1,lL Y1 0] (lE Y0 0) [1,1] 0 rfl hF q1) (J)) (λq1=>bw (cN [eQ Y1 0,lL 0 Y1] (lE Y0 0) [1,1] 0 rfl q2 q1) (J))) (λq2=>bw (bf [eQ Y0 0] (lE Y0 0) rfl q2) (J));subst hb0;exact⟨0,by simp,by decide,by decide, .inr ⟨by simp at H;exact bw (g8 [eQ 0 (.m 4 Y0)] (lE Y0 0) [-1] 4 rfl H) (g8 [eQ 0 (.m 4 Y0)] (lE 0 Y0) [1] 4 rfl H),rfl⟩⟩
  refine hO λkA dZ=>?_;obtain⟨c,c1,c2,c3,c4⟩:=hc;refine dZ ?_;have H:=Z▸Ci J bF (by decide);have n:=C4 Jv H.1 H.2 hf c1;refine hO λkA dZ=>?_;obtain⟨r',g',b',A2,C2⟩:=zX (by decide) (by decide) (by decide) c2 c3 Ih Js n;exact dZ ⟨⟨h,s,v,_,0,_,r',g',b'⟩,λaa XK Y=>⟨A aa XK Y,(zY fg hf).1, .inr (.inr ⟨rfl,rfl,rfl,A2 aa XK Y⟩)⟩,HB C2 c4⟩
end
end
section
open PySem PySem.Float64
set_option exponentiation.threshold 3000
set_option maxHeartbeats 1000000
section
theorem aCg{P:Nat}{r g b:UInt64}(hP:P< 64)(cc:F<=256)(bF:B<=256)(C:d8 P F B r g b):∃h l p:UInt64,(∀aa:aw,aK w aa->aa.NoLimit->∀t u x:ab,Any ao w aa 5 (gF 175 [.float r t, .float g u, .float b x]) [] (cQ h l p))/\Is l (N 22 (Bo B F))/\((0< F/\0< B/\Is h (N 6 P)/\∃z:Int,Is p z/\0< z/\Is (mul p (ofInt 1024)) (z*1024)/\z*1024 / 2 ^ 1074=((1024*(32*(B*F))/ min (Bo B F) (4194304 - Bo B F):Nat):Int))\/((F=0\/B=0)/\h=0/\p=0)):=by
 by_cases Y:0< F/\0< B
 ·refine YW (aA0 hP Y.1 cc Y.2 bF C) λV lo eq1 eq2 eq3 H h1 h2 h3 h4 h5 Ih Il z=>?_;subst eq1;subst eq2;subst eq3;exact⟨_,_,_,λaa XK Z t u x=>aAc XK Z V t u x H h1 h2 h3 h4 h5,Il, .inl ⟨Y.1,Y.2,Ih,z⟩⟩
 ·have hg:=z0 (bG _) (bG _) λq=>Y ⟨cb.mp q.1,cb.mp q.2⟩;refine Gv (OM hg C) λH eB Y Ig Ib=>?_;have mx:=He Y Ig Ib ⟨.inl rfl,fv _,fv _,fv _⟩;have mn:=Hf Y Ig Ib ⟨.inl rfl,fv _,fv _,fv _⟩;have J:=eB▸Ci (bG _) (bK.mpr bF) (by decide);have e:((Bo B F:Nat):Int)=8192*H+8192*H:=by
   unfold Bo;rcases hg with h|h
   ·have:F=0:=c8 (bK.mp (iB [(F:Nat)] [eQ Y0 0] (lE Y0 0) rfl h)) (fZ _);subst this;exact rR eB (bw (iB [(B:Nat)] [] (lE (Ax.m 16384 Y0) ((Ax.m 8192 Y0)+(Ax.m 8192 Y0))) rfl) (iB [(B:Nat)] [] (lE ((Ax.m 8192 Y0)+(Ax.m 8192 Y0)) (Ax.m 16384 Y0)) rfl))
   ·have:B=0:=c8 (bK.mp (iB [(B:Nat)] [eQ Y0 0] (lE Y0 0) rfl h)) (dF ..);subst this;refine rR eB ?_;simp
  refine⟨0,_,0,λaa XK Z t u x=>aAd XK Z (pS 0 r g b 0) t u x rfl rfl ?_ rfl rfl rfl,by rw[e];exact(zI (zH mx mn (ii (g8 [lE 0 Y0] (lE 0 ((Ax.m 8192 Y0)+(Ax.m 8192 Y0))) [16384] 1 rfl J.1) (g8 [lE Y0 256] (lE ((Ax.m 8192 Y0)+(Ax.m 8192 Y0)) 100000000) [16384] 1 rfl J.2)) (by decide)) Hh (g8 [lE 0 Y0] (lE 0 ((Ax.m 8192 Y0)+(Ax.m 8192 Y0))) [16384] 1 rfl J.1) (by decide) (g8 [lE 0 Y0] (lE 0 ((Ax.m 8192 Y0)+(Ax.m 8192 Y0))) [16384] 1 rfl J.1) (ii (g8 [lE 0 Y0] (lE 0 ((Ax.m 8192 Y0)+(Ax.m 8192 Y0))) [16384] 1 rfl J.1) (g8 [lE Y0 256] (lE ((Ax.m 8192 Y0)+(Ax.m 8192 Y0)) 100000000) [16384] 1 rfl J.2)) (by decide) (by omega)), .inr ⟨hg.elim (λH=> .inl (c8 (bK.mp (iB [(F:Nat)] [eQ Y0 0] (lE Y0 0) rfl H)) (dF ..))) (λH=> .inr (c8 (bK.mp (iB [(B:Nat)] [eQ Y0 0] (lE Y0 0) rfl H)) (dF ..))),rfl,rfl⟩⟩;show iQ (iM ..) (fL ..)=true;rw[vx mn mx,decide_eq_true_eq]
end
end
section
open PySem
noncomputable def lA(c:Nat):Bool:=c==34||(c==92||(c==32||(c==10||(c==9||c==13))))
def pZ(H:Bool):List Nat->List Nat
 |[]=>[]|c::l=>(if(H||lA c)=true then [92,c]else [c])++pZ H l
noncomputable def qX:List Nat->List Nat
 |[]=>[]|c::l=>(if c=92\/c=34 then [92,c]else [c])++qX l
noncomputable def quoted(gq:Nat)(w:List Nat):Bool:=gq==1||w.isEmpty
def gJ(gq:Nat)(w:List Nat):List Nat:=bif quoted gq w then 34::(qX w++[34])else pZ (gq==2) w
theorem map_two{A:List (Nat×ab)}{a b:Nat}{l:List Nat}(h:A.map (·.1)=a::b::l):∃p q H,A=p::q::H/\p.1=a/\q.1=b/\H.map (·.1)=l:=by
 match A,h with
 |p::q::H,h=>simp only[iJ,uO]at h;exact⟨p,q,H,rfl,h.1,h.2.1,h.2.2⟩
theorem map_one{A:List (Nat×ab)}{a:Nat}{l:List Nat}(h:A.map (·.1)=a::l):∃p H,A=p::H/\p.1=a/\H.map (·.1)=l:=by
 match A,h with
 |p::H,h=>rw[iJ,uO]at h;exact⟨p,H,rfl,h.1,h.2⟩
theorem OP{c:Nat}(h:lA c=false):isWs c=false/\c≠92/\c≠34:=by unfold lA at h;simp only[BP,beq_eq_false_iff_ne]at h;refine⟨?_,h.2.1,h.1⟩;unfold isWs;simp only[BP,beq_eq_false_iff_ne];exact⟨⟨⟨h.2.2.2.1,h.2.2.2.2.1⟩,h.2.2.2.2.2⟩,h.2.2.1⟩
section
variable {z:Nat×ab}
theorem OQ{all:Bool}(hz:isWs z.1=true):∀(w:List Nat)(A:List (Nat×ab)),A.map (·.1)=pZ all w->og false rest z (A++z::rest) w:=by
 intro w;induction w with
 |nil=>intro A h;exact BZ.mp h▸ .stop hz|cons c w ih=>
  intro A h;unfold pZ at h;split at h
  ·refine Cf (map_two h) λp q Y Z H h2 h3=>?_;subst Z;subst h2;exact .xu p q H (ih Y h3)
  ·rename_i hm;refine lp (map_one h) λp Y J H h3=>?_;subst J;have sM:lA c=false:=by
    induction e:lA c with
    |false=>rfl|true=>exact absurd (by rw[e,aTc]) hm
   refine cI (OP sM) λm1 m2 J=>?_;subst H;exact .one p m1 m2 (ih Y h3)
theorem aCh(hz:z.1=34):∀(w:List Nat)(A:List (Nat×ab)),A.map (·.1)=qX w->og true rest z (A++z::rest) w:=by
 intro w;induction w with
 |nil=>intro A h;exact BZ.mp h▸ .stop (by refine rR hz ?_;rfl)|cons c w ih=>
  intro A h;unfold qX at h;split at h
  ·refine Cf (map_two h) λp q A' J H h2 Y=>?_;subst J;subst h2;exact .xu p q H (ih A' Y)
  ·rename_i hm;refine lp (map_one h) λp A' Z H Y=>?_;subst Z;subst H;exact .one p (beq_eq_false_iff_ne.mpr λe=>hm (.inr e)) (λe=>hm (.inl e)) (ih A' Y)
def after(gq:Nat)(w:List Nat)(z:Nat×ab)(rest:List (Nat×ab)):List (Nat×ab):=bif quoted gq w then z::rest else rest
theorem OR{w:List Nat}{A:List (Nat×ab)}(H:A.map (·.1)=gJ gq w)(hz:isWs z.1=true):vz (after gq w z rest) (A++z::rest) w:=by
 unfold gJ at H;unfold after;induction J:quoted gq w with
 |true=>simp only[J,cond_true]at H;refine lp (map_one H) λp A' eq1 Y h2=>?_;subst eq1;refine lp (aTd.mp h2) λA1 A2 eq2 Z h4=>?_;subst eq2;refine lp (map_one h4) λy A3 eq3 h5 h6=>?_;subst eq3;refine rR (BZ.mp h6) ?_;have:=aCh (rest:=z::rest) h5 w A1 Z;simp only[sn,bH,uS];exact .xz p y Y this|false=>
  simp only[J,cond_false]at H;unfold quoted at J;simp only[BP]at J;induction w with
  |nil=>injection J.2|cons c w=>
   unfold pZ at H;split at H
   ·refine Cf (map_two H) λp q A' eq4 Y h2 Z=>?_;subst eq4;subst h2;exact .xu p q z Y (OQ hz w A' Z)
   ·rename_i hm;refine lp (map_one H) λp A' eq5 Y Z=>?_;subst eq5;have sM:lA c=false:=by
     induction e:lA c with
     |false=>rfl|true=>exact absurd (by rw[e,aTc]) hm
    refine cI (OP sM) λm1 m2 m3=>?_;subst Y;exact .one p z m1 m2 m3 (OQ hz w A' Z)
inductive xF:List (Nat×ab)->Prop
 |none:xF []
 |one (s:Nat×ab):isWs s.1=true->xF [s]
theorem aCi{w:List Nat}{A lead:List (Nat×ab)}(Y:xF lead)(H:A.map (·.1)=gJ gq w)(J:isWs z.1=true):fb (after gq w z rest) (lead++(A++z::rest)) w:=by
 induction Y with
 |none=>exact .head (OR H J)|one s hs=>exact .ws s hs (OR H J)
theorem aCj{lead:List (Nat×ab)}(H:xF lead):fb [] lead []:=by
 induction H with
 |none=>exact .eof rfl|one s hs=>exact .Op s hs rfl
theorem aCk{gq:Nat}{w:List Nat}(H:isWs z.1=true):∃lead,xF lead/\after gq w z rest=lead++rest:=by
 unfold after;induction quoted gq w with
 |true=>exact⟨[z], .one z H,rfl⟩|false=>exact⟨[], .none,rfl⟩
end
noncomputable def lB(k:Nat):Nat:=match k % 4 with
 |0=>32|1=>10|2=>9|_=>13
theorem aCl(k:Nat):isWs (lB k)=true:=by unfold lB;split<;>rfl
def qY:Nat->List (Nat×List Nat)->List Nat
 |_,[]=>[]|k,p::ws=>gJ p.1 p.2++lB k::qY (k+1) ws
def om(k:Nat)(H:List (Nat×List Nat))(l:List (Nat×ab)):Prop:=∃lead B,xF lead/\l=lead++B/\B.map (·.1)=qY k H
theorem vB{p:Nat×List Nat}{Z:List (Nat×List Nat)}{l:List (Nat×ab)}(h:om k (p::Z) l):∃l',fb l' l p.2/\om (k+1) Z l'/\l'.length<=l.length:=by refine hO λZ aY=>lp h λlead B hl Y hB=>?_;subst Y;refine lp (aTd.mp hB) λA C J hA hC=>?_;subst J;refine lp (map_one hC) λz R H hz hR=>?_;subst H;refine aY ?_;have J:=hz▸aCl k;refine aO (@aCk R z p.1 p.2 J) λH Y e=>⟨after ..,aCi hl hA J,⟨H,R,Y,e,hR⟩,?_⟩;unfold after;induction quoted p.1 p.2<;>simp only[cond_true,cond_false,bQ,eH]<;>omega
theorem aCn{l:List (Nat×ab)}(h:om k [] l):fb [] l []:=by refine lp h λlead B J H Y=>?_;subst H;exact rR (BZ.mp Y ..) (rR (dQ ..) (aCj J))
theorem aCo{H:List (Nat×List Nat)}{l:List (Nat×ab)}(h:l.map (·.1)=qY 0 H):om 0 H l:=⟨[],l, .none,rfl,h⟩
end
def aCp(H:Hook):Hook:=nc (⟨H.α×Bool,λs=>(H.obs s,(s.heap.get? 1).isSome),λw=>(H.val w,true),λw h=>H.says w h/\∃o,h.get? 1=some o,λw s x=>⟨H.of w s (aTe x).1,Option.isSome_iff_exists.mp (aTe x).2⟩,λw h h' x k=>⟨H.keeps w h h' x.1 k,x.2.elim λo e=>⟨o,k _ _ e⟩⟩⟩)
abbrev vC:Hook:=aCp Hk
abbrev HE(w:aj):Prop:=(openEnds treeTable P w 3484).map (λs=>(openSeen q loose (importedModules P.main.body) Xt true s,vC.obs s))=some (openGood q loose,vC.val w)
theorem aCq:∀w:aj,HE (w.withFollow "special-get-raises" false):=λw=>by kernel_rfl
theorem aCr:∀w:aj,HE (w.withFollow "special-get-raises" true):=λw=>by kernel_rfl
theorem aCs:LeftO P q loose Xt vC.obs vC.val 3484:=λw=>byRow2 "special-get-raises" (P:=HE) aCq aCr w
theorem aCt(H:WalkO q loose (XL q []) vC.says Rw.row.toRowW sD [] λf vs=>PySem.call f vs):Rw.Holds:=holds_law ws λJ=>holds_open aCs vC.of vC.keeps (λs e=>xl_of s (Ma.mp e).1) XL.keeps YR hp hk (λs e=>recFacts_of (Ma.mp e).2) rfl J ok bare hw H
abbrev vD(x y z r:Str)(t u v:ab)(next:aM):aF:=cK "str.replace" [.str x t, .str y u, .str z v] (λk=> .str r k) next
open PySem.Builtin.Str in
theorem HF{x y z r:Str}{v:ab}{next:aM}(hu:(u==0||v==0)=false)(J:(u==v)=false)(Y:(y==z)=false)(hx:x.length<=1048576)(hz:z.length<=14)(H:Txt.replace x y z=r)(k:bJ next ao w A U fr aa):(vD x y z r t u v next).Ok ao (av w) A U fr aa lv:=by
 have Z:x.length+(x.length+1)*z.length<=16777216:=by exact cz [lE Y0 1048576,lE Y1 Y2,eQ Y2 (Ax.m 14 (Y0+1))] (lE (Y0+Y1) 16777216) [15,1,1] 1 rfl hx (dT _ hz) (dU _ _)
 have hl:tooLong (x.length+(occurrences x y 0 x.length (x.length+1)).length*z.length)=false:=by exact decide_eq_false (dw.mpr (b7 [lE (Y0+Y2) 16777216,lE Y1 Y2] (lE (Y0+Y1) 16777216) rfl Z (jF _ (StrLaws.occ_length_le ..))))
 refine dY (λj=>eM PySem.F.slot_str_replace PySem.F.entry_str_replace (PySem.F.args_str_replace_3 ..) (gives_str_replace x y z t u v λj=>⟨hu,J,Y,hl⟩) (λs=>ib ..) λQ s h=>?_) λe j=>k e lv;unfold Txt.replace at H;cases hc:((occurrences ..).isEmpty||_)
 ·rw[hc]at H;simp only[W5,if_false]at H ⊢;exact rR H ⟨H▸fits_replaced y Z,h _ _⟩
 ·rw[hc]at H;simp only[if_true]at H ⊢;exact rR H (h t s.toks)
abbrev HG(W:Str)(t:ab)(i:Nat):Obj:=nc (⟨.type "str_ascii_iterator",none, .fields #[.str W t, .int i 0],#[]⟩)
theorem aCv{W:Str}(J:W.cps.all (· < 128)=true):
  Told True (av w) A U fr aa (bC "str.__iter__" [.str W t]) [] (λe=>⟨.ok (.ret (.ref (e 2))),[],[(e 2,HG W t 0)],e 0,e 1⟩):=by
 intro u s ak R Y H v Y;refine dJ aTf.plain F.entry_str_iter (aTf.check _ _ _ _ _ _ _ _ (ib ..) (F.args_str_iter_1 _) ?_);show aG _ _ (do ret (<-newFields _ [.str W t,eI 0])) ..;refine rR J (au (kb (aH ?_)));exact Y (λi=>match i with|0=>s.heap.objs.size+1|1=>s.toks|_=>s.heap.objs.size) { s with heap:=s.heap.push (HG ..) } (qv ..) rfl rfl (λp J=>by
  refine rR (bI.mp J) ?_;induction z:s.heap.get? s.heap.objs.size with
  |none=>rfl|some o'=>exact absurd (dH z) (jH _)) ⟨H.h.alloc rfl,H.os,H.gens,H.same⟩ λb o e j=>cZ _ e
abbrev C5(W:Str)(t:ab)(next:aM):aF:= .cons (some 0) (bC "str.__iter__" [.str W t]) [] [] (λe=>⟨.ok (.ret (.ref (e 2))),[],[(e 2,HG W t 0)],e 0,e 1⟩) next
theorem HH{W:Str}{next:aM}(H:W.cps.all (· < 128)=true)(k:bJ next True w A U fr aa):(C5 W t next).Ok True (av w) A U fr aa lv:=⟨rfl,bN,λJ z z=>aCv H,λx z z=>k x _⟩
section
theorem aCw{T J HI:String}{Bi:Builtin}{args:List ag}{Q₁:ag->am->Prop}(Y:TypeCalled T J HI)(hct:checkTypeCall T ⟨args,[]⟩=pure ())(aCx:me gy HI=some Bi)(vj:eC (aR prog w) A.in1 (.call (.builtin J) ⟨.type T::args,[]⟩) (FX Q₁ λe s'=>R (.error e) s') s)(aCy:∀H ba,Q₁ H ba->ba.TypeIs H T/\lc HI ⟨H::args,[]⟩/\aG (aR prog w) A.in1.in1 (Bi ⟨H::args,[]⟩) (λJ s'=>match J with| .done f=>FX (λr Z=>r= .none/\R (.ok (.ret H)) Z) (λe s'=>R (.error e) s') (.ok f) s'| .again c'=>c'.quiet=true/\eC (aR prog w) A.in1 c' (FX (λr Z=>r= .none/\R (.ok (.ret H)) Z) λe s'=>R (.error e) s') s') (λe s'=>FX (λr Z=>r= .none/\R (.ok (.ret H)) Z) (λe s'=>R (.error e) s') (.error e) s') ba):eC (aR prog w) A (.call (.type T) ⟨args,[]⟩) R s:=by
 refine vg Y.mro λc J J=>?_;have J:=Y.made;have J:=Y.sub;refine aSh (aH ⟨aTg _ (by decide+kernel),qw F.entry_type_call ?_⟩);have J:=Y.notType;have J:=Y.canCreate;repeat (any_goals (first|assumption|wp_step))
 refine Mo vj λr ba hr=>?_;induction r with
 |error e=>exact hr|ok fl=>
  induction fl with
  |ret H=>
   refine cI (aCy _ _ hr) λhT m9 hsi=>?_;have J:=Y.init.lookup;have J:=Y.init.bind H;repeat (any_goals (first|assumption|wp_step))
   refine Mo (dJ Y.init.plain aCx (Y.init.check _ _ _ _ _ _ _ _ hT m9 hsi)) λaCz Z HL=>?_;induction aCz with
   |error e=>exact HL|ok aC0=>
    induction aC0 with
    |ret r=>obtain⟨rfl,H⟩:=HL;repeat (any_goals (first|assumption|wp_step))
    |_=>exact HL.elim
  |_=>exact hr.elim
end
def C6(v:ag):Tok:=nc (match v with
 | .str _ u=>u|_=>0)
noncomputable def on(l:List Nat)(y:Nat->Nat):List Value:=l.mapIdx λi c=>ag.str ⟨#[c]⟩ (y (100+i))
theorem aC1{x:Str}{H:Array ag}(h:ItemsOf (SignAt x) H x.cps.size):H=(on x.cps.toList λi=>C6 (H.getD (i - 100) .none)).toArray:=by
 apply Array.ext';unfold on;refine jG λi=>?_;simp only[gA,B3,B3];induction z:H[i]? with
 |none=>
  have:x.cps[i]?=none:=by rw[Array.getElem?_eq_none_iff]at z ⊢;exact rL h.1 z
  refine rR this ?_;rfl
 |some v=>
  refine c7 (h.2 i v z) λc u Y J=>?_;subst J;refine rR Y (rR (show 100+i - 100=i by exact c8 (aT [eQ (Y0+100) (100+Y1)] (lE Y0 Y1) rfl (bX (fF ..))) (fz [eQ (Y1+100) (100+Y0)] (lE Y0 Y1) [-1] 1 rfl (bX (fF ..)))) ?_);have:H.getD i .none=ag.str ⟨#[c]⟩ u:=by refine rR (aTh) (rR z ?_);rfl
  refine rR this ?_;rfl
theorem aC2(hA:A.handled=none)(x:Str)(t:ab)(hn:x.cps.size<=gz):Told True (av w) A U fr aa (.call (.type "list") ⟨[.str x t],[]⟩) [] (λy=>⟨.ok (.ret (.ref (y 2))),[],[(y 2,listOf (on x.cps.toList y).toArray (y 3))],y 0,y 1⟩):=by
 refine λu s ak R hu Z v hR=>aCw (Q₁:=λY ba=>Y= .ref s.heap.objs.size/\ba={ s with heap:=s.heap.push { cls:= .type "list",data:= .seq #[] } }) F.called_list (F.typeCall_list_1 _) F.entry_list_init
  (code_list_new _ ⟨rfl,rfl⟩) λY ba ar=>?_;obtain⟨rfl,rfl⟩:=ar;have hS:(s.heap.push { cls:= .type "list",data:= .seq #[] }).get? s.heap.objs.size=some { cls:= .type "list",data:= .seq #[] }:=gY _ rfl;refine⟨⟨_,hS,rfl⟩,F.args_list_init_2 _ _,wpAny_list_init_str (A:={ A with units:=u }.in1) (hn:=hn) hA x t _ hS λh' tk C7 c' Y kE zZ=>?_⟩;have H:∀b o,s.heap.get? b=some o->h'.get? b=some o:=λb o e=>Y b o (du (dH e)) (cZ _ e);refine⟨rfl,?_⟩;have e2:on x.cps.toList (λi=>C6 (C7.getD (i - 100) .none))=on x.cps.toList (λi=>match i with|0=>h'.objs.size|1=>tk|2=>s.heap.objs.size|3=>c'|i=>C6 (C7.getD (i - 100) .none)):=by
  unfold on;refine jG λi=>?_;rw[gA,gA];induction x.cps.toList[i]? with
  |none=>rfl|some c=>refine rR (show 100+i=_+4 by exact c8 (bu [] (lE (100+Y0) (96+Y0+4)) rfl) (bu [] (lE (96+Y0+4) (100+Y0)) rfl)) ?_;rfl
 refine hR (λi=>match i with|0=>h'.objs.size|1=>tk|2=>s.heap.objs.size|3=>c'|i=>C6 (C7.getD (i - 100) .none)) { s with heap:=h',toks:=tk } rfl rfl rfl (λp J=>by
  rw[bI.mp J];induction z:s.heap.get? s.heap.objs.size with
  |none=>rfl|some o'=>exact absurd (dH z) (jH _)) ?_ λb o e j=>H b o e;refine⟨⟨λp J=>?_,ci.mpr ⟨bi,bN⟩,λb o e=>H b o (Z.h.keep b o e),λp J=>?_⟩,Z.os,Z.gens, .inl True.intro⟩;·exact rR (bI.mp J) (rL e2 (rL (aC1 zZ) kE))
 ·rw[bI.mp J];induction z:aa.get? s.heap.objs.size with
  |none=>rfl|some o=>exact absurd (dH (Z.h.keep _ _ z)) (jH _)
abbrev C8(H:ab):Obj:=nc (⟨.type "slice",none, .fields #[.none, .none, .int (-1) H],#[]⟩)
theorem aC3(x:Str)(u:ab):(Xg x none none (-1,u)).cps.toList=x.cps.toList.reverse:=by
 rw[step_rev_list];refine jG λi=>?_;rw[dL];by_cases h:i< x.length
 ·have H:x.cps.toList.length=x.length:=rfl;simp only[Xh h,List.getElem?_reverse (h),H];show some _=x.cps.toList[x.length - 1 - i]?;have H:x.length - 1 - i< x.cps.size:=qN [eQ (Y0+Y2) Y3,eQ (Y3+1) Y1] (lL Y0 Y1) rfl (bX (cz [lL Y0 Y2,eQ (Y1+1) Y2] (lE Y0 Y1) [1,-1] 1 rfl h (bX (aT [lL Y1 Y0] (lE 1 Y0) rfl h)))) (bX (aT [lL Y1 Y0] (lE 1 Y0) rfl h));simp only[B3,yZ H,aTh,yZ H];rfl
 ·rw[uT (by exact rR Xi (aT [lE Y0 Y1] (lE Y0 Y1) rfl (dw.mp h))),uT (by exact rR uU (aT [lE Y0 Y1] (lE Y0 Y1) rfl (dw.mp h)))];rfl
theorem aC4(x:Str)(t:ab)(S:af)(H:ab)(Z:x.length<=gz):Told ao (av w) A U fr aa (bC "str.__getitem__" [.str x t, .ref S]) [(S,C8 H)] (λy=>⟨.ok (.ret (.str ⟨x.cps.toList.reverse.toArray⟩ (y 2))),[(S,C8 H)],[],y 0,y 1⟩):=by
 refine λu s ak R Y J z hR=>dJ FY.plain Xj (FY.check _ _ _ _ _ _ _ _ (ib ..) (Xk _ _) (aTi x t S none none (some (-1,H)) rfl _ _ _ _ s ⟨(⟨_,J.h.at_ _ az,rfl,rfl⟩),?_⟩));have e1:(⟨((slicePicked x none none (some (-1,H))).filterMap (x.cps[·]?)).toArray⟩:Str)=⟨x.cps.toList.reverse.toArray⟩:=by
  have h:=aC3 x H;have Y:Xg x none none (-1,H)=⟨((slicePicked x none none (some (-1,H))).filterMap (x.cps[·]?)).toArray⟩:=by unfold Xg;rw[if_neg];intro q;simp only[gw]at q;exact absurd (show((-1:Int)==1)=true from q.1) (by decide)
  rw[Y]at h;exact rL (congrArg cE h) rfl
 unfold Mp;refine rR e1 ⟨?_,?_⟩
 ·show x.cps.toList.reverse.toArray.size<=gz;exact rR py (rR uU Z)
 ·exact hR (λi=>bif bY i 0 then s.heap.objs.size else bif bY i 1 then s.toks+1 else s.toks) _ rfl rfl rfl (λp H=>absurd H bi) ⟨J.h,J.os,J.gens,J.same⟩ λb o H J=>H
def OS(J:af)(H Y:ag):FuncData:=sF (oS (NH (jM 20))[(1:Nat)]?) default λname args body scope j=>{ name,qualname:="_law_stream.<locals>._law_source",params:=args,body:= .stmts body,scope,globals:=3,closure:=[("signs",J)],defaults:= .none,kwdefaults:= .none,doc:= .none,pyModule:= .str "law_sc0109_01" 652,annotations:=none,code:=H,closureTuple:=Y,builtins:=0 }
abbrev z7(A:Nat):Obj:=nc (jI #[.int 354 0, .int 4 0, .ref (A+6), .int 356 0, .int 23 0, .ref (A+14)])
abbrev OT(A B:Nat):List Value:=nc ([.str "/claim/cut.py" (B+9), .int 356 0, .int 1 0, .int 0 0, .int 0 0, .int 19 0, .ref (A+9), .bool true, .int 276 0, .ref (A+10), .none, .ref (A+11), .ref (A+12), .ref (A+13), .int (B+12:Nat) 0, .int 356 0, .str "/claim/cut.py" (B+13)])
abbrev aC5(w:aj)(S A B:Nat)(sl:af)(vs:List ag)(e:Nat):List (af×aq):=[(A+7,GJ (OS (S+1) (.ref (A+6)) (.ref A)) (some (A+16))),(A+16,GM w (A+15) (B+15)),(A+15,GL xj (S+1) (.str "law_sc0109_01" 652) (A+14) (.ref (A+8))),(A+14,⟨.type "code",none, .fields (.str "<lambda>" (B+7):: .str xj (B+8)::OT A B).toArray,#[]⟩),(S+1,⟨.type "cell",none, .cell (some (.ref sl)),#[]⟩),(sl,listOf vs.toArray e)]
abbrev HM(w:aj)(T:Str)(y:Nat->Nat):Out:=⟨.ok (.ret (.ref (y 1+7))),[(252,z7 (y 1))],aC5 w (y 0) (y 1) (y 2) (y 3) (on T.cps.toList.reverse λi=>y (i+1)) (y 4),y 1+17,y 2+16⟩
def OU:List Nat:=(dN 44 0xa84215252902409a0000a528e031800018c61803188400080000841)
abbrev OV(T:Str)(t:ab)(sz tk:Nat):aF:= .cons (some 0) (bC "str.__getitem__" [.str T t, .ref (sz+2)]) [0] [(sz+2,C8 (tk+2))] (λy=>⟨.ok (.ret (.str ⟨T.cps.toList.reverse.toArray⟩ (y 2))),[(sz+2,C8 (tk+2))],[],y 0,y 1⟩) λa=> .cons (some 0) (.call (.type "list") ⟨[.str ⟨T.cps.toList.reverse.toArray⟩ (a 2)],[]⟩) [] [] (λy=>⟨.ok (.ret (.ref (y 2))),[],[(y 2,listOf (on T.cps.toList.reverse y).toArray (y 3))],y 0,y 1⟩) λb=> .nil
abbrev lsW(sz tk:Nat)(H:Xs)(i:Nat):Nat:=nc (r9 (motive:=λ_=>Nat) i sz λj=>H 1 j)
theorem aC6(w:aj)(T:Str)(t:ab)(sz tk:Nat)(H:Xs):Ends [9,0,1,2,19,17,21] ((aI w 2 0 none 900).C [] H ⟨[(252,jI #[])],sz,tk,OU,OV T t sz tk⟩ (gF 257 [.str T t]) fin) (bW (HM w T (lsW sz tk H))):=by kernel_rfl
theorem aC7(Y:aK w aa)(J:aa.NoLimit)(T:Str)(t:ab)(hn:T.length<=gz):Any True w aa 2 (gF 257 [.str T t]) [(252,jI #[])] (HM w T):=bS Y J 900 OU [9,0,1,2,19,17,21] (OV T t) (by decide) _ (λz=>rfl) (λJ J sz tk J=>
  ⟨rfl,by decide,λH z z=>aC4 T t _ _ hn,λx z z=>⟨rfl,bN,λH J z=>by have:=aC2 (w:=w) (U:=H.units) (fr:=none) (aa:=aa) J ⟨T.cps.toList.reverse.toArray⟩ (x 2) (rR py (rR uU hn));exact this,λz z z=>True.intro⟩⟩) λsz tk H=>aC6 ..
theorem aC8(l:List (Nat×ab)):rv l=l.reverse.map λc=>ag.str ⟨#[c.1]⟩ c.2:=by
 induction l with
 |nil=>rfl|cons c l ih=>refine rR Xl (rR bM (rL ih ?_));rfl
theorem aC9(l:List Nat)(y:Nat->Nat):∃p:List (Nat×ab),p.map (·.1)=l/\on l.reverse y=rv p:=by
 refine⟨(l.reverse.mapIdx λi c=>(c,y (100+i))).reverse,?_,?_⟩
 ·rw[aTj];have:(l.reverse.mapIdx λi c=>(c,y (100+i))).map (·.1)=l.reverse:=by refine jG λi=>rR (dL) (rR (gA) ?_);induction l.reverse[i]?<;>rfl
  rw[this,aTk]
 ·simp only[aC8,aTk];unfold on;refine jG λi=>?_;simp only[dL,gA,gA];induction l.reverse[i]?<;>rfl
abbrev b2(id:String)(a b:ag):Code:=nc (.call (.builtin id) ⟨[a,b],[]⟩)
abbrev xG(a b c:ag):Obj:=nc (⟨.type "slice",none, .fields #[a,b,c],#[]⟩)
abbrev iR(id:String)(a b:Int)(r:Bool)(t u:ab)(next:aM):aF:=cK id [.int a t, .int b u] (λ_=> .bool r) next
abbrev HO(f:String)(a b:Int)(t u:ab):Code:=nc (.call (.builtin f) ⟨[.int a t, .int b u],[]⟩)
abbrev vE(f:String)(a b m:Int)(t u:ab)(next:aM):aF:= .cons (some 2) (HO f a b t u) [] [] (λy=>⟨.ok (.ret (.int m (y 2))),[],[],y 0,y 1⟩) next
section
variable {next:aM}{r:Bool}
theorem HP(H:decide (a< b)=r)(k:bJ next ao w A U fr aa):(iR "int.__lt__" a b r t u next).Ok ao (av w) A U fr aa lv:=dY (λz=>eM (r:=λz=> .bool r) PySem.F.slot_int_lt PySem.F.entry_int_lt (PySem.F.args_int_lt_2 _ _) (aW7 a t b u) (λs=>jJ ..) λQ s h=>by have:=h 0 s.toks;rw[<-H]at this;exact this) λe z=>k e lv
theorem qZ(H:decide (a>b)=r)(k:bJ next ao w A U fr aa):(iR "int.__gt__" a b r t u next).Ok ao (av w) A U fr aa lv:=dY (λz=>eM (r:=λz=> .bool r) PySem.F.slot_int_gt PySem.F.entry_int_gt (PySem.F.args_int_gt_2 _ _) (aW8 a t b u) (λs=>jJ ..) λQ s h=>by have:=h 0 s.toks;rw[<-H]at this;exact this) λe z=>k e lv
end
def OW(r:Bool):List Nat:=(dN 36 0x17c421884010041004211086210040104010041f08400)++((bif r then [1,1,1]else [])++(dN 15 0xc63088431080200820))
noncomputable def OX(t u:ab)(r:Bool)(H:Xs):Nat->Nat
 |0=>H 0 0+2|1=>H 0 1|_=>bif r then u else t
abbrev OY(m:Int):(Nat->Nat)->Out:=nc (λy=>⟨.ok (.ret (.int m (y 2))),[],[],y 0,y 1⟩)
section
variable (w:aj)(a b:Int)(t u:ab)(r:Bool)(sz tk:Nat)(σ:Xs)
theorem aDa:Ends [] ((aI w 2 0 none 500).C [] σ ⟨[],sz,tk,OW r,iR "int.__lt__" b a r u t λ_=> .nil⟩ (HO "min" a b t u) fin) (bW (OY (bif r then b else a) (OX t u r σ))):=by induction r<;>kernel_rfl
theorem aDb:Ends [] ((aI w 2 0 none 500).C [] σ ⟨[],sz,tk,OW r,iR "int.__gt__" b a r u t λ_=> .nil⟩ (HO "max" a b t u) fin) (bW (OY (bif r then b else a) (OX t u r σ))):=by induction r<;>kernel_rfl
end
section
variable (XK:aK w aa)(NL:aa.NoLimit){next:aM}{m:Int}
include XK NL
theorem C9(H:min a b=m)(k:bJ next ao w A U fr aa):(vE "min" a b m t u next).Ok ao (av w) A U fr aa lv:=⟨rfl,bN,by
  have h:(bif decide (b< a)then b else a)=m:=by
   refine rL H ?_;by_cases q:b< a;·rw[decide_eq_true q];exact bw (cN [eQ Y1 Y0] (lE Y0 Y1) [-1] 1 rfl (L6 (bR [lL Y0 Y1] (lE Y0 Y1) rfl q))) (bR [eQ Y0 Y1] (lE Y0 Y1) rfl (L6 (bR [lL Y0 Y1] (lE Y0 Y1) rfl q)))
   ·rw[decide_eq_false q];exact bw (cN [eQ Y1 Y0] (lE Y0 Y1) [-1] 1 rfl (BF ((fG.mp q)))) (bR [eQ Y0 Y1] (lE Y0 Y1) rfl (BF ((fG.mp q))))
  exact h▸bS XK NL 500 _ [] (λz z=>iR "int.__lt__" b a _ u t λz=> .nil) bN _ (λz=>rfl) (λH H z z z=>HP rfl λz z=>True.intro) λsz tk H=>aDa ..,λe z z=>by simpa only[wT,dQ]using k e lv⟩
theorem aDc(H:max a b=m)(k:bJ next ao w A U fr aa):(vE "max" a b m t u next).Ok ao (av w) A U fr aa lv:=⟨rfl,bN,by
  have h:(bif decide (b>a)then b else a)=m:=by
   refine rL H ?_;by_cases q:b>a;·rw[decide_eq_true q];exact bw (cN [eQ Y1 Y0] (lE Y0 Y1) [-1] 1 rfl (Xm (bR [lL Y0 Y1] (lE Y0 Y1) rfl q))) (bR [eQ Y0 Y1] (lE Y0 Y1) rfl (Xm (bR [lL Y0 Y1] (lE Y0 Y1) rfl q)))
   ·rw[decide_eq_false q];exact bw (cN [eQ Y1 Y0] (lE Y0 Y1) [-1] 1 rfl (Xn ((fG.mp q)))) (bR [eQ Y0 Y1] (lE Y0 Y1) rfl (Xn ((fG.mp q))))
  exact h▸bS XK NL 500 _ [] (λz z=>iR "int.__gt__" b a _ u t λz=> .nil) bN _ (λz=>rfl) (λH H z z z=>qZ rfl λz z=>True.intro) λsz tk H=>aDb ..,λe z z=>by simpa only[wT,dQ]using k e lv⟩
end
theorem aDd{b:Builtin}{args:List ag}(Z:builtinKind id=none)(Y:Xo id=true)(hb:me gy id=some b)(ha:lc id ⟨args,[]⟩)(J:aG (aR prog w) A.in1 (b ⟨args,[]⟩) (λH s'=>match H with| .done f=>R (.ok f) s'| .again c'=>c'.quiet=true/\eC (aR prog w) A c' R s') (λe s'=>R (.error e) s') s):eC (aR prog w) A (.call (.builtin id) ⟨args,[]⟩) R s:=by
 refine dJ Y hb ?_;simp only[aTl,Z];induction HQ:aTm id with
 |none=>exact aH J|some sig=>
  have H:aTn id sig ⟨args,[]⟩=pure ():=by simpa only[lc,HQ]using ha
  simp only[H];exact aH J
theorem OZ(hA:A.handled=none)(l:af)(vs:List ag)(e:Nat)(hI:Xp vs.toArray):Told ao (av w) A U fr aa (bC "sum" [.ref l]) [(l,listOf vs.toArray e)] (λy=>⟨.ok (.ret (.int (y4 vs).sum (y 2))),[(l,listOf vs.toArray e)],[],y 0,y 1⟩):=by
 intro u s ak R hu H j hR;obtain⟨xs,O1⟩:=hI.items;have dm:∀h' tk J,(∀b o,s.heap.get? b=some o->h'.get? b=some o)->R (.ok (.ret (.int (preSum _ xs.size) J))) { s with heap:=h',toks:=tk }:=λh' tk J Y=>by
  have e1:preSum (numAt xs) xs.size=(y4 vs).sum:=by have:=nums_intItems (xs:=xs);rw[<-O1]at this;rw[show vs=vs.toArray.toList from rfl,this,preSum_eq,Mq (by simp)]
  exact rR e1 (hR (λi=>bif bY i 0 then h'.objs.size else bif bY i 1 then tk else J) _ rfl rfl rfl (λp hp=>absurd hp bi)
   ⟨⟨λp hp=>Y _ _ (H.h.at_ p hp),H.h.nd,λb o e=>Y _ _ (H.h.keep b o e),H.h.off⟩,H.os,H.gens,H.same⟩ λb o e z=>Y b o e)
 refine aDd F.kind_sum F.plain_sum F.entry_sum (F.args_sum1 _) ?_;unfold Builtin.«sum»;refine au (jd (show aW9 "sum" ["start"] 0 { }=pure [none]from rfl) ?_);refine au (iter_intList (⟨_,(H.h.at_ _ az),rfl,e,rL O1 rfl⟩) λH Z st Da hlI=>?_);subst Z;refine au (wpAny_mkInt ?_);refine au (aH ?_);refine au (au (au (mT (jJ ..) PySem.sub_int_str ?_)));refine aH (au (au (mT (jJ ..) PySem.sub_int_bytes ?_)));refine aH (au (au (mT (jJ ..) PySem.sub_int_bytearray ?_)));refine aH (aH ?_);refine au (kb ?_);have W:=aTo (prog:=Rw.prog) (w:=w) (A:=({ A with units:=u }:aD).in1) hA s.heap.objs.size l hlI (Mr xs);refine aH ⟨FZ F.plain_sum_loop _,codeAny_sum_loopG W _ (λz z=>intItems_at) _ (λZ=>jH _ (Da _ Z)) (Mr xs).size 0 _ _ 0 0 (Or.inl rfl) rfl (fZ _)
  (W.frame _ _ _ st λb z o e=>cZ _ e) (gY _ rfl) λh' tk J Y=>?_⟩;have H:(Mr xs).size=xs.size:=by simp[Mr]
 refine rR H (dm h' tk J λb o e=>?_);have H:=dH e;refine Y b o (λZ=>?_) (λq=>?_) (cZ _ (cZ _ e));·rw[bI.mp Z]at H;exact jH _ H
 ·rw[q]at H;exact absurd (show(s.heap.push _).objs.size< s.heap.objs.size from H) (rR (qv ..) (dw.mpr (fF ..)))
theorem aDf(l:af)(d:Option af)(vs:List ag)(e:Nat)(sl:Array (Option ag))(S:af)(Z Y vt:ag)(lo hi J:Option Int)(pl:qx Z lo)(pu:qx Y hi)(ps:qx vt J)(h0:J≠some 0)(fM:vs.length<=gz):Told ao (av w) A U fr aa (b2 "list.__getitem__" (.ref l) (.ref S)) [(l,⟨.type "list",d, .seq vs.toArray e,sl⟩),(S,xG Z Y vt)] (λy=>⟨.ok (.ret (.ref (y 2))),[(l,⟨.type "list",d, .seq vs.toArray e,sl⟩),(S,xG Z Y vt)],[(y 2,listOf (y5 vs.toArray lo hi J).toList.toArray 0)],y 0,y 1⟩):=by
 intro u s ak R hu H v hR;have ho:=H.h.at_ _ az;have gn:=H.h.at_ _ (aB az);have hl:s.heap.IsList l vs.toArray:=⟨_,ho,rfl,e,rfl⟩
 have O2:s.TypeIs (.ref S) "slice":=⟨_,gn,rfl⟩
 refine dJ B4.plain Xq (B4.check _ _ _ _ _ _ _ _ hl.typeIs (Xr _ _) ?_);show aG _ _ (Xu _>>=_) ..;refine au (au (Xv O2 slice_no_index ?_));refine aH (au (uV O2 ?_));have z8:¬((rawPart J==eI 0)=true):=by
  induction J with
  |none=>exact F6|some c=>
   intro hh;have:c=0:=by simpa [rawPart,eI]using hh
   exact h0 (rR this rfl)
 refine au (au (jb gn rfl (x:=vt) rfl (au (Xw ps ?_))));refine rR (if_neg z8) (au (jb gn rfl (x:=Z) rfl (au (Xw pl ?_))));refine au (jb gn rfl (x:=Y) rfl (au (Xw pu (aH ?_))));refine au (au (wU ho rfl (aH ?_)));refine au (jd (sliceIndices_raw lo hi J vs.toArray.size h0) ?_);refine au (kb (aH ?_) (aE (aTp ..) fM));exact hR (λi=>match i with|0=>s.heap.objs.size+1|1=>s.toks|_=>s.heap.objs.size) { s with heap:=s.heap.push _ } (qv ..) rfl rfl (λp J=>by
  refine rR (bI.mp J) ?_;induction z:s.heap.get? s.heap.objs.size with
  |none=>rfl|some o'=>exact absurd (dH z) (jH _)) ⟨H.h.alloc rfl,H.os,H.gens,H.same⟩ λb o e j=>cZ _ e
theorem aDg(P:af)(vs:List ag)(e:Nat)(k:Int)(j:Nat)(x:ag)(t:ab)(Y:(decide (k< -(2 ^ 63:Int))||decide (k>=2 ^ 63))=false)(hj:pA k vs.length=some j)(Z:vs[j]?=some x):Told ao (av w) A U fr aa (b2 "tuple.__getitem__" (.ref P) (.int k t)) [(P,⟨.type "tuple",none, .seq vs.toArray e,#[]⟩)] (λy=>⟨.ok (.ret x),[(P,⟨.type "tuple",none, .seq vs.toArray e,#[]⟩)],[],y 0,y 1⟩):=by
 intro u s ak R hu H z hR;have J:Xd s.heap P vs.toArray:=⟨_,(H.h.at_ _ az),rfl,e,rfl⟩
 refine dJ aTq.plain entry_tuple_getitem (aTq.check _ _ _ _ _ _ _ _ J.typeIs (args_tuple_getitem _ _) ?_);show aG _ _ (aTr _>>=_) ..;refine au (tupleItemsOf_ J ?_);refine au (uV (jJ ..) ?_);refine au (Xv (jJ ..) int_index ?_);refine au (jd rfl ?_);refine rR (if_neg (by rw[Y];decide)) ?_;have J:pA k vs.toArray.size=some j:=hj;have Y:vs.toArray[j]?=some x:=rR (Ms) Z;simp only[J,Mt,Y];exact aH (hR (λi=>bif bY i 0 then s.heap.objs.size else s.toks) s rfl rfl rfl (λp J=>absurd J bi) ⟨H.h,H.os,H.gens,H.same⟩ λb o H J=>H)
structure RT where
 v1:List ag
 v2:List ag
 s:Int
 dp:Int
 j1:Nat
 j2:Nat
 j3:Nat
 j4:Nat
 n1:Str
 n2:Str
 nm:Str
 sh:Int
 va:Int
abbrev iS(d:Option af)(vs:List ag)(e:Nat)(sl:Array (Option ag)):Obj:=nc (⟨.type "list",d, .seq vs.toArray e,sl⟩)
def z9(b:Nat):List Value:=nc ([.str "" (b+6), .str "a" (b+7), .str "&" (b+8), .str "<" (b+9), .str ">" (b+10), .str "\"" (b+11), .str "\\" (b+12), .str " " (b+13), .str "\n" (b+14), .str "\t" (b+15), .str "\r" (b+16)])
def Aa(b:Nat):List Value:=nc ([.int 4 (b+18), .int 3 (b+19), .int 2 (b+20), .int 1 (b+21), .int 4 (b+22), .int 3 (b+23), .int 2 (b+24), .int 0 (b+25)])
abbrev HT(vs:List ag):Obj:=nc (⟨.type "tuple",none, .seq vs.toArray 0,#[]⟩)
abbrev Ab(p:Nat)(P:af)(vs:List ag)(k:Int)(t:ab)(x:ag)(next:aM):aF:= .cons (some 0) (b2 "tuple.__getitem__" (.ref P) (.int k t)) [p] [(P,HT vs)] (λy=>⟨.ok (.ret x),[(P,HT vs)],[],y 0,y 1⟩) next
abbrev Dc(p:Nat)(l:af)(o:aq)(S:af)(so:aq)(vs:List ag)(next:aM):aF:= .cons (some 0) (b2 "list.__getitem__" (.ref l) (.ref S)) [p,0] [(l,o),(S,so)] (λy=>⟨.ok (.ret (.ref (y 2))),[(l,o),(S,so)],[(y 2,aA vs 0)],y 0,y 1⟩) next
abbrev O3(p:Nat)(l:af)(vs:List ag)(e:Nat)(s:Int)(next:aM):aF:= .cons (some 0) (bC "sum" [.ref l]) [p] [(l,aA vs e)] (λy=>⟨.ok (.ret (.int s (y 2))),[(l,aA vs e)],[],y 0,y 1⟩) next
abbrev lC(h:Int)(T:RT):Int:=nc ((h+T.s).fmod 4460544)
def Ac(P:Nat)(S:af)(so:aq)(sz b:Nat)(h:Int)(H:af)(t:ab)(k:Int)(Y:ab)(J:Int)(T:RT)(next:(Nat->Nat)->(Nat->Nat)->(Nat->Nat)->aF):aF:=Dc P S so H (xG .none (.int 60 t) .none) T.v1 λH=>Dc 1 (H 2) (listOf T.v1.toArray 0) (H 0) (xG (.int k Y) .none (.int 4 (H 1))) T.v2 λH=>O3 0 (H 2) T.v2 0 T.s λH=>
 vE "min" J (1+(lC h T).fmod 3) T.dp (H 1+5) (H 1+9) λH=>Ab P (sz+2) (z9 b) (((lC h T).fdiv 3).fmod 11) (H 1+4) (.str T.n1 (b+6+T.j1)) λJ=>Ab P (sz+2) (z9 b) (((lC h T).fdiv 33).fmod 11) (J 1+3) (.str T.n2 (b+6+T.j2)) λJ=>
 cP T.n1 T.n2 T.nm (b+6+T.j1) (b+6+T.j2) λJ=>Ab (P - 1) (sz+3) (Aa b) ((((lC h T).fdiv 363).fdiv 192).fmod 8) (J 1+13) (.int T.sh (b+18+T.j3)) λY=>Ab (P - 1) (sz+3) (Aa b) (((lC h T).fdiv 363).fdiv 1536) (Y 1+1) (.int T.va (b+18+T.j4)) λY=>next H J Y
def lrO(S:af)(so:aq)(T:Nat->RT)(sz b:Nat):aF:=Ac 8 S so sz b 5514 (sz+7) (b+36) 0 (b+34) 0 (T 0) λ_ _ x=>Ac 13 S so sz b 693213 (x 0+1) (x 1+2) 1 (x 1) ((T 0).dp+1) (T 1) λ_ _ x=>Ac 18 S so sz b 163261 (x 0+1) (x 1+2) 2 (x 1) ((T 1).dp+1) (T 2) λ_ _ x=>Ac 23 S so sz b 1603350 (x 0+1) (x 1+2) 3 (x 1) ((T 2).dp+1) (T 3) λ_ _ _=> .nil
def xH(h:Int)(T:RT)(k:Nat)(y:Nat->Nat):af×Obj:=(y k,HT [.int T.dp (y (k+1)), .str T.nm (y (k+2)), .int (((lC h T).fdiv 363).fmod 3) (y (k+3)), .int ((((lC h T).fdiv 363).fdiv 3).fmod 64) (y (k+4)), .int T.sh (y (k+5)), .int T.va (y (k+6))])
def Dd(S:af)(so:aq)(T:Nat->RT)(y:Nat->Nat):Out:=⟨.ok (.ret (.ref (y 2))),[(S,so)],[(y 2,listOf [aN (y 3), .ref (y 10), .ref (y 17), .ref (y 24)].toArray 4),xH 5514 (T 0) 3 y,xH 693213 (T 1) 10 y,xH 163261 (T 2) 17 y,xH 1603350 (T 3) 24 y],y 0,y 1⟩
def De(b:Nat)(T:RT)(a c d:Nat->Nat):List Nat:=nc ([d 0,a 2,c 2,c 1+5,c 1+9,b+18+T.j3,b+18+T.j4])
def lrY(T:Nat->RT)(sz b:Nat)(H:Xs)(i:Nat):Nat:=([H 35 0+3,H 35 1,sz+4]++(De b (T 0) (H 3) (H 6) (H 8)++(De b (T 1) (H 12) (H 15) (H 17)++(De b (T 2) (H 21) (H 24) (H 26)++De b (T 3) (H 30) (H 33) (H 35))))).getD i 0
def lrA:List Nat:=(dN 123 0x2108020024210002d62421000000b5800002c005ad6739ceb5ac005ad6212529000005ac494a4000016b5ac400000b0016002d600000200842124494a4e001806018c639ce7084210842008020)
def lrD:List Nat:=(dN 123 0x421004000842000420084200000108000004000842108421084000842000421000000840108400000210840000001000200042000000000000040108420004010042108421084210842008020)
def HU(n:Nat):List Nat:=List.zipWith (λx d=>x+d*n) lrA lrD
def O4:List Nat:=(dN 38 0x210840107c21080200840000000294002948418c4200421)++(HU 0++(HU 5++(HU 10++(dN 134 0x3a00d6b50541505ef705c02bdee006b42bdee00001ad000006800d6b56b5adad6800d6b421631800000d6858c60000035ad68400001a0034006b40000020084216058c62c005415056b5b5ad6842108420080200))))
theorem aDh(w:aj)(S:af)(d:Option af)(vs:List ag)(e:Nat)(sl:Array (Option ag))(T:Nat->RT)(sz tk:Nat)(H:Xs):Ends [24,17,12,7,2,29] ((aI w 4 0 none 1500).C [] H ⟨[(S,iS d vs e sl)],sz,tk,O4,lrO S (iS d vs e sl) T sz tk⟩ (gF 238 [.ref S]) fin) (bW (Dd S (iS d vs e sl) T (lrY T sz tk H))):=by kernel_rfl
structure xI(k:Int)(n j:Nat):Prop where
 f:(decide (k< -(2 ^ 63:Int))||decide (k>=2 ^ 63))=false
 j:pA k n=some j
structure RT.Ok(vs:List ag)(h:Int)(k:Int)(d:Int)(T:RT):Prop where
 e1:(y5 vs.toArray none (some 60) none).toList=T.v1
 e2:(y5 T.v1.toArray (some k) none (some 4)).toList=T.v2
 ai:Xp T.v2.toArray
 s:(y4 T.v2).sum=T.s
 dp:min d (1+(lC h T).fmod 3)=T.dp
 a1:xI (((lC h T).fdiv 3).fmod 11) 11 T.j1
 g1:∀b,(z9 b)[T.j1]?=some (.str T.n1 (b+6+T.j1))
 a2:xI (((lC h T).fdiv 33).fmod 11) 11 T.j2
 g2:∀b,(z9 b)[T.j2]?=some (.str T.n2 (b+6+T.j2))
 nm:T.n1++T.n2=T.nm
 nz:T.n1.length+T.n2.length<=100
 a3:xI ((((lC h T).fdiv 363).fdiv 192).fmod 8) 8 T.j3
 g3:∀b,(Aa b)[T.j3]?=some (.int T.sh (b+18+T.j3))
 a4:xI (((lC h T).fdiv 363).fdiv 1536) 8 T.j4
 g4:∀b,(Aa b)[T.j4]?=some (.int T.va (b+18+T.j4))
section
theorem Df{p:Nat}{P:af}{k:Int}{x:ag}{next:aM}(hn:vs.length=n)(h:xI k n j)(H:vs[j]?=some x)(c:bJ next True w A U fr aa):(Ab p P vs k t x next).Ok True (av w) A U fr aa lv:=by subst hn;exact⟨rfl,ci.mpr ⟨bi,bN⟩,λJ z z=>aDg P vs 0 k j x t h.f h.j H,λy z z=>c y _⟩
theorem HW{p:Nat}(hp:p≠0){l:af}{d:Option af}{e:Nat}{Y J vt:ag}{lo Z H:Option Int}(pl:qx Y lo)(pu:qx J Z)(ps:qx vt H)(h0:H≠some 0)(fM:vs.length<=gz){v:List ag}(hv:(y5 vs.toArray lo Z H).toList=v){next:aM}(c:bJ next True w A U fr aa):(Dc p l (iS d vs e sl) S (xG Y J vt) v next).Ok True (av w) A U fr aa lv:=by subst hv;exact⟨rfl,ci.mpr ⟨λh=>hp (bI.mp h),ci.mpr ⟨bi,bN⟩⟩,λA' z z=>aDf l d vs e sl S Y J vt lo Z H pl pu ps h0 fM,λy z z=>c y _⟩
theorem Dg(XK:aK w aa)(Y:aa.NoLimit){P:Nat}(hP:P≠0){d:Option af}{e:Nat}(hz:vs.length<=100){b:Nat}{h:Int}{s1:af}{k:Int}{tK:ab}{J:Int}{T:RT}(H:T.Ok vs h k J){next:(Nat->Nat)->(Nat->Nat)->(Nat->Nat)->aF}(c:∀x y z lv,(next x y z).Ok True (av w) A U fr aa lv):(Ac P S (iS d vs e sl) sz b h s1 t k tK J T next).Ok True (av w) A U fr aa lv:=by
 have J:=nO;have J:T.v1.length<=100:=by exact rL H.e1 (rR nP (aE (aTp ..) hz))
 refine HW hP qx.none (Mu _ _) qx.none nofun (by omega) H.e1 λJ j=>HW (by decide) (Mu _ _) qx.none (Mu _ _) (by decide) (by omega) H.e2 λx1 j=>⟨rfl,ci.mpr ⟨bi,bN⟩,λA' Z j=>?_,λJ j j=>C9 XK Y H.dp λJ j=>Df rfl H.a1 (H.g1 _) λJ j=>Df rfl H.a2 (H.g2 _) λJ j=>nZ H.nm (by have:=H.nz;omega) λJ j=>Df rfl H.a3 (H.g3 _) λJ j=>Df rfl H.a4 (H.g4 _) λJ j=>c ..⟩
 have:=OZ (ao:=True) (w:=w) (U:=A'.units) (fr:=none) (aa:=aa) Z (x1 2) T.v2 0 H.ai;rw[H.s]at this;exact this
end
theorem aDi(J:aK w aa)(H:aa.NoLimit)(S:af)(d:Option af)(vs:List ag)(e:Nat)(sl:Array (Option ag))(Y:vs.length<=100)(T:Nat->RT)(o0:(T 0).Ok vs 5514 0 0)(o1:(T 1).Ok vs 693213 1 ((T 0).dp+1))(Z:(T 2).Ok vs 163261 2 ((T 1).dp+1))(o3:(T 3).Ok vs 1603350 3 ((T 2).dp+1)):Any True w aa 4 (gF 238 [.ref S]) [(S,iS d vs e sl)] (Dd S (iS d vs e sl) T):=bS J H 1500 O4 [24,17,12,7,2,29] _ (by decide) _ (λz=>rfl) (λA' hA sz tk hl=>by exact Dg J H (by decide) Y o0 λz z z z=>Dg J H (by decide) Y o1 λz z z z=>Dg J H (by decide) Y Z λz z z z=>Dg J H (by decide) Y o3 λz z z z=>True.intro) λsz tk H=>aDh ..
section
variable {a b ro:List (af×aq)}
theorem kF(J:ay True aa ak (a++ro) s):ay True (gZ s.heap (a.map (·.1))) ak a s/\(∀p∈ro,(gZ s.heap (a.map (·.1))).get? p.1=some p.2)/\(∀b o,aa.get? b=some o->(gZ s.heap (a.map (·.1))).get? b=some o):=by
 have Z:=J.h.nd;rw[bM,fi]at Z;refine⟨⟨⟨λp H=>J.h.at_ p (bL _ H),Z.1,λb o e=>y6 _ e,λp H=>y7 _ (b6 H)⟩,J.os,J.gens, .inl True.intro⟩,λp H=>?_,λb o e=>?_⟩;·exact kd _ (J.h.at_ p (bD _ H)) λY=>Z.2.2 _ Y _ (b6 H) rfl
 ·refine kd _ (J.h.keep b o e) λY=>aO (bq.mp Y) λp H eq1=>?_;subst eq1;have:=J.h.off p (bL _ H);replace this:=e▸this;injection this
theorem aDj(J:ay True aa ak (a++ro) s)(H:ay True (gZ s.heap (a.map (·.1))) ak b s')(G:Goes a s.heap b s'.heap):ay True aa ak (b++ro) s'/\Goes (a++ro) s.heap (b++ro) s'.heap:=by
 refine cI (kF J) λj h1 Z=>?_;have nd:=J.h.nd;rw[bM,fi]at nd;refine⟨⟨⟨λp hp=>?_,?_,λz o e=>H.h.keep z o (Z z o e),λp hp=>?_⟩,H.os,H.gens, .inl True.intro⟩,λz o e n=>G.keep z o e λp hp=>n p (bL _ hp),G.live,λp hp=>?_⟩
 ·rcases cq.mp hp with hp|hp
  ·exact H.h.at_ p hp
  ·exact H.h.keep _ _ (h1 p hp)
 ·rw[bM,fi];refine⟨H.h.nd,nd.2.1,λx hx y hy e=>?_⟩;obtain⟨p,hp,rfl⟩:=bq.mp hx;obtain⟨q,Y,rfl⟩:=bq.mp hy;have:=H.h.off p hp;simp only[e,h1 q Y]at this;injection this
 ·rcases cq.mp hp with hp|hp
  ·have o:=H.h.off p hp;induction z:aa.get? p.1 with
   |none=>rfl|some o'=>replace o:=(Z _ _ z)▸o;injection o
  ·exact J.h.off p (bD _ hp)
 ·rcases cq.mp hp with hp|hp
  ·rcases G.new p hp with h|⟨q,Y,e⟩
   ·exact .inl h
   ·exact .inr ⟨q,bL _ Y,e⟩
  ·exact .inr ⟨p,bD _ hp,rfl⟩
end
theorem q6{a b ro:List (af×aq)}(J:ay True aa ak (a++ro) s)(H:ay True (gZ s.heap (a.map (·.1))) ak b s'):ay True aa ak (b++ro) s':=by
 refine cI (kF J) λj h1 Y=>?_;have Z:=J.h.nd;rw[bM,fi]at Z;refine⟨⟨λp hp=>?_,?_,λz o e=>H.h.keep z o (Y z o e),λp hp=>?_⟩,H.os,H.gens, .inl True.intro⟩
 ·rcases cq.mp hp with hp|hp
  ·exact H.h.at_ p hp
  ·exact H.h.keep _ _ (h1 p hp)
 ·rw[bM,fi];refine⟨H.h.nd,Z.2.1,λx hx y hy e=>?_⟩;obtain⟨p,hp,rfl⟩:=bq.mp hx;obtain⟨q,hq,rfl⟩:=bq.mp hy;have:=H.h.off p hp;simp only[e,h1 q hq]at this;injection this
 ·rcases cq.mp hp with hp|hp
  ·have o:=H.h.off p hp;induction z:aa.get? p.1 with
   |none=>rfl|some o'=>replace o:=(Y _ _ z)▸o;injection o
  ·exact J.h.off p (bD _ hp)
theorem q7{a:af}{o J:aq}{post:List (af×aq)}(H:ay True ar ak (pre++(a,o)::post) s)(e:h'.get? a=some J)(Y:y8 a s.heap h'):ay True ar ak (pre++(a,J)::post) { s with heap:=h' }:=by
 have Z:(pre++(a,J)::post).map (·.1)=(pre++(a,o)::post).map (·.1):=by simp
 have J:=H.h.nd;have ne:∀p∈pre++post,p.1≠a:=λp hp q=>by rw[bM,iJ,(lh (a:=a)).nodup_iff]at J;exact(ci.mp J).1 (rL q (rL bM (b6 hp)))
 refine⟨⟨λp hp=>?_,Z▸J,λb J eb=>Y b J (λq=>?_) (H.h.keep b J eb),λp hp=>?_⟩,H.os,H.gens, .inl True.intro⟩
 ·rcases cq.mp hp with hp|hp
  ·exact Y _ _ (ne p (bL _ hp)) (H.h.at_ p (bL _ hp))
  ·rcases a9.mp hp with rfl|hp
   ·exact e
   ·exact Y _ _ (ne p (bD _ hp)) (H.h.at_ p (bD _ (aB hp)))
 ·have:=H.h.off _ (bD _ az);simp only[<-q,eb]at this;injection this
 ·have J:p.1∈(pre++_::post).map (·.1):=b6 hp;rw[Z]at J;exact aO (bq.mp J) λq J Y=>rL Y (H.h.off q J)
theorem q8{c:bB}(hk:nV w c n pre out){k:KX}(ok:k.Ok w)(hL:k.aa.objs.size<=k.L)(hn:k.dp+n< bk)(hU:U+40*n< dP)(aZ:∀b o,k.aa.get? b=some o->ar.get? b=some o){tJ ro:List (af×aq)}{fc:(Nat->Nat)->Out}(lD:pre.Perm (tJ++ro))(bZ:∀p∈ro,ar.get? p.1=some p.2/\p.1≠k.L/\k.aa.get? p.1=none)(f6:(ro.map (·.1)).Nodup)(ho:∀x,(fc x).res=(out x).res/\(fc x).new=(out x).new/\(fc x).sz=(out x).sz/\(fc x).tk=(out x).tk/\(out x).post.Perm ((fc x).post++ro))(hp:∀x,(fc x).post.map (·.1)=tJ.map (·.1)):Told True (av w) k.bE U (some k.L) ar c tJ fc:=by
 intro u s ak R hu H jo hR;obtain⟨⟨m,Z⟩,cA⟩:=jo k.L rfl;have lF:=λp=>@vk s.heap k.aa k.L (pre.map (·.1)) p;have aDk:∀p∈tJ,k.aa.get? p.1=none:=λp hp=>by
  have:=H.h.off p hp;induction z:k.aa.get? p.1 with
  |none=>rfl|some o=>replace this:=(aZ _ _ z)▸this;cases this
 have d9:∀p∈pre,s.heap.get? p.1=some p.2/\p.1≠k.L/\k.aa.get? p.1=none:=λp hp=>by
  rcases cq.mp (lD.mem_iff.mp hp)with hp|hp
  ·exact⟨H.h.at_ p hp,cA p hp,aDk p hp⟩
  ·exact⟨H.h.keep _ _ (bZ p hp).1,(bZ p hp).2⟩
 have nd:(pre.map (·.1)).Nodup:=by rw[(lD.map (·.1)).nodup_iff,bM,fi];refine⟨H.h.nd,f6,λx hx y hy e=>?_⟩;refine aO (bq.mp hx) λp hp eq2=>?_;subst eq2;obtain⟨q,hq,rfl⟩:=bq.mp hy;have:=H.h.off p hp;replace this:=((bZ q hq).1)▸(e▸this);cases this
 refine hk { k with un:=u } m _ s R ⟨ok.B,ok.X,ok.T,ok.C⟩ ⟨Z,λb o e=>H.h.keep b o (aZ b o e),hL⟩ (λp hp=>?_) nd (λq hq p hp e=>((lF q).mp hq).2.2.1 (e▸b6 hp)) hn (iH (yY hu _) hU) (H.gens True.intro) λx s' h1 h2 h3 h4 F' N' mo hf hl=>?_
 ·rcases cq.mp hp with hp|hp
  ·exact d9 p hp
  ·have:=(lF p).mp hp;exact⟨this.1,this.2.1,this.2.2.2⟩
 ·refine qI (ho x) λo1 o2 o3 o4 o5=>?_;have Y:∀b o,s.heap.get? b=some o->(∀p∈tJ,p.1≠b)->s'.heap.get? b=some o:=λb o e nb=>by
   by_cases q:b=k.L;·exact rR q (rR hl (rL q (rR e rfl)))
   ·cases z:k.aa.get? b with
    |some o'=>have:=H.h.keep b o' (aZ _ _ z);replace this:=e▸this;cases this;exact F'.keep b o z|none=>
     by_cases r:b∈ro.map (·.1)
     ·refine aO (bq.mp r) λp hp eq4=>?_;subst eq4;have:=H.h.keep _ _ (bZ p hp).1;replace this:=e▸this;cases this;exact(λp hp=>(N' p (bD _ (bL _ (o5.mem_iff.mpr (bD _ hp))))).1) p hp
     ·refine(N' _ (bD _ (bD _ ((lF (b,o)).mpr ⟨e,q,λZ=>?_,z⟩)))).1;refine aO (bq.mp Z) λp hp e'=>?_;rcases cq.mp (lD.mem_iff.mp hp)with hp|hp
      ·exact nb p hp e'
      ·exact r (bq.mpr ⟨p,hp,e'⟩)
  have J:∀p∈(out x).new,s.heap.get? p.1=none:=λp hp=>by
   have Np:=N' p (bL _ hp);cases z:s.heap.get? p.1 with
   |none=>rfl|some o=>
    refine absurd rfl (hf p hp (p.1,o) ?_);by_cases q:∃r∈pre,r.1=p.1
    ·refine aO q λr hr er=>?_;have:=(d9 r hr).1;replace this:=z▸(er▸this)
     injection this with this;subst this
     exact bL _ (er▸hr)
    ·exact bD _ ((lF _).mpr ⟨z,Np.2.1,λZ=>aO (bq.mp Z) λr hr e'=>q ⟨r,hr,e'⟩,Np.2.2⟩)
  refine rL o1 (hR x s' (h1.trans o3.symm) (h2.trans o4.symm) (hp x) (λp ir=>J p (o2▸ir)) ?_ Y);refine rR o2 ⟨⟨λp ir=>?_,?_,λb o e=>?_,λp ir=>?_⟩,h3.trans H.os,λj=>h4, .inl True.intro⟩
  ·rcases cq.mp ir with ir|ir
   ·exact(N' p (bL _ ir)).1
   ·exact(N' p ((λp hp=>bD _ (bL _ (o5.mem_iff.mpr (bL _ hp)))) p ir)).1
  ·rw[bM,fi];refine⟨mo,hp x▸H.h.nd,λa ha b hb e=>?_⟩;refine aO (bq.mp ha) λp ir eq3=>?_;subst eq3;rw[hp x]at hb;refine aO (bq.mp hb) λq hq eq1=>?_;subst eq1;exact hf p ir q (bL _ (lD.mem_iff.mpr (bL _ hq))) e.symm
  ·refine Y b o (H.h.keep b o e) λp Y q=>?_;have:=H.h.off p Y;replace this:=e▸(q▸this);injection this
  ·rcases cq.mp ir with ir|ir
   ·induction z:ar.get? p.1 with
    |none=>rfl|some o=>have:=J p ir;replace this:=(H.h.keep _ _ z)▸this;injection this
   ·have Z:p.1∈(fc x).post.map (·.1):=b6 ir;rw[hp x]at Z;exact aO (bq.mp Z) λq hq e=>rL e (H.h.off q hq)
def O5(x:Rs (β×WS)):Option (β×List (af×aq)×Nat×Nat):=nc (match x with
 |some p=>some (p.2.1,p.2.2.led,p.2.2.sz,p.2.2.tk)|none=>none)
abbrev bA(x:Rs (β×WS))(y:β×List (af×aq)×Nat×Nat):Prop:=(O5 x,NF x)=(some y,NG x)
theorem aDl{P:β×WS->Prop}{x:Rs (β×WS)}{y:β×List (af×aq)×Nat×Nat}(J:bA x y)(Y:∀r H,(r,H.led,H.sz,H.tk)=y->P (r,H)):Met P x:=by
 have e:O5 x=some y:=congrArg WW J;induction x with
 |none=>injection e|some p=>refine⟨p.1,_,rfl,λq Z=>?_,Y p.2.1 p.2.2 (dG e)⟩;obtain⟨i,hi⟩:=Me Z;have a:(p.1.map (·.1))[i]?=(p.1.map (·.2))[i]?:=congrArg (·[i]?) (congrArg wS J);simp only[dL,dL,hi]at a;exact dG a
theorem gK{K:uL}{t:ca α}{Q:α->am->Prop}(SR:ay ao aa ak pre s)(X:K.In aa)(hA:A.handled=none)(dep ub n:Nat)(Z:List Nat)(Y:aF)(gn:(∀p∈pre,p.1< s.heap.objs.size)->Y.Ok ao (aR prog w) A U fr aa (pre.map (·.1)))(hd:0< dep->aa.NoLimit/\A.depth+dep<=bk)(hU:A.units+ub<=U)(J:Xs->α)(led:Xs->List (af×aq))(sz tk:Xs->Nat)(e:∀H,bA ((run ⟨⟨prog,w.params⟩,K,dep,ub,fr⟩ n).S [] H ⟨pre,s.heap.objs.size,s.toks,Z,Y⟩ t fin) (.ok (J H),led H,sz H,tk H))(h:∀H s',ay ao aa ak (led H) s'->s'.heap.objs.size=sz H->s'.toks=tk H->Goes pre s.heap (led H) s'.heap->Q (J H) s'):aG (aR prog w) A t Q E s:=by
 refine(zz (P:=λo:Except ag α×WS=>∃H,(o.1,o.2.led,o.2.sz,o.2.tk)=(.ok (J H),led H,sz H,tk H)) X hA hd hU n).S [] ⟨pre,s.heap.objs.size,s.toks,Z,Y⟩ t fin Q E s ak ⟨SR,rfl,rfl⟩ ⟨_,λz=>id,gn SR.h.low⟩
  (λH=>aDl (e H) λr J h=>⟨H,h⟩) λr J s' F z G hm=>?_;obtain⟨j,j,e1,j,H,e2⟩:=hm λz z=>0;cases e1;simp only[si]at e2;obtain⟨rfl,e3,e4,e5⟩:=e2;exact h H s' (e3▸F.r) (F.sz.trans e4) (F.tk.trans e5) (e3▸G)
section
theorem O6{Q:dk->d5->am->Prop}{H:ag->d5->am->Prop}{b:List ck}:∀{a:List ck}{p:d5}{s:am},Mv M Γ (aV a env) (λf J s'=>match f with| .next=>Mv M Γ (aV b env) Q H J s'|f=>Q f J s') H p s->Mv M Γ (aV (a++b) env) Q H p s
 |[],p,s,h=>h|st::a,p,s,h=>by
  rw[sn,execs_cons,aTs];rw[execs_cons,aTs]at h;refine aTt M Γ _ (λf J s' h'=>?_) (λz z z h'=>h') _ _ h;induction f with
  |next=>exact O6 h'|_=>exact h'
theorem da{a b:List ck}(h:aG M A (aV a env) (λf s'=>match f with| .next=>aG M A (aV b env) Q E s'|f=>Q f s') E s):aG M A (aV (a++b) env) Q E s:=λΓ p H=>by
 refine O6 (aTt M Γ _ (λf J s' h'=>?_) (λz z z h'=>h') _ _ (h Γ p H));induction f with
 |next=>exact h' Γ J H|_=>exact h'
end
section
variable {a ro led l':List (af×aq)}
theorem bj(H:ay True ar ak led s)(p:led.Perm l'):ay True ar ak l' s:=⟨⟨λq J=>H.h.at_ q (p.mem_iff.mpr J),((p.map (·.1)).nodup_iff).mp H.h.nd,H.h.keep,λq J=>H.h.off q (p.mem_iff.mpr J)⟩,H.os,H.gens,H.same⟩
theorem qb(H:ay True ar ak (a++ro) s):ay True ar ak a s:=⟨⟨λq J=>H.h.at_ q (bL _ J),(fi.mp (bM▸H.h.nd)).1,H.h.keep,λq J=>H.h.off q (bL _ J)⟩,H.os,H.gens,H.same⟩
structure Sub(ar aQ:aw)(ro:List (af×aq)):Prop where
 st:∀b o,ar.get? b=some o->aQ.get? b=some o
 ro:∀p∈ro,aQ.get? p.1=some p.2
variable {t:ca α}{Q:α->am->Prop}
theorem fN(SR:ay True ar ak (a++ro) s)(X1:aK w ar)(NL:ar.NoLimit)(hA:A.handled=none)(dep n:Nat)(ev J:List Nat)(Z:aF)(gn:∀aQ,Sub ar aQ ro->aK w aQ->aQ.NoLimit->(∀p∈a,p.1< s.heap.objs.size)->Z.Ok True (av w) A A.units fr aQ (a.map (·.1)))(hd:A.depth+dep<=bk)(nd:J.Nodup)(Y:Xs->α)(ents:Xs->List (af×aq))(sz tk:Xs->Nat)(e:∀H,Ends J ((aI w dep 0 fr n).S [] H ⟨a,s.heap.objs.size,s.toks,ev,Z⟩ t fin) (.ok (Y H),(ents H).map some,sz H,tk H))(h:∀H s',ay True ar ak (ents H++ro) s'->s'.heap.objs.size=sz H->s'.toks=tk H->ij s.heap s'.heap->Q (Y H) s'):aG (av w) A t Q E s:=by refine cI (kF SR) λS2 bZ aZ=>?_;have X2:aK w _:=λb o e=>aZ _ _ (X1 b o e);have tL:=NL.keeps aZ;exact wp_run S2 X2 hA dep 0 n ev J Z (gn _ ⟨aZ,bZ⟩ X2 tL) (λz=>⟨tL,hd⟩) (a8 _) nd Y ents sz tk e λH s' Z Y J G=>h H s' (q6 SR Z) Y J G.live
theorem dq(SR:ay True ar ak (a++ro) s)(X1:aK w ar)(NL:ar.NoLimit)(hA:A.handled=none)(dep n:Nat)(ev:List Nat)(Y:aF)(gn:∀aQ,Sub ar aQ ro->aK w aQ->aQ.NoLimit->(∀p∈a,p.1< s.heap.objs.size)->Y.Ok True (av w) A A.units fr aQ (a.map (·.1)))(hd:A.depth+dep<=bk)(J:Xs->α)(led:Xs->List (af×aq))(sz tk:Xs->Nat)(e:∀H,bA ((aI w dep 0 fr n).S [] H ⟨a,s.heap.objs.size,s.toks,ev,Y⟩ t fin) (.ok (J H),led H,sz H,tk H))(h:∀H s',ay True ar ak (led H++ro) s'->s'.heap.objs.size=sz H->s'.toks=tk H->ij s.heap s'.heap->Q (J H) s'):aG (av w) A t Q E s:=by refine cI (kF SR) λS2 bZ Z=>?_;have X2:aK w _:=λb o e=>Z _ _ (X1 b o e);have tL:=NL.keeps Z;exact gK S2 X2 hA dep 0 n ev Y (gn _ ⟨Z,bZ⟩ X2 tL) (λz=>⟨tL,hd⟩) (a8 _) J led sz tk e λH s' Z Y J G=>h H s' (q6 SR Z) Y J G.live
end
theorem Dh{F:af}{H:ag}{Z:Option af}{sR:Array (Option ag)}{a:List (af×aq)}(XK:aK w aa)(NL:aa.NoLimit)(hA:A.handled=none)(hd:A.depth+(n+1)<=bk)(hF:(K w.params).lookup F=some ⟨H,Z, .func fd,sR⟩)(HX:fd.scope.isCoroutine=false)(HY:fd.scope.isGenerator=false)(HZ:fd.body= .stmts body)(Ad:Mc (K w.params) fd.code fd.qualname=true)(H:List (Str×ag))(Ae:List Nat)(e0:∀Z tk σ,bA ((aI w 0 0 none 400).S [] σ ⟨a,Z,tk,Ae, .nil⟩ (ma fd args) fin) (.ok H,a,Z,tk))(env:af->k7)(ns:af->Nat->List (af×aq))(kz Af:Nat)(Ag:List Nat)(e1:∀Z tk σ,bA ((aI w 0 0 none 400).S [] σ ⟨a,Z,tk,Ag, .nil⟩ (md fd.scope fd.globals fd.closure H (fd.qualname++".<locals>.") (some F) fd.code none fd.builtins) fin) (.ok (env Z),ns Z tk++a,Z+kz,tk+Af))(jj:∀x,(out x).post.map (·.1)=a.map (·.1))(hB:∀(H:aD)(L tk:Nat)(s ak:am)(Q:dk->am->Prop)(E:ag->am->Prop)(ar:aw),H.handled=none->H.depth=A.depth+1->H.units<=U+3->(∀b o,aa.get? b=some o->ar.get? b=some o)->aK w ar->ar.NoLimit->ay True ar ak (ns L tk++a) s->s.heap.objs.size=L+kz->s.toks=tk+Af->(∀x Z s',(out x).res= .ok (.ret (match Z with| .ret v=>v|_=> .none))->s'.heap.objs.size=(out x).sz->s'.toks=(out x).tk->ay True ar ak ((out x).new++(out x).post) s'->Q Z s')->aG (av w) H (aV body (env L)) Q E s):Told True (av w) A U fr aa (.call (.ref F) args) a out:=by
 intro u s ak R hu SR m hR;refine cI (kF (rR (dQ ..) SR)) λSA m aZ=>?_;have H:aK w _:=λb o e=>aZ _ _ (XK b o e);have aU:=NL.keeps aZ;have hX:aK w s.heap:=λb o e=>SR.h.keep _ _ (XK b o e);refine FO (show A.depth< bk by exact b7 [lE (Y0+(Y2+1)) Y1] (lL Y0 Y1) rfl hd) (hX _ _ hF) rfl HX HY HZ (BQ hX Ad) (gK SA H hA 0 0 400 Ae .nil (λj=>True.intro) nofun (a8 _) _ _ _ _ (λσ=>e0 ..) λj s1 S1 kr H3 G1=>?_);refine gK S1 H hA 0 0 400 Ag .nil (λj=>True.intro) nofun (a8 _) _ _ _ _ (λσ=>e1 ..) λj s2 S2 oi qT G2=>⟨aU.keeps S2.h.keep,Mw ?_⟩
 refine hB _ s1.heap.objs.size s1.toks s2 ak _ _ _ hA rfl (yY hu _) aZ H aU S2 oi qT λx Z s' Ah fM kj Y=>?_;have f1:∀p∈(out x).new,s.heap.get? p.1=none:=λp J=>by
  induction z:s.heap.get? p.1 with
  |none=>rfl|some o=>
   have H:=Y.h.nd;rw[bM,fi]at H;by_cases q:p.1∈a.map (·.1);·exact absurd rfl (H.2.2 p.1 (b6 J) p.1 (jj x▸q))
   ·have:=Y.h.off p (bL _ J);replace this:=(kd _ z q)▸this;injection this
 have f2:∀p∈(out x).new++(out x).post,aa.get? p.1=none:=λp J=>by
  induction z:aa.get? p.1 with
  |none=>rfl|some o=>have:=Y.h.off p J;replace this:=(aZ _ _ z)▸this;injection this
 have H:=hR x s' fM kj (jj x) (λp J=>f1 p J) ⟨⟨Y.h.at_,Y.h.nd,λb o e=>Y.h.keep b o (aZ b o e),λp J=>f2 p J⟩,Y.os,Y.gens, .inl True.intro⟩ (λb o e Z=>Y.h.keep b o (kd _ e λY=>aO (bq.mp Y) λp J e=>Z p J e));rw[Ah]at H;exact H
section
open PySem PySem.W PySem.W.X PyProof.Rows
abbrev O7:Scope:=nc ({ kind:=ScopeKind.function,names:=[(gB "self",BS.local),(gB "ns_stack",BS.local),(gB "_reversed",BS.local),(gB "namespaces",BS.local)],isGenerator:=true,isCoroutine:=false })
abbrev O8:Expr:=nc ((Xx (gB "_reversed") ⟨42,26,42,35⟩).Call [Xx (gB "ns_stack") ⟨42,36,42,44⟩] [] ⟨42,26,42,45⟩)
abbrev Di(p:d5):Expr:=nc (Xx (gB "namespaces") p)
abbrev O9:List Stmt:=[Stmt.If (Di ⟨43,15,43,25⟩) [Stmt.Expr ((Di ⟨44,27,44,37⟩).YieldFrom ⟨44,16,44,37⟩) ⟨44,16,44,37⟩] [] ⟨43,12,44,37⟩]
abbrev Pa:List Stmt:=[Stmt.For (Di ⟨42,12,42,22⟩) O8 O9 [] ⟨42,8,44,37⟩]
theorem aDm:Rw.foot=7->∀(w:aj)(A:aD)(aa:aw)(L:af)(H:Str)(a:af)(Y:ag)(m:Str->Option ag)(news:List (af×aq))(s:am)(E:ag->am->Prop)(ds:af)(vs:List ag)(Q:ag->am->Prop)(F:Fr aa L s.heap m)(hl:s.heap.IsList ds vs.toArray)(h1:m "ns_stack"=some (.ref ds))(J:m "_reversed"=some (.type "reversed")) (Z:Q (.ref s.heap.objs.size) { s with heap:=s.heap.push (revObj ds ((vs.length:Int) - 1)) }),aG (av w) A (fx O8 (Mx H O7 L a Y)) Q E s:=by
 k_fill;intro aWl w A aa L H a Y m news s E ds vs Q F hl h1 J Z;k_steps;refine ld F J ?_;k_steps;refine ld F h1 ?_;k_steps;refine call_reversed_list hl ?_;have e:((vs.toArray.size:Nat):Int) - 1=(vs.length:Int) - 1:=by rfl
 exact Z
section
variable {c:bB}{P:mU->am->Prop}
theorem H4{m:ca α}{K:α->ca lj}{H:ag->ca lj}{gd:Bool->Bool}{lv:List ag->List ag}(h:aG (aR prog w) (A.over c fs) m (λa s'=>SegX (aR prog w) A c (K a) fs s' P) (λx s'=>SegX (aR prog w) A c (H x) fs s' P) s):SegX (aR prog w) A c (m.wrap K H gd lv) fs s P:=by rintro Γ p rfl J;exact c7 (runs_wrap_of_wp K H gd lv m (h _ p (J.over fs)) (λa H s' h'=>h' Γ H rfl J) (λx H s' h'=>h' Γ H rfl J)) λe s' J H=>⟨e,s',J,H⟩
theorem lH{m:ca α}{K:α->ca lj}(h:aG (aR prog w) (A.over c fs) m (λa s'=>SegX (aR prog w) A c (K a) fs s' P) (λx s'=>SegX (aR prog w) A c (.raise x) fs s' P) s):SegX (aR prog w) A c (m>>=K) fs s P:=rR (F7 ..) (H4 h)
theorem iT{m:ca α}{f:α->ca β}{K:β->ca lj}{H:ag->ca lj}{gd:Bool->Bool}{lv:List ag->List ag}(h:aG (aR prog w) (A.over c fs) m (λa s'=>SegX (aR prog w) A c ((f a).wrap K H gd lv) fs s' P) (λx s'=>SegX (aR prog w) A c (H x) fs s' P) s):SegX (aR prog w) A c ((m>>=f).wrap K H gd lv) fs s P:=rR (F7 ..) (rR (Mz ..) (H4 h))
theorem aDn{l:List ag}{k:Unit->ca lj}(h:SegX (aR prog w) A c (k ()) fs s P):SegX (aR prog w) A c (.point l k) fs s P:=H4 (H:= .raise) (gd:=id) (lv:=λz=>l) (Xy h)
end
noncomputable abbrev Led:=List (af×aq)
def xJ(l:Led)(h:aw):Prop:=∀p∈l,h.get? p.1=some p.2
def Own(bg:Led)(ak:am)(a:af):Prop:=(∃p∈bg,p.1=a)\/ak.heap.get? a=none
def H5(lim:Nat)(bg H:Led)(ak s':am):Prop:=∃h' tk,s'={ ak with heap:=h',toks:=tk }/\(∀b o,ak.heap.get? b=some o->(∀p∈bg,p.1≠b)->h'.get? b=some o)/\(∀p∈H,lim<=p.1/\Own bg ak p.1/\h'.get? p.1=some p.2)
def H6(M:fU)(A:aD)(H:F8)(s:am)(P:mU->am->Prop):Prop:=match H with
 | .fresh c=>SegX M A c (uN gy c) [] s P| .suspended k _ c _ fs _=>SegX M A c (k (.send .none)) fs s P|_=>False
def xK(M:fU)(A:aD)(lim:Nat)(cj:Led):List ag->Led->am->mU->am->Prop
 |[],bg,ak,e,s'=>e= .ret (.ok (.ret .none))/\H5 lim bg [] ak s'|y::ys,bg,ak,e,s'=>e.result= .yielded y/\∃J,H5 lim bg J ak s'/\∀H,xJ (J++cj) H.heap->H6 M A e.genState H (xK M A lim cj ys J H)
def kH(bg:Led)(ak s:am):Prop:=∃h tk,s={ ak with heap:=h,toks:=tk }/\∀b o,ak.heap.get? b=some o->(∀p∈bg,p.1≠b)->h.get? b=some o
theorem kH.refl{bg:Led}:kH bg s s:=⟨s.heap,s.toks,rfl,λz z e z=>e⟩
theorem kH.ext{bg:Led}{a:af}(x:kH bg ak s)(o:Own bg ak a)(k:y8 a s.heap h'):kH bg ak { s with heap:=h',toks:=tk }:=by
 refine c7 x λh t H Y=>?_;subst H;refine⟨h',tk,rfl,λb H e n=>k b H (λq=>?_) (Y b H e n)⟩;subst q;rcases o with ⟨p,J,q⟩|q
 ·exact n p J q
 ·replace e:=q▸e;injection e
theorem kH.keep{bg:Led}(x:kH bg ak s)(k:∀b o,s.heap.get? b=some o->h'.get? b=some o):kH bg ak { s with heap:=h',toks:=tk }:=by refine c7 x λh t H J=>?_;subst H;exact⟨h',tk,rfl,λb H e n=>k b H (J b H e n)⟩
theorem kH.own{bg:Led}(x:kH bg ak s):Own bg ak s.heap.objs.size:=by
 refine c7 x λh t H J=>?_;subst H;by_cases q:∃p∈bg,p.1=h.objs.size;·exact .inl q
 ·refine .inr ?_;induction e:ak.heap.get? h.objs.size with
  |none=>rfl|some o=>exact absurd (dH (J _ o e λp H r=>q ⟨p,H,r⟩)) (jH _)
theorem kH.since{bg J:Led}(x:kH bg ak s)(h:∀p∈J,lim<=p.1/\Own bg ak p.1/\s.heap.get? p.1=some p.2):H5 lim bg J ak s:=by refine c7 x λh' t H Y=>?_;subst H;exact⟨h',t,rfl,Y,h⟩
end
variable {bg cj:Led}
section
open PySem PySem.W PySem.W.X PyProof.Rows
theorem Pb:me gy "proto.yield_from"=some Builtin.«proto.yield_from»:=aS7 (by kernel_rfl)
theorem aDo:typeLookup (.type "list_iterator") "close"=pure none:=by kernel_rfl
abbrev qc(it:af):Code:=nc (.builtin "proto.yield_from" ⟨[.ref it, .bool false, .none],[]⟩)
section
variable {P:mU->am->Prop}
theorem Pc{b:Builtin}(H:me gy id=some b)(h:SegX (aR prog w) A (.builtin id args) (b args) fs s P):SegX (aR prog w) A (.builtin id args) (uN gy (.builtin id args)) fs s P:=by show SegX _ _ _ (match me gy id with|some b=>b args|none=>Xz _) ..;exact rR H h
theorem Pd{Q:Unit->am->Prop}{l:af}{b:Bool}(H:s.heap.IsListIter it l j)(h:Q () s):aG M A (aXa (.ref it) b) Q E s:=by refine ig H λo H J Y=>au (y3 H ?_);exact rR J (rR (if_pos (by decide)) (aH h))
theorem aDp{l:af}{H:Array ag}{x:ag}(hh:(A.over (qc it) fs).handled=none)(J:s.heap.IsListIter it l j)(hl:s.heap.IsList l H)(hx:H[j]?=some x)(H7:XA fs=none)(H8:fs.any aTu=false)(hQ:∀h',h'.IsListIter it l (j+1)->lb it s.heap h'->∀e:mU,e.result= .yielded x->(∀Z P',Z.heap.IsListIter it l (j+1)->SegX (aR prog w) A (qc it) (uN gy (qc it)) fs Z P'->H6 (aR prog w) A e.genState Z P')->P e { s with heap:=h' }):SegX (aR prog w) A (qc it) (uN gy (qc it)) fs s P:=by
 refine Pc Pb (lH (aH ?_));refine hO λH aY=>ig (id J) λo ho hc Y=>?_;obtain⟨H,H9,z,H,mD⟩:=hl;refine aY (lH (uQ (fV ?_)));refine au (qy (au (wV J.typeIs wW
  (qz wW J.typeIs MA ?_ (MB _)))));show aG _ _ (BY _ 0>>=_) ..;refine au (jb ho Y (x:= .ref l) rfl ?_);refine au (jb ho Y (x:= .int j 0) rfl ?_);refine au (wU H9 mD ?_);simp only[wX,hx];have tq:(s.heap.update it (qA λvs=>vs.setIfInBounds 1 (eI ((j:Int)+1)))).IsListIter it l _:=⟨_,nM _ ho (Obj.isFreed_of_fields (aTv Y _)),(Obj.cls_mapFields ..).trans hc,by rw[aTv Y];rfl⟩
 refine au (sr ho Y (by simp) (aH ⟨x,rfl,aH ?_⟩));refine lH (uV tq.typeIs ?_);refine lH (jd aDo ?_);refine lH (aH ?_);refine lH (Pd tq ?_);refine s_yield prog w A _ fs P _ x [] _ H7 H8 λp=>hQ _ tq (ia ..) _ rfl λZ P' J H=>lH (aH ?_);refine lH (Pd J ?_);refine lH (jd rfl ?_);exact s_again prog w A _ fs P' Z _ (aTg _ (by decide+kernel)) H
theorem aDq{l:af}{H:Array ag}{k:cw->ca lj}{oo:Option ag}{gd:Bool}{lv:List ag}{Y:bB}{q9:d5}{kp:List ag}(hh:(A.over (qc it) (.ret k oo gd lv Y q9 kp::fs)).handled=none)(J:s.heap.IsListIter it l j)(hl:s.heap.IsList l H)(hx:H[j]?=none)(hQ:∀h',y8 it s.heap h'->SegX (aR prog w) A Y (k (.ok (.ret .none))) fs { s with heap:=h' } P):SegX (aR prog w) A (qc it) (uN gy (qc it)) (.ret k oo gd lv Y q9 kp::fs) s P:=by
 refine Pc Pb (lH (aH ?_));refine hO λH aY=>ig (id J) λo ho H Z=>?_;obtain⟨H,H9,z,H,mD⟩:=hl;refine aY (lH (uQ (fV ?_)));refine au (qy (au (wV J.typeIs wW
  (qz wW J.typeIs MA ?_ (MB _)))));show aG _ _ (BY _ 0>>=_) ..;refine au (jb ho Z (x:= .ref l) rfl ?_);refine au (jb ho Z rfl ?_);refine au (wU H9 mD ?_);simp only[wX,hx];refine au (qy (au (sr ho Z (by simp) ?_)));refine au (au (kb ?_ (by size_fits)));refine au (jd (a:=ag.none) (by first|rfl|(rfl)) ?_);refine kb ?_ (by size_fits);refine au (F9 ?_);refine rR (show(aTw _).handled=none from hh) (au (aH (Ga ?_)));have eo:((((s.heap.update it _).push { cls:=Gb "tuple",data:=XC #[] }).push _):aw).get? ((s.heap.update it (qA λx=>x.setIfInBounds 0 ag.none)).push { cls:=Gb "tuple",data:=XC #[] }).objs.size=some { cls:=Gb "StopIteration",data:=Data.fields (#[aN (s.heap.update it (qA λx=>x.setIfInBounds 0 ag.none)).objs.size,ag.none,ag.none,ag.none,dX false,ag.none]++ownMembersOf (Gb "StopIteration") []) }:=gY _ rfl;refine lH (au (au (uV ⟨_,gY _ rfl,rfl⟩ ?_)));refine au (jd Gc ?_);refine au (aH ?_);refine aH (aH ?_);refine lH (qy (lH (jb eo rfl rfl ?_)));exact s_pop prog w A _ fs P _ _ _ rfl k oo gd lv Y q9 kp (hQ _ (((ia ..).extBut.push _).push _))
end
end
section
open PySem PySem.W PySem.W.X PyProof.Rows
structure LS where
 a:af
 ep:Nat
 items:List ag
noncomputable def nf(ds dep:Nat)(H:List LS):Led:=(ds,listOf (H.map λl=>aN l.a).toArray dep)::H.map λl=>(l.a,listOf l.items.toArray l.ep)
noncomputable def lJ(r:List LS):List Value:=r.flatMap (·.items)
structure jQ(lim:Nat)(cj:Led)(C rv ds:af)(i:Int)(bg:Led)(ak s:am):Prop where
 so:kH bg ak s
 fns:∃m,s.heap.Ns C m
 vF:s.heap.IsRevIter rv ds i
 fst:xJ cj s.heap
 low:∀p∈cj,p.1< lim
 tM:lim<=C
 vG:lim<=rv
 ne:C≠rv
 xL:Own bg ak C
 vH:Own bg ak rv
section
variable {rv:af}{i:Int}
theorem jQ.ext{a:af}(x:jQ lim cj C rv ds i bg ak s)(Y:lim<=a)(J:a≠C)(H:a≠rv)(o:Own bg ak a)(k:y8 a s.heap h'):jQ lim cj C rv ds i bg ak { s with heap:=h',toks:=tk }:=⟨x.so.ext o k,let ⟨m,hm⟩:=x.fns;⟨m,hm.extBut k J.symm⟩,x.vF.at λo e=>k rv o H.symm e,λp H=>k p.1 p.2 (du (qr (x.low p H) Y)) (x.fst p H),x.low,x.tM,x.vG,x.ne,x.xL,x.vH⟩
theorem jQ.keep(x:jQ lim cj C rv ds i bg ak s)(k:∀b o,s.heap.get? b=some o->h'.get? b=some o):jQ lim cj C rv ds i bg ak { s with heap:=h',toks:=tk }:=⟨x.so.keep k,let ⟨m,hm⟩:=x.fns;⟨m,hm.keeps k⟩,x.vF.at λo e=>k rv o e,λp H=>k p.1 p.2 (x.fst p H),x.low,x.tM,x.vG,x.ne,x.xL,x.vH⟩
theorem jQ.setC{m:Str->Option ag}(x:jQ lim cj C rv ds i bg ak s)(H:h'.Ns C m)(k:lb C s.heap h'):jQ lim cj C rv ds i bg ak { s with heap:=h',toks:=tk }:=⟨x.so.ext x.xL k.extBut,⟨m,H⟩,x.vF.at λo e=>(k.2 rv x.ne.symm).trans e,λp H=>(k.2 p.1 (du (qr (x.low p H) x.tM))).trans (x.fst p H),x.low,x.tM,x.vG,x.ne,x.xL,x.vH⟩
theorem jQ.aDr{J:Int}(x:jQ lim cj C rv ds i bg ak s)(H:h'.IsRevIter rv ds J)(k:lb rv s.heap h'):jQ lim cj C rv ds J bg ak { s with heap:=h',toks:=tk }:=⟨x.so.ext x.vH k.extBut,let ⟨m,H⟩:=x.fns;⟨m,H.sameBut k x.ne⟩,H,λp H=>(k.2 p.1 (du (qr (x.low p H) x.vG))).trans (x.fst p H),x.low,x.tM,x.vG,x.ne,x.xL,x.vH⟩
theorem aDs{l:LS}{rest:List ag}{Y:cw->ca lj}{xM:List ag}{Z:bB}{p1:d5}{Dj:List ag}(hl:(l.a,listOf l.items.toArray l.ep)∈cj)(hh:∀c,(A.over c (.ret Y none false xM Z p1 Dj::fs)).handled=none)(H7:XA (.ret Y none false xM Z p1 Dj::fs)=none)(H8:(aXb Y none false xM Z p1 Dj::fs).any aTu=false)(cont:∀ak bg s,jQ lim cj C rv ds i bg ak s->SegX (aR prog w) A Z (Y (.ok (.ret .none))) fs s (xK (aR prog w) A lim cj rest bg ak)):∀(n j:Nat),j+n=l.items.length->∀it ak bg s,jQ lim cj C rv ds i bg ak s->s.heap.IsListIter it l.a j->lim<=it->it≠C->it≠rv->Own bg ak it->SegX (aR prog w) A (qc it) (uN gy (qc it)) (.ret Y none false xM Z p1 Dj::fs) s (xK (aR prog w) A lim cj (l.items.drop j++rest) bg ak):=by
 intro n;induction n with
 |zero=>intro j J it ak bg s x H la nC nR o;have e:l.items.drop j=[]:=List.drop_eq_nil_of_le (fz [eQ (Y1+0) Y0] (lE Y0 Y1) [-1] 1 rfl J);simp only[e,uS];refine aDq (hh _) H ⟨_,x.fst _ hl,rfl,_,rfl⟩ (by simp;exact fz [eQ (Y1+0) Y0] (lE Y0 Y1) [-1] 1 rfl J) λh' k=>cont _ _ _ (x.ext la nC nR o k)|succ n ih=>
  intro j J it ak bg s x H la nC nR o;have bp:j< l.items.length:=b7 [eQ (Y0+(Y2+1)) Y1] (lL Y0 Y1) rfl J;simp only[aTx bp,sn];refine aDp (x:=l.items[j]) (hh _) H ⟨_,x.fst _ hl,rfl,_,rfl⟩ (by simp[bp]) H7 H8 λh' H k e Z hw=>?_;have y:=x.ext (tk:=s.toks) la nC nR o k.extBut;refine hO λY Y=>M8 y.fns λmC oC es ep gC rC=>aO y.vF λoR gR rR=>aO (id H) λoI gI rI=>Y ⟨Z,[(C,oC),(rv,oR),(it,oI)],y.so.since ?_,λba ha=>?_⟩
  ·intro p hp;rcases a9.mp hp with rfl|hp
   ·exact⟨x.tM,x.xL,gC⟩
   rcases a9.mp hp with rfl|hp
   ·exact⟨x.vG,x.vH,gR⟩
   rcases a9.mp hp with rfl|hp
   ·exact⟨la,o,gI⟩
   ·contradiction
  ·have H:=ha _ (bL _ az);have Pe:ba.heap.IsListIter it l.a _:=⟨oI,(ha _ (bL _ (aB (aB az)))),rI⟩
   refine hw ba _ Pe (ih _ (c8 (b7 [eQ (Y0+(Y1+1)) Y2] (lE (Y0+1+Y1) Y2) rfl J) (cz [eQ (Y1+(Y2+1)) Y0] (lE Y0 (Y1+1+Y2)) [-1] 1 rfl J)) it ba _ ba ⟨.refl,⟨mC,oC,es,ep,H,rC⟩,⟨oR,(ha _ (bL _ (aB az))),rR⟩,λp hp=>ha p (bD _ hp),x.low,x.tM,x.vG,x.ne, .inl ⟨(C,oC),az,rfl⟩, .inl ⟨(rv,oR),aB az,rfl⟩⟩ Pe la nC nR (.inl ⟨(it,oI),aB (aB az),rfl⟩))
end
end
section
open PySem PySem.W PySem.W.X PyProof.Rows
section
variable {scope:LZ}{a:af}{cd:ag}{m:Str->Option ag}
theorem Pf{x:Str}{v:ag}{Q:ag->am->Prop}(ns:s.heap.Ns L m)(J:m x=some v)(h:Q v s)(H:scope.kind= .function)(Y:(Mx name scope L a cd).kindOf x=some .local)(hd:(x==("__debug__":Str))=false):aG M A (fx (.Name x pos) (Mx name scope L a cd)) Q E s:=XD (XE H Y ns J h) hd
end
abbrev Dk(H:Str)(C a:af)(J:ag):Env:=Mx H O7 C a J
abbrev Pg(env:k7)(H:af):Code:= .forLoop (Di ⟨42,12,42,22⟩) (.ref H) O9 [] env
section
variable {rv a:af}{qn:Str}{mq:ag}{ls:List LS}{kf:cw->ca lj}{Ph:List ag}{cf:bB}{pf:d5}{Pi:List ag}
theorem aDt(hh:A.handled=none)(jr:∀l∈ls,l.items.length<=1000)(vI:∀s P,P (.ret (.ok (.ret .none))) s->SegX (aR prog w) A cf (kf (.ok .next)) [] s P):∀(k:Nat),k<=ls.length->∀ak bg s,jQ lim (nf ds dep ls) C rv ds ((k:Int) - 1) bg ak s->SegX (aR prog w) A (Pg (Dk qn C a mq) rv) (uN gy (Pg (Dk qn C a mq) rv)) [.ret kf none false Ph cf pf Pi] s (xK (aR prog w) A lim (nf ds dep ls) (lJ (ls.take k).reverse) bg ak):=by
 intro k;induction k with
 |zero=>intro j ak bg s x;show SegX _ _ _ ((forTurn ..).onRaise _) ..;rw[XF];refine iT (pC ?_);refine iT (wpAny_onRaise (wpAny_pyNext_rev_end hh x.vF λh' k=>?_));refine s_again prog w A _ _ _ _ _ rfl (s_pop prog w A _ _ _ _ _ _ rfl kf none false Ph cf pf Pi (vI _ _ ⟨rfl,?_⟩));exact(x.so.ext x.vH k).since (λp hp=>nomatch hp)|succ k ih=>
  intro hk ak bg s x;have Y:k< ls.length:=hk;show SegX _ _ _ ((forTurn ..).onRaise _) ..;rw[XF];refine iT (pC ?_);have xr:=x.vF;have e1:((k+1:Nat):Int) - 1=(k:Int):=bw (iB [(k:Nat)] [] (lE (Y0+1-1) Y0) rfl) (iB [(k:Nat)] [] (lE Y0 (Y0+1-1)) rfl);rw[e1]at xr;refine iT (wpAny_onRaise (wpAny_pyNext_rev_item (x:= .ref ls[k].a) xr ⟨_,x.fst _ az,rfl,_,rfl⟩ (by simp[Y]) λh1 Dl k1=>?_));have x1:=x.aDr (tk:=s.toks) Dl k1;refine iT (jd rfl ?_);refine BR x1.fns λm1 ns1=>iT (wpAny_assign_Name (wpAny_storeName_local rfl ns1 (λh2 Z k2=>?_)));have x2:=x1.setC (tk:=s.toks+1) Z k2;have hm:_∈nf ds dep ls:=aB (b6 (uW Y));have ey:lJ (ls.take (k+1)).reverse=ls[k].items++lJ (ls.take k).reverse:=by refine rR (List.take_succ_eq_append_getElem Y) (rR Gd ?_);rfl
  refine rR ey ?_;rw[F7,Mz];rw[XH];refine iT (pC ?_);refine iT (isTrue_plain (Pf Z rfl (wpAny_truthy_list ⟨_,x2.fst _ hm,rfl,_,rfl⟩ ?_ ?_) rfl rfl (by decide)))
  ·have:=jr _ (uW Y);rw[py];omega
  have H:=x2.keep (tk:=s.toks+1+1+1) λz z e=>e;induction hi:ls[k].items with
  |nil=>exact s_again prog w A _ _ _ _ _ rfl (ih (cR hk) _ _ _ H)|cons y ys=>
   refine rR (if_pos (show _=true from rfl) ..) (rR (XH ..) (rR (exec_Expr _ _ _ rfl rfl ..) ?_));refine iT (pC ?_);refine rR (F7 ..) (rR (Mz ..) (rR (arm_eval_YieldFrom ..) ?_));refine iT (Pf Z rfl ?_ rfl rfl (by decide));refine iT (pC ?_);refine iT (uV ⟨_,H.fst _ hm,rfl⟩ ?_);refine iT (fV (wpAny_pyIter_list ⟨_,H.fst _ hm,rfl,_,rfl⟩ ?_));refine s_call prog w A _ _ _ _ _ none false _ _ λp=>rL hi ?_;have J:=Z.lt;have x4:=H.keep (h':=h2.push { cls:= .type "list_iterator",data:= .fields #[.ref ls[k].a, .int 0 0] }) (tk:=s.toks+1+1+1) λz z e=>cZ _ e;have li:(h2.push { cls:= .type "list_iterator",data:= .fields #[.ref ls[k].a, .int 0 0] }).IsListIter h2.objs.size ls[k].a 0:=⟨_,gY _ rfl,rfl,rfl⟩
   refine aDs hm ?_ ?_ ?_ ?_ ls[k].items.length 0 (MC _) _ ak bg _ x4 li (cR (iH x.tM J)) (jc J) (jc (aO H.vF λo J j=>dH J)) H.so.own;·exact λz=>hh
   ·rfl
   ·rfl
   ·intro ak bg s x;exact s_again prog w A _ _ _ _ _ rfl (ih (cR hk) _ _ _ x)
end
end
section
open PySem PySem.W PySem.W.X PyProof.Rows
def Ai(M:fU)(A:aD)(lim:Nat)(cj:Led)(ys:List ag)(bg:Led)(J:F8):Prop:=∀H,xJ (bg++cj) H.heap->H6 M A J H (xK M A lim cj ys bg H)
section
variable {a:af}{qn:Str}{mq:ag}{ls:List LS}
theorem aDu{Y:aq}{m:Str->Option ag}(Z:Rw.foot=7)(hh:A.handled=none)(jr:∀l∈ls,l.items.length<=1000)(aDw:∀p∈nf ds dep ls,p.1< lim)(hC:lim<=C)(ng:∃J ep,Y.data= .dict J ep/\StrKeys J/\∀name,Md J name=m name)(h1:m "ns_stack"=some (.ref ds))(h2:m "_reversed"=some (.type "reversed")):Ai (av w) A lim (nf ds dep ls) (lJ ls.reverse) [(C,Y)] (.fresh (.func Pa (Dk qn C a mq))):=by
 intro s ha;refine aDn (rR (XF ..) (rR (F7 ..) (rR (Mz ..) ?_)));refine rR (XH ..) (rR (exec_For ..) ?_);refine iT (pC ?_);refine hO λcg aY=>lp ng λJ ep hd hk hf=>aY ?_;have ns:s.heap.Ns C m:=⟨Y,J,ep,(ha _ az),hd,hk,hf⟩
 have F:Fr {} C s.heap m:=⟨ns,λb o e=>(by simp[Heap.get?]at e),fZ _⟩
 refine iT (aDm Z w _ _ C qn a mq m [] s _ ds _ _ F ⟨_,(ha _ (aB az)),rfl,_,rfl⟩ h1 h2 ?_);refine iT (jd rfl ?_);refine iT (pC ?_);have J:(((ls.map λl=>aN l.a).length:Nat):Int) - 1=(ls.length:Int) - 1:=by simp
 refine rR J ?_;have H:(s.heap.push (revObj ds _)).IsRevIter s.heap.objs.size ds ((ls.length:Int) - 1):=⟨_,gY _ rfl,rfl,rfl⟩
 refine iT (fV (wpAny_pyIter_revIter H ?_));refine s_call Rw.prog w A _ _ _ _ _ none false _ _ λp=>?_;have Z:∀b o,s.heap.get? b=some o->(s.heap.push (revObj ds ((ls.length:Int) - 1))).get? b=some o:=λb o e=>cZ _ e;have J:=ns.lt;have cur:jQ lim _ C s.heap.objs.size ds _ [(C,Y)] s { s with heap:=s.heap.push _ }:=⟨kH.refl.keep Z,⟨m,ns.keeps Z⟩,H,λp H=>Z _ _ (ha p (aB H)),aDw,hC,cR (iH hC J),du J, .inl ⟨_,az,rfl⟩,kH.refl.own⟩
 refine rR (show lJ ls.reverse=lJ (ls.take ls.length).reverse from rR B5 rfl) (aDt hh jr (λs P h=>?_) ls.length (a8 _) s _ _ cur);exact s_end Rw.prog w A _ P s _ _ rfl h
end
end
section
open PySem PySem.W PySem.W.X PyProof.Rows
theorem Pj{c:bB}{t:ca lj}{P:mU->am->Prop}(x:SegX M A c t fs s P):SegX M A c t fs s (λe s'=>e.quiet=true/\P e s'):=λΓ p J H=>by exact lp (x Γ p J H) λe s' Y H J=>⟨e,s',Y,H,H,J⟩
theorem Pk(s:am)(g:Nat)(x y:F8):(s.gens.setIfInBounds g x).setIfInBounds g y=s.gens.setIfInBounds g y:=by simp
def Ia(M:fU)(A:aD)(lim:Nat)(cj bg:Led)(g:Nat)(Q:Option ag->am->Prop)(s:am):List ag->Prop
 |[]=>∀h' tk,(∀b o,s.heap.get? b=some o->(∀p∈bg,p.1≠b)->h'.get? b=some o)->Q none { s with heap:=h',toks:=tk,gens:=s.gens.setIfInBounds g .finished }|y::ys=>∀h' tk J H,(∀b o,s.heap.get? b=some o->(∀p∈bg,p.1≠b)->h'.get? b=some o)->(∀p∈J,lim<=p.1/\Own bg s p.1/\h'.get? p.1=some p.2)->H.bare=true->Ai M A lim cj ys J H->Q (some y) { s with heap:=h',toks:=tk,gens:=s.gens.setIfInBounds g H }
section
variable {g:Nat}{gs:F8}{ys:List ag}
theorem aDx{k:XI->ca α}{Q:α->am->Prop}(tN:s.gens[g]?=some gs)(H:Ai (aR prog w) A lim cj ys bg gs)(d9:xJ (bg++cj) s.heap)(h:Ia (aR prog w) A lim cj bg g (λo s'=>aG (aR prog w) A (k (match o with|none=>(XJ (.ok (.ret .none))).result|some y=> .yielded y)) Q E s') s ys):aG (aR prog w) A (.resume g (.send .none) [] k) Q E s:=by
 have z:=H (s.setGen g .running) d9;have post:∀(e:mU)Y,e.quiet=true/\xK (aR prog w) A lim cj ys bg (s.setGen g .running) e Y->∀Γ p,Γ.In A->Mv (aR prog w) Γ (k e.result) (λa j s'=>Q a s') (λe j s'=>E e s') p (Y.setGen g e.genState):=by
  rintro e Y ⟨hq,he⟩ Γ p Z;induction ys using pq with
  |nil=>refine hO λH aY=>hO λH dZ=>?_;obtain⟨rfl,h',tk,rfl,J,v⟩:=he;refine dZ (aY ?_);have:=h h' tk J Γ p Z;rw[<-Pk s g .running .finished]at this;exact this
  |cons y ys=>obtain⟨hr,jq,⟨h',tk,rfl,J,hp⟩,hs⟩:=he;have:=h h' tk jq e.genState J hp (End.bare_of_quiet hq) hs Γ p Z;rw[<-Pk s g .running e.genState]at this;exact hr▸this
 induction gs with
 |fresh c=>exact wake_any _ prog w tN (.inl ⟨rfl,rfl,rfl,rfl⟩) _ (λj h=>h) ((Pj z).mono post)|suspended oq tO qe ot Dn cl=>exact wake_any _ prog w tN (.inr ⟨oq,tO,ot,cl,rfl,rfl⟩) _ (λj h=>h) ((Pj z).mono post)|running=>exact z.elim|finished=>exact z.elim
theorem aDy{Q:Option ag->am->Prop}(hh:A.handled=none)(hl:s.heap.NoLimit)(xd:A.depth< bk)(J:s.heap.IsGen ga g)(tN:s.gens[g]?=some gs)(H:Ai (aR prog w) A.in1 lim cj ys bg gs)(d9:xJ (bg++cj) s.heap)(h:Ia (aR prog w) A.in1 lim cj bg g Q s ys):aG (aR prog w) A (y9 (.ref ga)) Q E s:=by
 refine au (uQ (wV J.typeIs slot_gen_next
  (qz slot_gen_next J.typeIs entry_gen_next ?_ (args_gen_next _))));show aG _ A.in1 (aXc _ (.send .none)) ..;refine au (fV (wpAny_genNumber J (au (wpAny_genState tN ?_))));have Z:∀(k:XI->ca lj)(Q':lj->am->Prop)J,Ia _ A.in1 lim cj bg g _ s ys->aG _ A.in1 (.resume g _ [] k) Q' J s:=λk Q' J x=>aDx tN H d9 x;induction gs with
 |running=>exact(H _ d9).elim|finished=>exact(H _ d9).elim|_=>
  refine au (wpAny_roomToWake hl xd ?_);refine Z _ _ _ ?_;induction ys with
  |nil=>intro h' tk Y;show aG _ A.in1 (newExc _ [] >>=_) ..;refine au (au (kb ?_ (by size_fits)));refine au (jd (a:=ag.none) (by first|rfl|(rfl)) ?_);refine kb ?_ (by size_fits);refine au (au (F9 ?_));refine rR (show A.in1.handled=none from hh) (Ga ?_);refine au (mT ⟨_,gY _ rfl,rfl⟩ Gc ?_);exact aH (h _ _ λb o e n=>cZ _ (cZ _ (Y b o e n)))|cons y ys=>intro h' tk jq vJ Y hp hb hs;exact aH ⟨y,rfl,aH (h h' tk jq vJ Y hp hb hs)⟩
end
end
section
open PySem PySem.W PySem.W.X PyProof.Rows PySem.Calls
abbrev Ic:Str:=nc ("C14NWriterTarget._iter_namespaces")
abbrev gEn(C:af):Env:=Dk Ic C 75 (.ref 74)
abbrev Pl(g:Nat)(t1 t2:ab):Obj:={ cls:= .type "generator",data:= .fields #[.int g 0, .str (gB "_iter_namespaces") t1, .str Ic t2] }
theorem aDz(p:pg):(K p).lookup 75=some MX.1:=by kernel_rfl
theorem aD0(p:pg):Mc (K p) (.ref 74) Ic=true:=by kernel_rfl
theorem aD1(p:pg):(K p).lookup 68=some ⟨.type "tuple",none, .seq #[.type "reversed"] 0,#[]⟩:=by kernel_rfl
def aD2(o:aq)(m:Str->Option ag):Prop:=∃H ep,o.data= .dict H ep/\StrKeys H/\∀name,Md H name=m name
section
variable {tg:af}
theorem aD3(Z:A.depth< bk)(J:aK w s.heap)(NL:s.heap.NoLimit)(Y:∀h' tQ ga H t1 t2,(∀b o,s.heap.get? b=some o->h'.get? b=some o)->h'.get? ga=some (Pl s.gens.size t1 t2)->h'.get? s.heap.objs.size=some H->s.heap.objs.size< ga->aD2 H (λy=>([("self", .ref tg),("ns_stack", .ref ds),("_reversed", .type "reversed")]:List (Str×ag)).reverse.lookup y)->R (.ok (.ret (.ref ga))) { s with heap:=h',toks:=tQ,gens:=s.gens.push (.fresh (.func Pa (gEn s.heap.objs.size))) }):eC (av w) A (gF 75 [.ref tg, .ref ds]) R s:=by refine codeAny_call_generator Z (J _ _ (aDz _)) rfl rfl rfl rfl (BQ J (aD0 _)) ((binds_K J rfl (aD1 _) rfl rfl rfl) _ _ _ _ ?_);refine wpAny_newFunctionEnv (by decide) (locs rfl) (λar J Z=>⟨NL.fresh _ Z,?_⟩);refine hO λcg aY=>Cf J λH es ep J hd hk hf=>aY (Y _ _ _ H _ _ (λb o e=>cZ _ (Z.extBut b o (du (dH e)) (cZ _ e))) (gY _ rfl) (cZ _ J) (dH J) ⟨es,ep,hd,hk,hf⟩)
end
end
section
end
section
open PySem PySem.W PySem.W.X PyProof.Rows PySem.Calls
section
theorem aD5{Z:Expr}{es:List Expr}{p:d5}(ht:Z= .Tuple es n p){v:ag}{Q:Unit->am->Prop}(h:s.TypeIs (.ref ga) "generator")(J:Q () s):aG (aR prog w) A (su Z (.ref ga) v) Q E s:=by
 refine aO h λo ho hc=>?_;obtain⟨Z,Z,Y,Z⟩:=o;subst hc;have H:∀a:af,aG (aR prog w) A (do
   let o <-load ga
   match o.cls,o.data with
   | .type n, .fields vs=>
    if ["enumerate","zip","dict_itemiterator","dict_reverseitemiterator","odict_iterator","itertools.zip_longest","itertools.pairwise"].contains n && vs[0]?==some (eI a)then do
     rule "for.unpacks-the-owned-tuple"
     updateField ga 0 .none
    else pure ()
   |_,_=>pure ()) Q E s:=by
  intro a;refine au (y3 ho ?_);induction Y with
  |fields vs=>dsimp only;exact aH J|_=>exact aH J
 subst ht;induction v with
 |ref a=>exact H a|_=>exact aH J
end
end
section
open PySem PySem.W PySem.W.X PyProof.Rows
structure NE where
 t:Nat
 u:Str
 tu:ab
 p:Str
 tp:ab
abbrev fA(e:NE):Obj:=nc (⟨.type "tuple",none, .seq #[.str e.u e.tu, .str e.p e.tp] 0,#[]⟩)
abbrev hM(e:NE):Value:=nc (.ref e.t)
def KK(ks:List af)(h h':aw):Prop:=∀b o,h.get? b=some o->b ∉ ks->h'.get? b=some o
def GenAt(w:aj)(A:aD)(ar:aw)(ks:List af)(cj:Led)(ys:List ag)(ga:af)(s:am):Prop:=∃(lim:Nat)(g:Nat)(H:F8)(bg:Led)(t1 t2:ab),s.gens[g]?=some H/\Ai (av w) A lim cj ys bg H/\xJ bg s.heap/\s.heap.get? ga=some (Pl g t1 t2)/\(∀p∈bg,ar.get? p.1=none/\p.1 ∉ ks/\p.1≠ga)/\ar.get? ga=none/\ga ∉ ks
theorem GenAt.keep{ks:List af}{ys:List ag}(G:GenAt w A ar ks cj ys ga s)(J:s'.gens=s.gens)(H:∀b o,s.heap.get? b=some o->b ∉ ks->s'.heap.get? b=some o):GenAt w A ar ks cj ys ga s':=by refine hO λcg Z=>?_;obtain⟨lim,g,Y,bg,t1,t2,a,b,c,d,e,f,k⟩:=G;exact Z ⟨lim,g,Y,bg,t1,t2,J▸a,b,λp J=>H _ _ (c p J) (e p J).2.1,H _ _ d k,e,f,k⟩
theorem aD6{a:Array α}{g:Nat}{x y:α}(h:a[g]?=some y):(a.setIfInBounds g x)[g]?=some x:=by refine BR (Array.getElem?_eq_some_iff.mp h) λh z=>?_;exact rR (Array.getElem?_setIfInBounds_self) (rR (if_pos h) rfl)
theorem Pm{P:α->Prop}{a:Array α}{g:Nat}{x:α}(h:∀y∈a,P y)(J:P x):∀y∈a.setIfInBounds g x,P y:=λy H=>by
 rcases Array.mem_or_eq_of_mem_setIfInBounds H with q|q
 ·exact h y q
 ·exact q▸J
theorem aD7{P:α->Prop}{a:Array α}{x:α}(h:∀y∈a,P y)(J:P x):∀y∈a.push x,P y:=λy H=>by
 rcases Array.mem_push.mp H with q|q
 ·exact h y q
 ·exact q▸J
section
variable {ks:List af}{led:Led}
theorem aD8{ys:List ag}{Q:Option ag->am->Prop}(hA:A.handled=none)(NL:ar.NoLimit)(J:A.depth< bk)(H:ay True ar ak led s)(hk:led.map (·.1)=ks)(hs:∀p∈cj,p∈led)(G:GenAt w A.in1 ar ks cj ys ga s)(h0:ys=[]->∀s',ay True ar ak led s'->Q none s')(h1:∀y zs,ys=y::zs->∀s',ay True ar ak led s'->GenAt w A.in1 ar ks cj zs ga s'->Q (some y) s'):aG (av w) A (y9 (.ref ga)) Q E s:=by
 refine hO λcg aY=>?_;obtain⟨lim,g,gs,bg,t1,t2,tN,hS,hp,vK,Z,hg0,hgk⟩:=G;refine aY ?_;have inl:∀p∈led,p.1∈ks:=λp q=>hk▸b6 q;have hb:=H.gens True.intro;have kp:∀Y:aw,(∀b o,s.heap.get? b=some o->(∀p∈bg,p.1≠b)->Y.get? b=some o)->f4 ar led Y:=λY k=>
  ⟨λp q=>k _ _ (H.h.at_ p q) λr J e=>(Z r J).2.1 (e▸inl p q),H.h.nd,λb o e=>k _ _ (H.h.keep b o e) λr J q=>(by have:=(Z r J).1;replace this:=e▸(q▸this);injection this),H.h.off⟩;refine aDy hA (NL.keeps H.h.keep) J ⟨_,_,_,vK,rfl,rfl,rfl⟩ tN hS (λp q=>by
  rcases cq.mp q with q|q
  ·exact hp p q
  ·exact H.h.at_ p (hs p q)) ?_;induction ys with
 |nil=>exact λY tk k=>h0 rfl _ ⟨kp Y k,H.os,λj=>Pm hb rfl, .inl True.intro⟩|cons y ys=>
  intro Y tk jq vJ k iL f5 mA;refine h1 y ys rfl _ ⟨kp Y k,H.os,λj=>Pm hb f5, .inl True.intro⟩ ⟨lim,g,vJ,jq,t1,t2,aD6 tN,mA,λp q=>(iL p q).2.2,k _ _ vK λp q=>(Z p q).2.2,λp q=>?_,hg0,hgk⟩;rcases (iL p q).2.1 with ⟨r,J,e⟩|e
  ·exact e▸Z r J
  ·have no:∀o,s.heap.get? p.1≠some o:=λo z=>by replace z:=e▸z;injection z
   refine⟨?_,λz=>?_,λz=>no _ (z▸vK)⟩
   ·induction z:ar.get? p.1 with
    |none=>rfl|some o=>exact absurd (H.h.keep _ _ z) (no o)
   ·rw[<-hk]at z;exact aO (bq.mp z) λr J z=>no _ (z▸H.h.at_ r J)
theorem aD9{xN H:cY}(U:Str)(ents:List NE)(Y:List NE->Led->Prop)(ks:List af)(cj:Led)(hA:A.handled=none)(NL:ar.NoLimit)(hr:A.depth< bk)(hk:∀d l,Y d l->l.map (·.1)=ks)(hs:∀d l,Y d l->∀p∈cj,p∈l)(aEa:∀x,MD H env x=pure x){Z:List cY}{tn:Nat}{tp:d5}(ht:xN= .Tuple Z tn tp)(Z:aG (av w) A (fx H env) (λxv ba=>∃ga l,xv= .ref ga/\Y [] l/\ay True ar ak l ba/\GenAt w A.in1 ar ks cj (ents.map hM) ga ba) E s)(vI:(∀e∈ents,e.u≠U)->∀l s',Y ents l->ay True ar ak l s'->Q .next s')(turn:∀(E:ag->am->Prop)d e r l s'(R:am->Prop),ents=d++e::r->(∀x∈d,x.u≠U)->Y d l->ay True ar ak l s'->(e.u≠U->∀l' J,Y (d++[e]) l'->ay True ar ak l' J->J.gens=s'.gens->KK ks s'.heap J.heap->R J)->aG (av w) A (pD xN env (hM e)) (λ_ J=>aG (av w) A (aV body env) (ME Q R) E J) E s'):aG (av w) A (exec (.For xN H body [] pos) env) Q E s:=by
 refine XM (pz Z (λxv ba h=>?_) λj j z=>z) aEa;refine hO λH aY=>hO λkA dZ=>Gw h λga l eq1 S0 SR G=>?_;subst eq1;obtain⟨v,v,v,v,v,v,v,v,v,vK,v⟩:=id G;refine dZ (aY ?_);refine wpAny_pyIter_gen ⟨_,_,_,vK,rfl,rfl,rfl⟩ (XN (λn s'=>∃d r l,n=r.length/\ents=d++r/\(∀e∈d,e.u≠U)/\Y d l/\ay True ar ak l s'/\GenAt w A.in1 ar ks cj (r.map hM) ga s') ?_ _ ⟨[],ents,l,rfl,rfl,(λj h=>nomatch h),S0,SR,G⟩);rintro n H ⟨d,r,l,rfl,he,hd,S1,vL,G1⟩;refine aD8 hA NL hr vL (hk _ _ S1) (hs _ _ S1) G1 (λhn J Aj=>?_) λy H hy J Aj G2=>?_
 ·obtain rfl:=BZ.mp hn;rw[dQ]at he;subst he;exact qC (vI hd l J S1 Aj)
 ·refine lp (List.map_eq_cons_iff.mp hy) λe r' eq2 eq3 eq4=>?_;subst eq2;subst eq3;subst eq4;refine hO λkA dZ=>?_;obtain⟨v,v,v,v,v,v,v,v,v,aEb,v⟩:=id G2;refine dZ (aD5 ht ⟨_,aEb,rfl⟩ ?_);refine pz (turn _ d e r' l J (λs3=>∃m,m<(e::r').length/\∃d r l,m=r.length/\ents=d++r/\(∀e∈d,e.u≠U)/\Y d l/\ay True ar ak l s3/\GenAt w A.in1 ar ks cj (r.map hM) ga s3) he hd S1 Aj λhu l' s3 S3 SR3 hg hdk=>⟨r'.length,wY _,d++[e],r',l',rfl,by simp only[he,bH];rfl,λx hx=>?_,S3,SR3,G2.keep hg hdk⟩) (λj s3 H=>pz H (λf H h4=>?_) λj j z=>z) λj j z=>z
  ·rcases cq.mp hx with hx|hx
   ·exact hd x hx
   ·exact rR (bI.mp hx) hu
  ·induction f<;>exact h4
end
end
abbrev tR(x y z:Str)(t u v:ab):Obj:=nc (⟨.type "tuple",none, .seq #[.str x t, .str y u, .str z v] 0,#[]⟩)
theorem aEc{cT:List LS}{aX:List ag}:lJ (cT++[(⟨ta,aP,aX⟩:LS)]).reverse=aX++lJ cT.reverse:=by simp[lJ]
abbrev iu(x:Nat):Str:=nc (⟨#[123,117,114,110,58,x,125,99]⟩)
abbrev bv(x:Nat):Str:=nc (⟨#[117,114,110,58,x]⟩)
abbrev cS:Str:=nc (⟨#[99]⟩)
noncomputable def dR:List Nat:=[114,121,103,99,98,109]
structure TG where
 tg:Nat
 td:Nat
 dl:Nat
 ds:Nat
 ns:Nat
 pm:Nat
 ps:Nat
 wr:ag
 b:Bool
 rs:Bool
 rn:Bool
 ti:ab
 ep:Nat
 kt:_root_.Fin 17->ab
 cT:List LS
 dep:Nat
 aL:List LS
 ei:Nat
 ents:List NE
 nh:List NE
structure TG.Ok(G:TG)(ta:Nat)(aX:List ag):Prop where
 hy:aX++lJ G.cT.reverse=G.ents.map hM
 jr:∀l∈G.cT,l.items.length<=1000
 jR:G.ents.length<=1000
 mE:(G.ents.map (·.p)).Nodup
 oz:(G.ents.any λe=>e.p=="")=false
 hz:aX.length<=1000
 tV:G.td< G.tg/\G.tg< G.ds/\G.ds< ta
 ra:∀e∈G.ents,e.u≠""
 rb:lJ G.aL.reverse=G.nh.map hM
 rf:∀l∈G.aL,l.items.length<=1000
 rh:G.cT.length<=1000
structure TG.Tag(G:TG)(x:Nat):Prop where
 hx:x∈dR
 ni:∀e∈G.ents,e.u=bv x->e.p=⟨#[x]⟩
 fW:∀e∈G.nh,e.u=bv x->e.p=⟨#[x]⟩
 hex:∃e∈G.nh,e.u=bv x
abbrev iv(x:Nat):Str:=pF++⟨#[x]⟩++":"++cS
structure HS where
 hu:UInt64
 lg:UInt64
 pu:UInt64
 th:ab
 tl:ab
 tp:ab
 kh:ab
 kl:ab
 kp:ab
 tag:Str
 tt:ab
 kt:ab
 col:Str
 tc:ab
 kc:ab
abbrev HS.cl(H:HS)(w:aj)(c:Nat):List DictEntry:=nc (match c with
 |0=>[]|_=>[⟨aS w.params "colour", .str "colour" H.kc, .str H.col H.tc⟩])
abbrev TF.oA(T:TF)(w:aj)(D:DS)(H:HS)(f c:Nat):Obj:=nc (match f with
 |1=>⟨.type "frame",none, .dict (cE (T.base w D++([⟨aS w.params "key", .str "key" D.tw, .str ⟨D.ky.toArray⟩ D.ty⟩,⟨aS w.params "hue", .str "hue" H.kh, .float H.hu H.th⟩,⟨aS w.params "light", .str "light" H.kl, .float H.lg H.tl⟩,⟨aS w.params "pure", .str "pure" H.kp, .float H.pu H.tp⟩,⟨aS w.params "tag", .str "tag" H.kt, .str H.tag H.tt⟩]++H.cl w c))) (12+c),#[]⟩|_=>⟨.type "frame",none, .dict (cE (T.base w D++([⟨aS w.params "key", .str "key" D.tw, .str ⟨D.ky.toArray⟩ D.ty⟩,⟨aS w.params "figure", .str "figure" D.kf, .int D.fg D.tf⟩,⟨aS w.params "hue", .str "hue" D.kh, .float H.hu H.th⟩,⟨aS w.params "share", .str "share" D.ks, .float D.sh D.ts⟩,⟨aS w.params "value", .str "value" D.kv, .float D.va D.tv⟩,⟨aS w.params "light", .str "light" H.kl, .float H.lg H.tl⟩,⟨aS w.params "pure", .str "pure" H.kp, .float H.pu H.tp⟩,⟨aS w.params "tag", .str "tag" H.kt, .str H.tag H.tt⟩]++H.cl w c))) (15+c),#[]⟩)
def iw:List Stmt:=bodyOf sC.1
def Ie:List Nat:=(dN 62 0x5f294a5294a528421104200802108821004010844108020084220840100420083e10844008420)
def Pn:List Nat:=Ie++(dN 18 0xa500000100020000011400)
abbrev aEd(D:DS):Code:=nc (.call (.ref 175) ⟨[.float D.r D.tr, .float D.g D.tg, .float D.b D.tb],[]⟩)
def Ak(D:DS)(h l p m:UInt64)(k:Int)(x c:Nat):aF:=xB (aEd D) h l p λy=>n6 "float.__ne__" p 0 (match c with
  |0=>false|_=>true) (y 5) (y 1+5) λH=>match c with
 |0=> .nil|_=>lu "float.__mul__" h 4618441417868443648 m (y 3) (H 1+2) λJ=>zF m k (J 2) λJ=>cK "str.__getitem__" [.str "rygcbm" (H 1+1), .int k (J 2)] (λk=> .str ⟨#[x]⟩ k) λ_=> .nil
def xO(h l p:UInt64)(x c:Nat)(H:Xs):HS:=⟨h,l,p,H 0 3,H 0 4,H 0 5,H 0 1,H 0 1+1,H 0 1+2,(match c with
 |0=>"c"|_=>iu x),(match c with
 |0=>H 0 1+3|_=>H 4 1+2),H 0 1+4,"",0,0⟩
section
variable (w:aj)(T:TF)(D:DS)(h l p m:UInt64)(k:Int)(x:Nat)(sz tk:Nat)(σ:Xs)
theorem aEe(f:Nat)(H:f=1\/f=2):Ends [4] ((aI w 8 0 none 900).S [] σ ⟨[(T.L,T.aJ w D f)],sz,tk,Ie,Ak D h l p m k x 0⟩ (aV ((iw.drop 2).take 3) (kB T.L)) fin) (.ok .next,[some (T.L,T.oA w D (xO h l p x 0 σ) f 0)],σ 1 0,σ 1 1):=by rcases H with rfl|rfl<;>kernel_rfl
theorem aEf(f:Nat)(H:f=1\/f=2):Ends [4] ((aI w 8 0 none 900).S [] σ ⟨[(T.L,T.aJ w D f)],sz,tk,Pn,Ak D h l p m k x 1⟩ (aV ((iw.drop 2).take 3) (kB T.L)) fin) (.ok .next,[some (T.L,T.oA w D (xO h l p x 1 σ) f 0)],σ 4 0,σ 4 1+4):=by rcases H with rfl|rfl<;>kernel_rfl
end
structure SI where
 r:UInt64
 i:Int
 s:Str
abbrev vM(x:UInt64)(t:ab)(k:Int)(H:ab)(V:SI)(next:aM):aF:=cK "float.__mul__" [.float x t, .int k H] (λk=> .float V.r k) λm=>zF V.r V.i (m 2) λn=>cK "int.__repr__" [.int V.i (n 2)] (λk=> .str V.s k) next
def Po(b:Bool):List Nat:=[1,1,1,1,1,777,0,1,0,1,0]++((match b with
 |true=>[]|false=>[3,3,777,0,3,0,3])++(dN 140 0x39c4318c231906300c03008420080000be0000000000200000104000002118c831806018042100400005f000000000010000008200000108c6418c0300c021080200002f8000000000080000041000000846320c6018060))
def Ii(D:DS)(U V W:SI)(J:Str)(sz tk:Nat):aF:=vM D.r D.tr 2097152 (tk+2) U λa=>vM D.g D.tg 2097152 (a 1+1) V λb=>vM D.b D.tb 2097152 (b 1+1) W λc=>
 .cons (some 0) (bC "str.join" [.str " " tk, .ref (sz+2)]) [3] [(sz+2,listOf [ag.str U.s (a 2), .str V.s (b 2), .str W.s (c 2)].toArray 3)] (λx=>⟨.ok (.ret (.str J (x 2))),[(sz+2,listOf [ag.str U.s (a 2), .str V.s (b 2), .str W.s (c 2)].toArray 3)],[],x 0,x 1⟩) λ_=> .nil
theorem aEg(w:aj)(T:TF)(D:DS)(H:HS)(U V W:SI)(J:Str)(sz tk:Nat)(Y:Xs)(f:Nat)(Z:f=1\/f=2):Ends [6] ((aI w 8 0 none 900).S [] Y ⟨[(T.L,T.oA w D H f 0)],sz,tk,Po (w.params.followText "comprehension-iter-twice"),Ii D U V W J sz tk⟩ (aV ((iw.drop 5).take 1) (kB T.L)) fin) (.ok .next,[some (T.L,T.oA w D { H with col:=J,tc:=Y 9 2,kc:=Y 9 1 } f 1)],Y 9 0,Y 9 1+1):=by rcases Z with rfl|rfl<;>(revert w;refine byRow2 "comprehension-iter-twice" (λw=>?_) (λw=>?_)<;>kernel_rfl)
abbrev fB:List Stmt:=bodyOf u8.1
structure AT where
 at_:Nat
 ep:Nat
 n:Str
 c:Str
 s:Str
 l:Str
 h:Str
 tn:ab
 tc:ab
 ts:ab
 tl:ab
 th:ab
 kn:ab
 kc:ab
 ks:ab
 kl:ab
 kh:ab
abbrev fX(H:af):Obj:=nc (⟨.type "builtin_function_or_method",none, .fields #[.builtin "list.append", .ref H],#[]⟩)
structure SX where
 wm:Nat
 wl:Nat
 we:Nat
 wv:List ag
 dC:Nat
 cv:List ag
 eO:List ag
 t0:ab
abbrev Do(G:TG)(a:AT)(ta:Nat)(tag:Str)(t:ab):Args:=nc (⟨[.ref G.tg, .str tag t, .ref a.at_, .ref ta],[]⟩)
abbrev jS(L:af):Env:={ mB u8.1 126 L with cells:=[("parse_qname",L+1+1),("self",L+1)] }
abbrev tW(w:aj)(a ta:af)(tag:Str)(t:ab)(tk:Nat)(xs:List XO)(e:Nat):Obj:=nc (⟨.type "frame",none, .dict (cE ([⟨aS w.params "tag", .str "tag" tk, .str tag t⟩,⟨aS w.params "attrs", .str "attrs" (tk+1), .ref a⟩,⟨aS w.params "new_namespaces", .str "new_namespaces" (tk+2), .ref ta⟩,⟨aS w.params "qname_text", .str "qname_text" (tk+3), .none⟩]++xs)) e,#[]⟩)
abbrev nj(v:Option ag):Obj:=nc (⟨.type "cell",none, .cell v,#[]⟩)
abbrev aEh(w:aj)(a ta:af)(tag:Str)(t:ab)(tg:af)(L tk:Nat):List (af×aq):=[(L+1+1,nj none),(L+1,nj (some (.ref tg))),(L,tW w a ta tag t tk [] 4)]
def Inv(M:fU)(Γ:Ctx)(p:d5)(t:ca Fin)(s:am)(e:mU)(s':am):List qD->Prop
 |[]=>@WQ lj (λj=>Prop) t
  (λf=>@PySem.Fin.casesOn (λj=>Prop) f (λf=>e= .ret (.ok f)/\s'=s) λc=>eJ M (Γ.goto c) p (M.den c) [] s e s')
  (λx=>e= .ret (.error x)/\s'=s) (λj=>True) (λj=>True)
  (λj k=>eJ M Γ p (k ()) [] s e s')
  (λH k=>eJ M Γ H (k ()) [] s e s')
  (λa j k=>∃o,s.heap.get? a=some o/\eJ M Γ p (k o) [] s e s')
  (λa j f k=>eJ M Γ p (k ()) [] { s with heap:=s.heap.update a f } e s')
  (λo k=>eJ M Γ p (k s.heap.objs.size) [] { s with heap:=s.heap.push o } e s')
  (λa k=>eJ M Γ p (k (s.heap.get? a)) [] s e s')
  (λj k=>eJ M Γ p (k ()) [] s e s') (λj k=>True)
  (λk=>eJ M Γ p (k s.toks) [] { s with toks:=s.toks+1 } e s')
  (λk=>eJ M Γ p (k ⟨M.prog,M.w.params⟩) [] s e s')
  (λH n k=>eJ M Γ p (k (M.w.draws H (s.drawn.get H) % n)) [] { s with drawn:=s.drawn.bump H } e s')
  (λq j k=>eJ M Γ p (k (Os.step s.os q).2) [] { s with os:=(Os.step s.os q).1 } e s')
  (λc h g l k=>(∃r H,eJ M (Γ.enter c h p) p (M.den c) [] s (.ret r) H/\eJ M Γ p (k r) [] H e s')\/∃v Z tO J Y ot fs,eJ M (Γ.enter c h p) p (M.den c) [] s (.susp v Z tO J Y ot fs) s'/\e= .susp v Z tO J Y ot (fs++[.ret k h g l Γ.code p []]))
  (λown k=>eJ M Γ p (k (if own then Γ.own else Γ.handled)) [] s e s')
  (λc k=>eJ M Γ p (k s.gens.size) [] { s with gens:=s.gens.push (.fresh c) } e s')
  (λg k=>∃st,s.gens[g]?=some st/\eJ M Γ p (k st.seen) [] s e s')
  (λg r j k=>∃res H,iK M Γ p g r s res H/\eJ M Γ p (k res) [] H e s')
  (λv g l k=>e= .susp v g l k Γ.code p []/\s'=s)
  (λk=>eJ M Γ p (k ((Γ.code,p)::Γ.below)) [] s e s') (λj k=>True)
  (λk=>eJ M Γ p (k 0) [] s e s') (λj j j j j=>True)
 |F::fs=>(∃r H,eJ M (Γ.over (F::fs)) p t [] s (.ret r) H/\(match F with
   | .ret k _ _ _ qd q9 _=>eJ M (Γ.goto qd) q9 (k r) fs H e s'| .gen g k _ qd q9=>eJ M (Γ.goto qd) q9 (k (XJ r).result) fs (H.setGen g .finished) e s'))\/∃v Z tO J Y ot Dn H,eJ M (Γ.over (F::fs)) p t [] s (.susp v Z tO J Y ot Dn) H/\(match XA (F::fs)with
   |none=>e= .susp v Z tO J Y ot (Dn++F::fs)/\s'=H|some (pre,(g,k,qd,q9),rest)=>eJ M (Γ.goto qd) q9 (k (.yielded v)) rest (H.setGen g (End.susp v Z tO J Y ot (Dn++pre)).genState) e s')
theorem aEi{p:d5}{g:Nat}{c:bB}{v:ag}(H:s.gens[g]?=some (.fresh c))(n:v≠ .none):iK M Γ p g (.send v) s .justStarted s:=by
 unfold iK;refine rR H ?_;induction v with
 |none=>exact absurd rfl n|_=>exact⟨rfl,rfl⟩
theorem gL{p:d5}{t:ca Fin}{fs:List qD}{e:mU}(h:eJ M Γ p t fs s e s'):Inv M Γ p t s e s' fs:=by
 induction h using Runs.casesOn with
 |done=>exact⟨rfl,rfl⟩|raise=>exact⟨rfl,rfl⟩|yield=>exact⟨rfl,rfl⟩|again _ h=>exact h|update _ h=>exact h|choose _ h=>exact h|load a h=>exact⟨_,a,h⟩|genState a h=>exact⟨_,a,h⟩|call a b=>exact .inl ⟨_,_,a,b⟩|callSusp a=>exact .inr ⟨_,_,_,_,_,_,_,a,rfl⟩|resumeFresh g a q b=>exact⟨_,_,by unfold iK;refine rR g ?_;exact⟨_,_,a,q,rfl,rfl⟩,b⟩|resumeSuspended g a q b=>exact⟨_,_,by unfold iK;refine rR g ?_;exact⟨_,_,a,q,rfl,rfl⟩,b⟩|resumeJustStarted g n b=>exact⟨_,_,aEi g n,b⟩|resumeThrowFresh g b=>exact⟨_,_,by unfold iK;refine rR g ?_;exact⟨rfl,rfl⟩,b⟩|resumeRunning g b=>exact⟨_,_,by unfold iK;refine rR g ?_;exact⟨rfl,rfl⟩,b⟩|resumeFinished g b=>exact⟨_,_,by unfold iK;refine rR g ?_;exact⟨rfl,rfl⟩,b⟩|segRet a b=>exact .inl ⟨_,_,a,b⟩|segGen a b=>exact .inl ⟨_,_,a,b⟩|segSuspOut g a=>exact .inr ⟨_,_,_,_,_,_,_,_,a,rR g ⟨rfl,rfl⟩⟩|segSuspGen g a q b=>exact .inr ⟨_,_,_,_,_,_,_,_,a,rR g b⟩|rule h=>exact h|«at» h=>exact h|loadIfAlive h=>exact h|point h=>exact h|alloc h=>exact h|fresh h=>exact h|ask h=>exact h|os h=>exact h|handled h=>exact h|stack h=>exact h|thread h=>exact h|newGen h=>exact h
theorem Pp{x:Option α}{o:α}{P:α->Prop}(H:x=some o)(h:∃o,x=some o/\P o):P o:=by refine aO h λJ e h=>?_;exact dG (e.symm.trans H)▸h
section
variable {A:mU->am->Prop}{r:cw}{s1 s2:am}{Q:cw->am->Prop}{v:ag}{g:Bool}{l:List ag}{k:qG->ca Fin}{c:bB}{p:d5}{fs:List qD}
theorem Pq{H:cw}(h:XJ H= .ret r/\s'=s1)(q:Q H s'):Q r s1:=h.2▸End.ret.inj h.1▸q
theorem aEj{Z:ag->Bool->List ag->(qG->ca Fin)->bB->d5->List qD->Prop}(d:∀{e s},A e s->e= .ret r/\s=s1)(h:(∃r s,A (.ret r) s/\Q r s)\/∃v g l k c p fs,A (.susp v g l k c p fs) s2/\Z v g l k c p fs):Q r s1:=by
 rcases h with ⟨r,s,a,b⟩|⟨v,g,l,k,c,p,fs,a,z⟩
 ·exact Pq (d a) b
 ·have h:=(d a).1;injection h
theorem Ps{Z:ag->Bool->List ag->(qG->ca Fin)->bB->d5->List qD->am->Prop}(d:∀{e s},A e s->e= .ret r/\s=s1)(h:(∃r s,A (.ret r) s/\Q r s)\/∃v g l k c p fs s,A (.susp v g l k c p fs) s/\Z v g l k c p fs s):Q r s1:=by
 rcases h with ⟨r,s,a,b⟩|⟨v,g,l,k,c,p,fs,s,a,z⟩
 ·exact Pq (d a) b
 ·have h:=(d a).1;injection h
theorem Pt{Z:ag->Bool->List ag->(qG->ca Fin)->bB->d5->List qD->Prop}{J:ag}{g':Bool}{l':List ag}{k':qG->ca Fin}{c':bB}{Y:d5}{H:List qD}(h:End.susp J g' l' k' c' Y H= .susp v g l k c p fs)(z:Z J g' l' k' c' Y H):Z v g l k c p fs:=Eq.mp (congrArg (λe=>@End.casesOn _ e (λj=>True) Z) h) z
theorem aEk{Z:ag->Bool->List ag->(qG->ca Fin)->bB->d5->List qD->Prop}(d:∀{e s},A e s->e= .susp v g l k c p fs/\s=s1)(h:(∃r s,A (.ret r) s/\Q r s)\/∃v g l k c p fs,A (.susp v g l k c p fs) s2/\Z v g l k c p fs):Z v g l k c p fs/\s2=s1:=by
 rcases h with ⟨r,s,a,b⟩|⟨v,g,l,k,c,p,fs,a,z⟩
 ·have h:=(d a).1;injection h
 ·exact⟨Pt (d a).1 z,(d a).2⟩
theorem Pv{Z:ag->Bool->List ag->(qG->ca Fin)->bB->d5->List qD->am->Prop}(d:∀{e s},A e s->e= .susp v g l k c p fs/\s=s1)(h:(∃r s,A (.ret r) s/\Q r s)\/∃v g l k c p fs s,A (.susp v g l k c p fs) s/\Z v g l k c p fs s):Z v g l k c p fs s1:=by
 rcases h with ⟨r,s,a,b⟩|⟨v,g,l,k,c,p,fs,s,a,z⟩
 ·have h:=(d a).1;injection h
 ·exact Pt (Z:=λv g l k c p fs=>Z v g l k c p fs s1) (d a).1 ((d a).2▸z)
end
section
variable {p:d5}{g:Nat}{s2:am}{Q:XI->am->Prop}
theorem aEl{c:bB}{e:mU}(Z:s.gens[g]?=some (.fresh c))(d:∀{e2 s2},eJ M (Γ.wake c p) p (M.den c) [] (s.setGen g .running) e2 s2->e2=e/\s2=s')(h:∃H J,iK M Γ p g (.send .none) s H J/\Q H J):Q e.result (s'.setGen g e.genState):=by refine c7 h λH J Y b=>?_;unfold iK at Y;rw[Z]at Y;obtain⟨z,z,a,z,rfl,rfl⟩:=Y;obtain⟨rfl,rfl⟩:=d a;exact b
theorem aEm{H:qG->ca Fin}{l:List ag}{J:bB}{Z:d5}{fs:List qD}{cl:Bool}{r:qG}{e:mU}(ho:s.gens[g]?=some (.suspended H l J Z fs cl))(d:∀{e2 s2},eJ M (Γ.wake J p) Z (H r) fs (s.setGen g .running) e2 s2->e2=e/\s2=s')(h:∃H J,iK M Γ p g r s H J/\Q H J):Q e.result (s'.setGen g e.genState):=by refine c7 h λH J Y b=>?_;unfold iK at Y;rw[ho]at Y;obtain⟨z,z,a,z,rfl,rfl⟩:=Y;obtain⟨rfl,rfl⟩:=d a;exact b
theorem aEn{c:bB}{v:ag}(Z:s.gens[g]?=some (.fresh c))(n:v≠ .none)(h:∃H Y,iK M Γ p g (.send v) s H Y/\Q H Y):Q .justStarted s:=by
 refine c7 h λH Y J b=>?_;unfold iK at J;rw[Z]at J;have J:H= .justStarted/\Y=s:=by
  induction v with
  |none=>exact absurd rfl n|_=>exact J
 obtain⟨rfl,rfl⟩:=J;exact b
theorem aEo{c:bB}{x:ag}(Z:s.gens[g]?=some (.fresh c))(h:∃H J,iK M Γ p g (.throw x) s H J/\Q H J):Q (.raised x) (s.setGen g .finished):=by refine c7 h λH J Y b=>?_;unfold iK at Y;rw[Z]at Y;obtain⟨rfl,rfl⟩:=Y;exact b
theorem aEp{r:qG}(Z:s.gens[g]?=some .running)(h:∃H J,iK M Γ p g r s H J/\Q H J):Q .running s:=by refine c7 h λH J Y b=>?_;unfold iK at Y;rw[Z]at Y;obtain⟨rfl,rfl⟩:=Y;exact b
theorem aEq{r:qG}(Z:s.gens[g]?=some .finished)(h:∃H J,iK M Γ p g r s H J/\Q H J):Q .finished s:=by refine c7 h λH J Y b=>?_;unfold iK at Y;rw[Z]at Y;obtain⟨rfl,rfl⟩:=Y;exact b
end
theorem aEr{p:d5}{t:ca Fin}{fs:List qD}{e:mU}(h:eJ M Γ p t fs s e s'):∀{e2:mU}{J:am},eJ M Γ p t fs s e2 J->e2=e/\J=s':=by
 induction h with
 |load ho _ H=>intro e2 J h;have h:=Pp ho (gL h);exact H h|genState ho _ H=>intro e2 J h;have h:=Pp ho (gL h);exact H h|call _ _ iy kI=>exact λh=>kI (aEj iy (gL h))|callSusp _ iy=>intro e2 J h;exact aEk iy (gL h)|resumeFresh ho _ _ _ iy kI=>exact λh=>kI (aEl ho iy (gL h))|resumeSuspended ho _ _ _ iy kI=>exact λh=>kI (aEm ho iy (gL h))|resumeJustStarted ho n _ H=>exact λh=>H (aEn ho n (gL h))|resumeThrowFresh ho _ H=>exact λh=>H (aEo ho (gL h))|resumeRunning ho _ H=>exact λh=>H (aEp ho (gL h))|resumeFinished ho _ H=>exact λh=>H (aEq ho (gL h))|segRet _ _ iy kI=>exact λh=>kI (Ps iy (gL h))|segGen _ _ iy kI=>exact λh=>kI (Ps iy (gL h))|segSuspOut hs _ iy=>intro e2 J h;have b:=Pv iy (gL h);rw[hs]at b;exact b|segSuspGen hs _ _ _ iy kI=>intro e2 J h;have b:=Pv iy (gL h);simp only[hs]at b;exact kI b|done=>exact λh=>gL h|raise=>exact λh=>gL h|yield=>exact λh=>gL h|again _ _ H=>exact λh=>H (gL h)|update _ _ H=>exact λh=>H (gL h)|choose _ _ H=>exact λh=>H (gL h)|_=>rename_i H;exact λh=>H (gL h)
theorem aEs{c:bB}{J H:cw->am->Prop}(Z:eC M A c J s)(Y:eC M A c H s):eC M A c (λr s'=>J r s'/\H r s') s:=λΓ p J H=>by
 refine hO λcg aY=>c7 (Z Γ p J H) λr s' a b=>c7 (Y Γ p J H) λr2 H a2 b2=>?_;obtain⟨x,rfl⟩:=aEr a a2;refine aY ?_;injection x with x;subst x
 exact⟨_,_,a,b,b2⟩
section
open PySem PySem.W PySem.W.X PyProof.Rows PySem.Calls
set_option maxHeartbeats 4000000
theorem aEt{t:pG}(n:Nat)(h:t.plain=false):(t.orStandIn n).plain=false:=by
 unfold SetTable.orStandIn;split;·exact h
 ·rfl
theorem aEu{t:pG}(H:Array (Int×ag))(i:Int)(x:ag)(h:t.plain=false):(layNew t H i x).2.1.plain=false:=by
 unfold layNew;split;·exact aEt _ h
 ·rfl
theorem aEv{t t':pG}{J:Array Int}{o:Array Nat}(e:t.relaid J n=some (t',o)):t'.plain=t.plain:=by
 unfold aTy XP at e;induction H:XQ _ J with
 |none=>replace e:=H▸e;injection e|some ow=>rw[H]at e;simp only[aTz,Mt,pure,Ge,si]at e;exact rL e.1 rfl
theorem aEw{t:pG}(H:Array (Int×ag))(n:Nat)(h:t.plain=false):(B6 t H n).2.1.plain=false:=by
 unfold B6;split
 ·rename_i H H e;dsimp only;split;·exact(aEv e).trans h
  ·rfl
 ·rfl
def tX(w:aj)(e:Int×ag)(k:Str):Prop:=e.1=wZ w k/\∃t,e.2= .str k t
inductive F2(w:aj):List (Int×ag)->List Str->Prop
 |nil:F2 w [] []
 |cons {e k l ks:_}:tX w e k->F2 w l ks->F2 w (e::l) (k::ks)
def f7(w:aj)(ks:List Str)(o:aq):Prop:=o.ExactSet/\∃H ep t J,o.data= .set H ep t/\cF J ks/\F2 w H.toList J/\t.fits H.size=true/\(ks≠[]->t.plain=false)
theorem Pw{l l':List (Int×ag)}(p:cF l' l):∀{ks:List Str},F2 w l ks->∃H,cF H ks/\F2 w l' H:=by
 induction p with
 |nil=>intro ks h;cases h;exact⟨[], .refl _, .nil⟩|cons x p ih=>
  intro ks h;cases h with
  |cons a b=>exact aO (ih b) λH q f=>⟨_::H,q.cons _, .cons a f⟩
 |swap x y l=>
  intro ks h;cases h with
  |cons a b=>cases b with
   |cons c d=>exact⟨_, .swap .., .cons c (.cons a d)⟩
 |trans p q iy kI=>intro ks h;exact aO (kI h) λH Y H=>aO (iy H) λJ Z H=>⟨J,Z.trans Y,H⟩
theorem Px{l:List (Int×ag)}(h:F2 w l ks){e:Int×ag}(he:e∈l):∃k∈ks,tX w e k:=by
 induction h with
 |nil=>contradiction|cons a b ih=>
  rcases a9.mp he with rfl|he
  ·exact⟨_,az,a⟩
  ·exact aO (ih he) λk H x=>⟨k,aB H,x⟩
theorem Al{l:List (Int×ag)}(h:F2 w l ks):l.length=ks.length:=by
 induction h with
 |nil=>rfl|cons a b ih=>simp only[eH,eH,ih]
theorem aEx{l:List (Int×ag)}(h:F2 w l ks){e:Int×ag}{k:Str}(x:tX w e k):F2 w (l++[e]) (ks++[k]):=by
 induction h with
 |nil=>exact .cons x .nil|cons a b ih=>exact .cons a ih
section
theorem tX.elems{l:List (Int×ag)}(h:F2 w l ks):XR (lm prog w) l:=λe J=>by
 obtain⟨k,z,Y,t,H⟩:=Px h J;refine⟨⟨k,?_,Y⟩,?_⟩;·exact rR H (mh ..)
 ·refine rR H ?_;rfl
theorem tX.absent{l:List (Int×ag)}(h:F2 w l ks){k:Str}(J:k ∉ ks):l.findIdx? (λe=>(lm prog w).is k e.2)=none:=by
 refine aT0.mpr λe Y=>?_;obtain⟨k',js,z,t,Z⟩:=Px h Y;induction hb:(lm prog w).is k e.2 with
 |false=>rfl|true=>
  exfalso;obtain⟨Y,H⟩:=Gf hb;rw[Z]at H;injection H with H
  exact J (H▸js)
theorem f7.store{J:List Str}{a:af}{o:aq}{es H:Array (Int×ag)}{t t':pG}{h:aw}(ho:h.get? a=some o)(Z:o.ExactSet)(hd:o.data= .set es ep t)(hp:cF J ks)(hf:F2 w H.toList J)(Y:t'.fits H.size=true)(jt:t'.plain=false):(h.update a (MF H t')).get? a=some { o with data:= .set H (ep+1) t' }/\f7 w ks { o with data:= .set H (ep+1) t' }:=by
 have hg:(h.update a (MF H t')).get? a=some { o with data:= .set H (ep+1) t' }:=by have:=nM (MF H t') ho (by refine rR (putSet_of H t' hd) ?_;rfl);rw[putSet_of H t' hd]at this;exact this
 exact⟨hg,Z,H,ep+1,t',J,rfl,hp,hf,Y,λz=>jt⟩
set_option maxHeartbeats 8000000 in
theorem Py{a:af}{k:Str}{tk:ab}{o:aq}{Q:Bool->am->Prop}(ho:s.heap.get? a=some o)(hS:f7 w ks o)(hk:k ∉ ks)(hn:ks.length< 100)(h:∀h' o',lb a s.heap h'->h'.get? a=some o'->f7 w (ks++[k]) o'->Q true { s with heap:=h' }):
  aG (aR prog w) A (setAddHashed a (.str k tk) (wZ w k)) Q E s:=by
 refine hO λcg aY=>?_;obtain⟨hex,Y,ep,t,fe,hd,hp,iU,hf,jt⟩:=hS;refine aY ?_;have jR:XR (lm prog w) Y.toList:=tX.elems iU;have fM:Y.size=ks.length:=by rw[<-nP,Al iU,hp.length_eq]
 refine fV (au (pH ho hd hf ?_));dsimp only;refine rR (byScan_of rfl (aT [lL Y1 100,eQ Y0 Y1] (lL Y0 4096) rfl hn fM) jR) (au ?_);refine au (qy ?_);refine au (aT1 (mh ..) ho hd hf jR ?_);refine rR (tX.absent iU (λm=>hk (hp.mem_iff.mp m))) ?_;have Pz:∀(b:Bool){ba:am}{Q':Unit->am->Prop},Q' () ba->aG (aR prog w) A (match b with|true=>rule "set.scan.the-table-gave-way"|false=>pure ()) Q' E ba:=
  λb ba Q' hq=>by induction b<;>first|exact aH hq|exact qy hq
 have ri:=layNew_perm t Y (wZ w k) (.str k tk);have Ij:=layNew_fits t Y (wZ w k) (.str k tk);have aEz:=λz=>aEu (t:=t) Y (wZ w k) (.str k tk) z;generalize hL:layNew t Y _ _=L at ri Ij aEz ⊢;obtain⟨H,t1,aE0,Y⟩:=L;simp only[aT2]at ri;refine aO (Pw ri (aEx iU ⟨rfl,tk,rfl⟩)) λY Y Am=>?_;have Ik:=Y.trans (hp.append_right _);refine au (Pz _ ?_);have Y:H.size=ks.length+1:=by refine rL nP (rR (Al Am) (rR Ik.length_eq (rR bQ ?_)));rfl
 have PA:=aT [lL Y1 100,eQ Y0 (Y1+1)] (lE Y0 16777216) rfl hn Y;have J:∀t2:pG,t2.fits H.size=true->t2.plain=false->
   aG (aR prog w) A (do
    storeSet a H t2
    if(!aE0 && t2.tooFull)=true then do
      (match (B6 t2 H (B7 H.size)).2.2 with|true=>rule "set.scan.the-table-gave-way"|false=>pure ())
      storeSet a (B6 t2 H (B7 H.size)).1 (B6 t2 H (B7 H.size)).2.1
      pure (some true)
     else pure (some true)) (λr s'=>r=some true/\Q true s') E s:=by
  intro t2 Y fW;refine d7 (f7.store ho hex hd Ik Am Y fW) λAn oE=>?_;have Dp:=ia s.heap a (MF H t2);refine au (XT ho hd ?_ PA);split
  ·have ou:=relayAll_perm t2 H (B7 H.size);have jo:=relayAll_fits t2 H (B7 H.size);have PB:=aEw H (B7 H.size) fW;generalize B6 t2 H _=Rl at ou jo PB ⊢;refine aO (Pw ou Am) λH Y H=>au (Pz _ ?_);refine au (XT An rfl ?_ (rL nP (rR ou.length_eq (rR nP PA))));exact d7 (f7.store An hex rfl (Y.trans Ik) H jo PB) λhg2 kK=>aH ⟨rfl,h _ _ (Dp.trans (ia ..)) hg2 kK⟩
  ·exact aH ⟨rfl,h _ _ Dp An oE⟩
 have Z:∀(r:Option Bool)(s':am),(r=some true/\Q true s')->aG (aR prog w) A (match r with|some added=>pure added|none=>setAddHashedIn a (.str k tk) (wZ w k) 99999) Q E s':=by rintro r s' ⟨rfl,hq⟩;exact aH hq
 induction Ao:t1.plain with
 |true=>refine au (aH ?_);exact pz (J _ (SetTable.fits_plain_off Ij) rfl) (λr s' H=>Z r s' H) λj j e=>e|false=>refine au (aH ?_);exact pz (J _ Ij Ao) (λr s' H=>Z r s' H) λj j e=>e
noncomputable def gM(ks:List Str)(k:Str):List Str:=if k∈ks then ks else ks++[k]
theorem F2.met{l:List (Int×ag)}(h:F2 w l ks){k:Str}(hk:k∈ks):∃j,l.findIdx? (λe=>(lm prog w).is k e.2)=some j:=by
 induction H:l.findIdx? _ with
 |some j=>exact⟨j,rfl⟩|none=>
  have J:=aT0.mp H;clear H;induction h with
  |nil=>cases hk|cons a b ih=>
   rcases a9.mp hk with rfl|hk
   ·obtain⟨z,t,e⟩:=a;have:=J _ az;simp only[e,mh]at this;injection this
   ·exact ih hk λx H=>J x (aB H)
theorem PC{a:af}{k:Str}{tk:ab}{o:aq}{Q:Bool->am->Prop}(J:s.heap.get? a=some o)(hS:f7 w ks o)(hn:ks.length< 100)(h:∀b h' Y,lb a s.heap h'->h'.get? a=some Y->f7 w (gM ks k) Y->Q b { s with heap:=h' }):aG (aR prog w) A (setAddHashed a (.str k tk) (wZ w k)) Q E s:=by
 by_cases H:k∈ks
 ·have Io:gM ks k=ks:=by unfold gM;rw[if_pos H]
  replace h:=Io▸h;have hS0:=hS;refine hO λcg aY=>?_;obtain⟨hex,es,ep,t,fe,hd,hp,Z,hf,jt⟩:=hS;refine aY ?_;have jR:XR (lm prog w) es.toList:=tX.elems Z;have fM:es.size=ks.length:=by rw[<-nP,Al Z,hp.length_eq]
  obtain⟨j,hj⟩:=F2.met Z (hp.mem_iff.mpr H);refine fV (au (pH J hd hf ?_));dsimp only;refine rR (byScan_of rfl (aT [lL Y1 100,eQ Y0 Y1] (lL Y0 4096) rfl hn fM) jR) (au ?_);refine au (qy ?_);refine au (aT1 (mh ..) J hd hf jR ?_);exact hj▸aH (aH (h false s.heap o (aT3 _ _) J hS0))
 ·have Io:gM ks k=ks++[k]:=by unfold gM;rw[if_neg H]
  replace h:=Io▸h;exact Py J hS H hn λh' Y J Z H=>h true h' Y J Z H
end
end
section
open PySem PySem.W PySem.W.X PyProof.Rows PySem.Calls
set_option maxHeartbeats 4000000
theorem aE4(h:Nat):XU 15 (XV 16 (none:Option Nat)) (SetTable.turns 15) (h % 16) h=some (h % 16):=by
 have H:h % 16< 16:=uP _ (by decide);generalize h % 16=i at H ⊢;show XU 15 _ (29+1) _ _=_;unfold XU;have J:fH (Gg 15 i+1 - i)=0::(fH (Gg 15 i - i)).map Nat.succ:=by
  have:Gg 15 i+1 - i=(Gg 15 i - i)+1:=by unfold Gg;split;exact WG (fF ..);exact WG (a8 _)
  simp only[this,List.range_succ_eq_map]
 refine rR J (rR (List.find?_cons_of_pos (by simp[Array.getD,H])) ?_);rfl
theorem aE5:∀i:_root_.Fin 16,((fH 16).filterMap λj=>((((XV 16 (none:Option Nat)).setIfInBounds i.val (some 0)).getD j none).map λx=>(j,x)))=[(i.val,0)]:=by decide+kernel
theorem aE6(f H:Nat)(led J:Bool)(h:Int):XP 15 f H led J #[h]=some ({ mask:=15,place:=#[B8 h % 16],dummies:=#[],finger:=f,led:=led,moves:=H,plain:=J },#[0]):=by
 have H:XQ 15 #[h]=some ((XV 16 none).setIfInBounds (B8 h % 16) (some 0)):=by unfold XQ;simp[aE4]
 unfold XP;refine rR H ?_;have H:B8 h % 16< 16:=uP _ (by decide);have:=aE5 ⟨_,H⟩;simp only[aTz,Mt];refine rR this ?_;rfl
theorem aE7:∀l:List α,l.length=1->∃x,l=[x]
 |[x],_=>⟨x,rfl⟩
section
theorem aE8{a:af}{k:Str}{o:aq}{Q:Unit->am->Prop}(Y:s.heap.get? a=some o)(hS:f7 w [k] o)(h:∀h' o',lb a s.heap h'->h'.get? a=some o'->f7 w [k] o'->Q () { s with heap:=h' }):aG (aR prog w) A (setRoomFor a 5) Q E s:=by
 refine hO λcg aY=>?_;obtain⟨hex,J,ep,t,fe,Z,hp,iU,hf,jt⟩:=id hS;refine aY ?_;have hl:J.size=1:=by refine rL nP (rR (Al iU) (rR hp.length_eq ?_));rfl
 obtain⟨x,hx⟩:∃x,J=#[x]:=by obtain⟨l⟩:=J;obtain⟨x,rfl⟩:=aE7 l hl;exact⟨x,rfl⟩
 refine au (pH Y Z hf ?_);dsimp only;have Ip:t.place.size=1:=by rw[SetTable.fits,gw,beq_iff_eq]at hf;rw[hf.1,hl]
 unfold SetTable.roomFor;split
 ·rename_i wanted H;split at H
  ·injection H with H
   rw[Ip]at H;subst H;refine au (pH Y Z hf ?_);dsimp only;have hm:J.map (·.1)=#[x.1]:=by rw[hx];simp
   have hr:t.relaid (J.map (·.1)) ((1+5)*2)=some ({ mask:=15,place:=#[B8 x.1 % 16],dummies:=#[],finger:=t.finger,led:=t.led,moves:=t.movedTo 15,plain:=t.plain },#[0]):=by unfold aTy;exact rR hm (rR (show SetTable.sizeAbove _ - 1=15 from by decide+kernel) (aE6 ..))
   refine rR hr (au (jd (a:=(J,({ mask:=15,place:=#[B8 x.1 % 16],dummies:=#[],finger:=t.finger,led:=t.led,moves:=t.movedTo 15,plain:=t.plain }:pG))) (by subst hx;rfl) ?_));refine XT Y Z ?_ (rR nO (rR hl (dF ..)));obtain⟨An,oE⟩:=f7.store (t':={ mask:=15,place:=#[B8 x.1 % 16],dummies:=#[],finger:=t.finger,led:=t.led,moves:=t.movedTo 15,plain:=t.plain }) Y hex Z hp iU (by refine rR hl ?_;rfl) (jt (by simp));exact h _ _ (ia ..) An oE
  ·injection H
 ·exact aH (h _ _ (aT3 _ _) Y hS)
end
end
section
open PySem PySem.W PySem.W.X PyProof.Rows PySem.Calls
set_option maxHeartbeats 4000000
section
theorem take_snoc{l:List Str}{i:Nat}{x:Str}(h:l[i]?=some x):l.take (i+1)=l.take i++[x]:=by refine rR List.take_add_one (rR h ?_);rfl
theorem PE{l:List Str}{i:Nat}{x:Str}(h:l[i]?=some x):(l.take (i+1)).foldl gM [k0]=gM ((l.take i).foldl gM [k0]) x:=by refine rR (take_snoc h) (rR XW ?_);rfl
theorem aE9(ks:List Str)(k:Str):(gM ks k).length<=ks.length+1:=by
 unfold gM;split;·exact fF ..
 ·simp
theorem Iq:∀(l ks:List Str),(l.foldl gM ks).length<=ks.length+l.length
 |[],_=>a8 _|x::l,ks=>by have:=Iq l (gM ks x);exact qN [lE Y0 (Y3+Y2),lE Y3 (Y1+1)] (lE Y0 (Y1+(Y2+1))) rfl this (aE9 ks x)
theorem aFa{d:af}{H:List (Str×ag)}(hh:A.handled=none)(PF:d≠I)(PG:S ∉ [I,d])(hl:H.length< 90):∀(k i:Nat)(s:am)(o:aq),H.length - i=k->i<=H.length->s.heap.IsKeyIter I d i H.length ep->s.heap.DictAt (lm prog w) d H ep->s.heap.get? S=some o->f7 w (((H.map (·.1)).take i).foldl gM [k0]) o->(∀h' tk o',(∀b J,b ∉ [S,I]->s.heap.get? b=some J->h'.get? b=some J)->h'.get? S=some o'->f7 w ((H.map (·.1)).foldl gM [k0]) o'->R (.ok (.ret .none)) { s with heap:=h',toks:=tk })->eC (aR prog w) A (.builtin "set.update.loop" ⟨[.ref S, .ref I],[]⟩) R s:=by
 intro k;have It:S≠I:=λe=>PG (by simp[e]);induction k with
 |zero=>intro i s o hk Z aZ d9 ho hS hR;have vN:=c8 (Z) (cz [eQ Y2 0,eQ (Y2+Y1) Y0] (lE Y0 Y1) [1,-1] 1 rfl hk (bX (Z)));subst vN;refine qw aT4 (au ((aT5 (by trivial) I d PF H ep).done s _ _ ⟨aZ,d9⟩ λh' tk js=>?_));refine aH (hR h' tk o (λb J hb e=>js b J (λY=>hb (by simp[Y])) e) (js S o (λY=>It (by simpa using Y)) ho) ?_);rw[Mq (by simp)]at hS;exact hS|succ k ih=>
  intro i s o hk Z aZ d9 ho hS hR;have bp:=lq [eQ Y2 (Y3+1),eQ (Y2+Y0) Y1] (lL Y0 Y1) [-1,1] 1 rfl hk (bX (Z));refine qw aT4 (au ((aT5 (by trivial) I d PF H ep).item i s _ _ bp ⟨aZ,d9⟩ λv h' tk hP PH js=>?_));refine c7 hP λx xv hx Dq=>?_;obtain⟨t,rfl⟩:=Gf Dq;have Iu:(H.map (·.1))[i]?=some x:=by refine rR (dL) (rR hx ?_);rfl
  refine au (fV ?_);refine fV (au ((lm prog w).pyHash Dq ?_));refine PC (s:={ s with heap:=h',toks:=tk+1 }) (js S o (λY=>It (by simpa using Y)) ho) hS ?_ λbb h2 o2 gr tY kK=>?_
  ·have:=Iq ((H.map (·.1)).take i) [k0];simp only[eH,w4,dA,B9]at this;exact qN [lL Y1 90,lE Y2 Y1,lE Y0 (0+1+Y3),eQ Y3 Y2] (lL Y0 100) rfl hl Z this (r5 (Z))
  rw[<-PE Iu]at kK;refine aH ⟨FZ aXd _,ih (i+1) _ o2 (congrArg Nat.pred hk) (aT [lL Y0 Y1] (lE (Y0+1) Y1) rfl bp) (PH.1.at λo' e=>(gr.2 I (λH=>It H.symm)).trans e) (PH.2.at' λo' e=>(gr.2 d (λH=>(λe=>PG (by simp[e])) H.symm)).trans e) tY kK λh3 vO o3 hk3 Z hS3=>?_⟩;refine hR h3 vO o3 (λb J hb e=>hk3 b J hb ?_) Z hS3;exact(gr.2 b (λH=>hb (by simp[H]))).trans (js b J (λY=>hb (by simp[Y])) e)
theorem aFb{d:af}{J:List (Str×ag)}{o:aq}{Q:Unit->am->Prop}(hh:A.handled=none)(vP:(d==ic)=false)(d9:s.heap.DictAt (lm prog w) d J ep)(ho:s.heap.get? S=some o)(hS:f7 w [k0] o)(hl:J.length=5)(cA:S≠d)(h:∀h' tk H,(∀b ob,b≠S->s.heap.get? b=some ob->h'.get? b=some ob)->h'.get? S=some H->f7 w ((J.map (·.1)).foldl gM [k0]) H->Q () { s with heap:=h',toks:=tk }):
  aG (aR prog w) A (aT6 S (.ref d)) Q E s:=by
 refine hO λcg aY=>YU (id d9) λod es xQ Ad Dr Iv ou mE=>aY ?_;have hT:=d9.dictOf.typeIs;have fM:es.size=5:=by refine rL hl (rL ou.length ?_);rfl
 have road:aG (aR prog w) A (do let _ <-runValue (.builtin "set.update.loop" ⟨[.ref S,<-MG (.ref d)],[]⟩)) Q E s:=by refine au (wpAny_pyIter_dict vP d9 ?_);refine au (aT7 ?_);refine aFa hh (du (dH xQ)) (by simp[du (dH ho),cA]) (bu [eQ Y0 5] (lL Y0 90) rfl hl) J.length 0 _ o (rfl) (fZ _) ⟨_,gY _ rfl,rfl,rfl⟩ (d9.push _) (cZ _ ho) hS λh' tk H js lF Z=>?_;refine aH (h h' tk H (λb ob hb e=>js b ob ?_ (cZ _ e)) lF Z);simp only[a9,bI,bi,or_false,not_or];exact⟨hb,du (dH e)⟩
 unfold aT6;refine au (mT hT F.sub_dict_set ?_);refine au (mT hT F.sub_dict_frozenset ?_);refine au (w5 ?_);induction hb:(aR prog w).w.params.followText "set-display-star-reads-storage" with
 |true=>exact road|false=>
  refine au (uV hT ?_);refine au (qy ?_);refine rR (if_neg (vP▸F6)) (au (aT8 xQ Dr ?_));refine au (aT9 xQ Dr ?_);refine rR fM (au (aE8 ho hS λh1 o1 Dp vQ oE=>?_));refine au (rR (aXe ..) ?_);refine aUa _
   (λrest z s'=>∃h' i H,s'={ s with heap:=h' }/\rest=MH i (5 - i)/\i<=5/\h'.get? S=some H/\f7 w (((J.map (·.1)).take i).foldl gM [k0]) H/\lb S s.heap h')
   _ ?_ ?_ _ _ ⟨h1,0,o1,rfl,by rfl,fZ _,vQ,oE,Dp⟩
  ·rintro x rest b s' ⟨h',i,H,rfl,Y,hi,lF,Z,mA⟩;have bp:i< 5:=by
    rcases W8 i 5 with h|h
    ·exact h
    ·rw[BU h]at Y;simp at Y
   obtain⟨rfl,aFc⟩:x=i/\rest=MH _ _:=by
    have e:=s1 (FI bp);rw[e,aUb]at Y;injection Y with h1 h2
    exact⟨h1,h2⟩
   have Iw:=fM▸bp;have PI:=hl▸bp;have PJ:=(mA.2 d (λe=>cA e.symm)).trans xQ;obtain⟨k,hk⟩:∃k,J[x]?=some k:=⟨J[x],by simp[PI]⟩
   have oF:=(ou.get? (e:=es[x]) (by simp[Iw]) hk).1;refine aO (Iv es[x] (Array.getElem_mem Iw)) λk' js PK=>?_;simp only[((lm prog w).inj _ _ _ js oF)]at PK;obtain⟨t,Dq⟩:=Gf oF;have Iu:(J.map (·.1))[x]?=some k.1:=by rw[dL,hk];rfl
   refine au (aT9 PJ Dr ?_);refine rR (yZ Iw) ?_;refine au (fV (au ?_));refine rR Dq (rR (show es[x].hash=wZ w k.1 from PK) ?_);refine PC lF Z (by have:=Iq ((J.map (·.1)).take x) [k0];simp only[eH,w4,dA,B9]at this;exact b7 [lE Y1 5,lE Y0 (0+1+Y2),eQ Y2 Y1] (lL Y0 100) rfl hi this (r5 (cR PI))) λJ h2 J PL tY kK=>?_;rw[<-PE Iu]at kK;refine aH (au (aT8 ((PL.2 d (λe=>cA e.symm)).trans PJ) Dr ?_));exact rR (if_neg (by simp)) (aH ⟨h2,x+1,J,rfl,aFc,aE bp (by decide),tY,kK,mA.trans PL⟩)
  ·rintro b s' ⟨h',i,H,rfl,Y,hi,lF,Z,mA⟩;have h5:i=5:=by
    rcases W8 i 5 with h|h
    ·rw[show 5 - i=_+1 from s1 (FI h),aUb]at Y;simp at Y
    ·exact c8 (aE hi (by decide)) (bu [lE 5 Y0] (lE 5 Y0) rfl h)
   subst h5;rw[Mq (by simp[hl])]at Z;refine aH (h h' s.toks H (λb ob hb e=>(mA.2 b hb).trans e) lF Z)
end
end
section
open PySem PySem.W PySem.W.X PyProof.Rows PySem.Calls
set_option maxHeartbeats 4000000
section
variable {m:Str->Option ag}
theorem aFd(led:Bool):f7 w [] { cls:= .type "set",dict:=none,data:= .set #[] 0 (.fresh 0 0 led) }:=⟨⟨rfl,rfl,rfl⟩,#[],0, .fresh ..,[],rfl, .refl _, .nil,rfl,λh=>absurd rfl h⟩
end
end
section
open PySem PySem.W PySem.W.X PyProof.Rows PySem.Calls
set_option maxHeartbeats 4000000
theorem PM:Manifest.owners.lookup (String.ofList ['r','o','t','a','r','e','t','i','_','t','e','s'].reverse)=some Manifest.sig_set_iterator:=by kernel_rfl
theorem vU:yX "set_iterator" "__next__" "set_iterator.__next__":= .of (owner:="set_iterator") (n:="__next__") (by kernel_rfl) (by decide+kernel) (by decide+kernel) (by decide+kernel)
  (by first|exact .inl (by decide+kernel)|exact .inr _) (by kernel_rfl)
theorem PN:yX "set_iterator" "__iter__" "set_iterator.__iter__":= .of (owner:="set_iterator") (n:="__iter__") (by kernel_rfl) (by decide+kernel) (by decide+kernel) (by decide+kernel)
  (by first|exact .inl (by decide+kernel)|exact .inr _) (by kernel_rfl)
theorem PO:me gy "set_iterator.__next__"=some Builtin.«set_iterator.__next__»:=aUc (by kernel_rfl)
theorem aFe:me gy "set_iterator.__iter__"=some Builtin.«dict_keyiterator.__iter__»:=aUd (id':="dict_keyiterator.__iter__") (by kernel_rfl) rfl (by decide+kernel) (by kernel_rfl)
theorem PP(a:ag):lc "set_iterator.__next__" ⟨[a],[]⟩:=by unfold lc;refine rR (signature?_of (n:=['_','_','t','x','e','n','_','_']) (by kernel_rfl) PM) ?_;kernel_rfl
theorem aFf(a:ag):lc "set_iterator.__iter__" ⟨[a],[]⟩:=by unfold lc;refine rR (signature?_of (n:=['_','_','r','e','t','i','_','_']) (by kernel_rfl) PM) ?_;kernel_rfl
theorem aFg:me gy "set.__iter__"=some Builtin.«frozenset.__iter__»:=aUd (id':="frozenset.__iter__") (by kernel_rfl) rfl (by decide+kernel) (by kernel_rfl)
end
section
open PySem PySem.W PySem.W.X PyProof.Rows PySem.Calls
set_option maxHeartbeats 4000000
theorem Ix:∀{l:List α}{i:Nat}(h:i< l.length),cF (l[i]'h::l.eraseIdx i) l
 |x::l,0,_=> .refl _|x::l,i+1,h=>by exact(jK ..).trans ((Ix (by simpa using h)).cons x)
theorem aFh(f:Nat->Nat):∀(n k:Nat)(l:List α)(out:Array α),n=l.length->cF (XX f n k l out).toList (out.toList++l):=by
 intro n;induction n with
 |zero=>intro k l out h;induction l with
  |nil=>unfold XX;simp|cons=>injection h
 |succ n ih=>intro k l out h;have H:f k % l.length< l.length:=uP _ (aT [eQ (Y1+1) Y0] (lL 0 Y0) rfl h);unfold XX;refine rR (gD H) ?_;refine(ih _ _ _ (aUe H▸c8 (cz [eQ (Y0+1) Y2,eQ (Y1+1) Y2] (lE Y0 Y1) [1,-1] 1 rfl h (bX (aT [eQ (Y1+1) Y0] (lE 1 Y0) rfl h))) (cz [eQ (Y1+1) Y2,eQ (Y0+1) Y2] (lE Y0 Y1) [-1,1] 1 rfl h (bX (aT [eQ (Y1+1) Y0] (lE 1 Y0) rfl h))))).trans ?_;rw[aT2,bH];exact List.Perm.append_left _ (Ix H)
theorem PQ(f:Nat->Nat)(xs:Array α):cF (MI f xs).toList xs.toList:=by refine(aFh f _ 0 _ _ rfl).trans (by rfl)
section
theorem aFi{H:Source}{Q:Nat->am->Prop}(hn:n≠0)(h:∀i dr,i< n->Q i { s with drawn:=dr }):aG (aR prog w) A (choose H n) Q E s:=by intro Γ p H;exact⟨hn,h _ _ (uP _ (Mm hn))⟩
theorem aFj(n:Nat):∀(xs:List α)(s:am)(Q:List α->am->Prop),n=xs.length->(∀l dr,cF l xs->Q l { s with drawn:=dr })->aG (aR prog w) A (XY n xs) Q E s:=by
 induction n with
 |zero=>intro xs s Q H h;have:xs=[]:=XZ.mp H.symm;subst this;exact aH (h [] s.drawn (.refl _))|succ n ih=>
  intro xs s Q H h;have J:XY (n+1) xs=(do
    let i <-choose .order xs.length
    match xs[i]? with
    |some x=>return x::(<-XY n (xs.eraseIdx i))|none=>Xz "internal:drawOrder"):=by induction xs with|nil=>cases H|cons=>rfl
  refine rR J (au (aFi (jc (aT [eQ (Y1+1) Y0] (lL 0 Y0) rfl H)) λi dr J=>?_));refine rR (gD J) ?_;refine au (ih _ _ _ (aUe J▸c8 (cz [eQ (Y0+1) Y2,eQ (Y1+1) Y2] (lE Y0 Y1) [1,-1] 1 rfl H (bX (aT [eQ (Y1+1) Y0] (lE 1 Y0) rfl H))) (cz [eQ (Y1+1) Y2,eQ (Y0+1) Y2] (lE Y0 Y1) [-1,1] 1 rfl H (bX (aT [eQ (Y1+1) Y0] (lE 1 Y0) rfl H)))) λl Y H=>?_);exact aH (h _ Y ((H.cons _).trans (Ix J)))
abbrev PU(S:af)(first:ag)(i n ep:Nat):Obj:=nc (⟨.type "set_iterator",none, .fields #[first, .int i 0, .ref S, .int n 0, .int ep 0],#[]⟩)
def Ap(w:aj):Bool:=nc (w.params.followText "set-order")
def Aq(w:aj)(S I T:af)(so:aq)(H:Array (Int×ag))(ep:Nat)(t:pG)(l:List ag)(J:List Nat)(i:Nat)(h:aw):Prop:=h.get? S=some so/\((Ap w=true/\h.get? I=some (PU S (.int 0 0) i H.size ep))\/(Ap w=false/\h.get? I=some (PU S (.ref T) i H.size ep)/\∃H n,h.get? T=some H/\H.data= .seq (J.map λ(p:Nat)=>eI p).toArray n))
structure Ds(w:aj)(S I T:af)(so:aq)(es:Array (Int×ag))(ep:Nat)(t:pG)(l:List ag)(pl:List Nat):Prop where
 data:so.data= .set es ep t
 fit:t.fits es.size=true
 len:l.length=es.size
 SI:S≠I
 TI:T≠I
 yes:Ap w=true->l=(MI (w.params.setOrder S ep) es).toList.map wS
 no:Ap w=false->pl.length=es.size/\∀(j p:Nat),pl[j]?=some p->∃e:Int×ag,es[p]?=some e/\l[j]?=some e.2
theorem aFk{T:af}{so:aq}{es:Array (Int×ag)}{t:pG}{l:List ag}{Z:List Nat}(H:Ds w S I T so es ep t l Z){i:Nat}{Q:Option ag->am->Prop}(hi:i< l.length)(st:Aq w S I T so es ep t l Z i s.heap)(h:∀h',lb I s.heap h'->Aq w S I T so es ep t l Z (i+1) h'->Q (l[i]?) { s with heap:=h' }):aG (aR prog w) A (y9 (.ref I)) Q E s:=by
 refine d7 st λhS st=>?_;have hT:s.TypeIs (.ref I) "set_iterator":=by rcases st with ⟨z,a⟩|⟨z,a,z⟩<;>exact⟨_,a,rfl⟩
 refine au (uQ (wV hT vU
  (qz vU hT PO ?_ (PP _))));refine au (aH ?_);rcases st with ⟨J,Y⟩|⟨J,Y,to,n,Dt,Du⟩
 ·refine au (MJ Y rfl ?_);refine au (Gh hS H.data H.fit ?_);refine rR (if_neg (by simp)) (au (au (pH hS H.data H.fit ?_)));refine au (au (w5 (aH ?_)));refine rR (if_pos (show(aR prog w).w.params.followText "set-order"=true from J)) (rR (if_neg (by simp)) ?_);refine au (au (pH hS H.data H.fit ?_));refine au (au (w5 (aH ?_)));refine rR (if_pos (show(aR prog w).w.params.followText "set-order"=true from J)) (au (w5 (aH ?_)));refine aH ?_;obtain⟨v,hv⟩:∃v,l[i]?=some v:=⟨_,gD hi⟩
  have HK:=hv;rw[(H.yes J),dL,B3,Option.map_eq_some_iff]at HK;refine aO HK λe he he2=>?_;refine rR (wX ..) (rR (he ..) ?_);refine au (sr Y rfl (by simp) ?_);have xR:=nM (qA (·.setIfInBounds 0 (eI 0))) Y rfl;refine au (sr xR rfl (by simp) ?_);have hI3:=nM (qA (·.setIfInBounds 1 (eI ((i:Int)+1)))) xR rfl;have gr:=(ia s.heap I (qA (·.setIfInBounds 0 (eI 0)))).trans (ia _ I (qA (·.setIfInBounds 1 (eI ((i:Int)+1)))));have hh:=h _ gr ⟨(gr.2 S H.SI).trans hS, .inl ⟨J,hI3⟩⟩;rw[hv,<-he2]at hh;exact aH ⟨_,rfl,aH hh⟩
 ·obtain⟨jt,Dw⟩:=H.no J;refine au (MJ Y rfl ?_);dsimp only;refine au (Gh hS H.data H.fit ?_);refine rR (if_neg (by simp)) ?_;have PV:i< Z.length:=rR jt (rL H.len hi);refine aO (Dw i Z[i] (gD PV)) λe he hle=>?_;refine au (au (y3 Dt ?_));refine rR Du (aH ?_);dsimp only;have Ao:((Z.map λ(p:Nat)=>eI p).toArray)[(i:Int).toNat]?=some (eI (Z[i]:Nat)):=by simp[PV]
  refine rR Ao (au (au (pH hS H.data H.fit ?_)));dsimp only;refine rR (if_neg (by simp) ..) (rR (wX ..) (rR (he ..) ?_));refine aH (au (sr Y rfl (by simp) ?_));have xR:=nM (qA (·.setIfInBounds 1 (eI ((i:Int)+1)))) Y rfl;have gr:=ia s.heap I (qA (·.setIfInBounds 1 (eI ((i:Int)+1))));have hh:=h _ gr ⟨(gr.2 S H.SI).trans hS, .inr ⟨J,xR,to,n,(gr.2 T H.TI).trans Dt,Du⟩⟩;rw[hle]at hh;exact aH ⟨_,rfl,aH hh⟩
theorem PX{Q:Option ag->am->Prop}(J:A.handled=none)(h:∀Y H,Q none { s with heap:=(s.heap.push Y).push H }):
  aG (aR prog w) A.in1 (newExc (.type "StopIteration") [] >>=λe=>(raiseNew e:ca lj)) (λH s'=>∃v,H=Fin.done (Flow.ret v)/\aG (aR prog w) A (pure (some v)) Q E s')
   (λe s'=>aG (aR prog w) A (do if <-MK e (Gb "StopIteration")then pure none else throw e) Q E s') s:=by
 refine au (au (kb ?_ (by size_fits)));refine au (jd (a:=ag.none) (by first|rfl|(rfl)) ?_);refine kb ?_ (by size_fits);refine au (F9 ?_);refine rR (show A.in1.handled=none from J) (au (aH (Ga ?_)));refine au (mT ⟨_,gY _ rfl,rfl⟩ Gc ?_);exact aH (h _ _)
theorem aFl{T:af}{so:aq}{Z:Array (Int×ag)}{t:pG}{l:List ag}{pl:List Nat}(hh:A.handled=none)(H:Ds w S I T so Z ep t l pl){Q:Option ag->am->Prop}(st:Aq w S I T so Z ep t l pl l.length s.heap)(h:∀h',y8 I s.heap h'->Q none { s with heap:=h' }):aG (aR prog w) A (y9 (.ref I)) Q E s:=by
 refine d7 st λhS st=>?_;have hT:s.TypeIs (.ref I) "set_iterator":=by rcases st with ⟨z,a⟩|⟨z,a,z⟩<;>exact⟨_,a,rfl⟩
 refine au (uQ (wV hT vU
  (qz vU hT PO ?_ (PP _))));refine au (aH ?_);rcases st with ⟨Y,J⟩|⟨Y,J,to,n,Dt,Du⟩
 ·refine au (MJ J rfl ?_);dsimp only;refine au (Gh hS H.data H.fit ?_);refine rR (if_neg (by simp)) (au (au (pH hS H.data H.fit ?_)));refine au (au (w5 (aH ?_)));refine rR (if_pos (show(aR prog w).w.params.followText "set-order"=true from Y)) (rR (if_neg (by simp)) ?_);refine au (au (pH hS H.data H.fit ?_));refine au (au (w5 (aH ?_)));refine rR (if_pos (show(aR prog w).w.params.followText "set-order"=true from Y)) (au (w5 (aH ?_)));refine aH ?_;have fM:(MI (w.params.setOrder S ep) Z)[l.length]?=none:=by
   refine Xc ?_;have h1:(MI (w.params.setOrder S ep) Z).size=l.length:=by rw[<-nP,<-dA,<-(H.yes Y)]
   exact qu h1
  refine rR (wX ..) (rR (fM ..) ?_);refine au (sr J rfl (by simp) ?_);exact PX hh λo1 o2=>h _ (((ia ..).extBut.push _).push _)
 ·obtain⟨jt,Z⟩:=H.no Y;refine au (MJ J rfl ?_);dsimp only;refine au (Gh hS H.data H.fit ?_);refine rR (if_neg (by simp)) (au (au (y3 Dt ?_)));refine rR Du (aH ?_);dsimp only;have Y:((pl.map λ(p:Nat)=>eI p).toArray)[(l.length:Int).toNat]?=none:=by simp[jt,H.len]
  refine rR Y (au (sr J rfl (by simp) ?_));have H:=nM (qA (·.setIfInBounds 0 (eI 0))) J rfl;refine au (sr H rfl (by simp) ?_);exact PX hh λo1 o2=>h _ ((((ia ..).trans (ia ..)).extBut.push _).push _)
end
end
section
open PySem PySem.W PySem.W.X PyProof.Rows PySem.Calls
set_option maxHeartbeats 4000000
inductive SV:List ag->List Str->Prop
 |nil:SV [] []
 |cons {k t vs ks:_}:SV vs ks->SV (.str k t::vs) (k::ks)
theorem SV.perm{l l':List ag}(p:cF l' l):∀{ks:List Str},SV l ks->∃H,cF H ks/\SV l' H:=by
 induction p with
 |nil=>intro ks h;cases h;exact⟨[], .refl _, .nil⟩|cons x p ih=>
  intro ks h;cases h with
  |cons b=>exact aO (ih b) λH q f=>⟨_::H,q.cons _, .cons f⟩
 |swap x y l=>
  intro ks h;cases h with
  |cons b=>cases b with
   |cons d=>exact⟨_, .swap .., .cons (.cons d)⟩
 |trans p q iy kI=>intro ks h;exact aO (kI h) λH Y H=>aO (iy H) λJ Z H=>⟨J,Z.trans Y,H⟩
theorem SV.PY{l:List (Int×ag)}(h:F2 w l ks):SV (l.map wS) ks:=by
 induction h with
 |nil=>exact .nil|@cons e k l ks a b ih=>obtain⟨z,t,H⟩:=a;exact rR iJ (rR H (.cons ih))
theorem SV.len{l:List ag}(h:SV l ks):l.length=ks.length:=by
 induction h with
 |nil=>rfl|cons _ ih=>simp only[eH,eH,ih]
section
theorem aFm{H:Array (Int×ag)}:(fH H.size).map (λp=>((H[p]?).map wS).getD .none)=H.toList.map Prod.snd:=by
 apply jG;intro i;simp only[dL,dL,B3];by_cases J:i< H.size;·simp[J]
 ·rw[uT (by simpa using J),Xc (by exact aT [lE Y0 Y1] (lE Y0 Y1) rfl (dw.mp J))];rfl
theorem Iy{c:Bool}(H:c=true){a b:ca α}{Q:α->am->Prop}(h:aG M A a Q E s):aG M A (if c=true then a else b) Q E s:=if_pos H▸h
theorem Dx(h:aw)(o:aq):h.objs.size<(h.push o).objs.size:=rR (qv ..) (a8 _)
theorem aFn{o:aq}{Q:ag->am->Prop}(Z:s.heap.get? S=some o)(hS:f7 w ks o)(h2:2<=ks.length)(Dy:ks.length< 100)(h:∀I T l J H ep t h' dr,Ds w S I T o H ep t l J->Aq w S I T o H ep t l J 0 h'->(∃fe,cF fe ks/\SV l fe)->(∀b ob,s.heap.get? b=some ob->h'.get? b=some ob)->s.heap.objs.size<=I->(T=S\/s.heap.objs.size<=T)->I< h'.objs.size->T< h'.objs.size->Q (.ref I) { s with heap:=h',drawn:=dr }):aG (aR prog w) A (MG (.ref S)) Q E s:=by
 refine hO λcg aY=>?_;obtain⟨hex,H,ep,t,fe,hd,hp,iU,hf,jt⟩:=id hS;refine aY ?_;have hT:s.TypeIs (.ref S) "set":=⟨o,Z,hex.1⟩
 have Y:H.size=ks.length:=by rw[<-nP,Al iU,hp.length_eq]
 have bp:=dH Z;refine aUf hT aUg (qz aUg hT aFg ?_ (F.args_set_iter_1 _));refine au (aH ?_);refine au (au (Gh Z hd hf (aH ?_)));refine au (au (pH Z hd hf ?_));refine au (au (w5 (aH ?_)));refine aH ?_;induction hb:Ap w with
 |true=>
  refine rR (if_neg (by rw[show(aR prog w).w.params.followText "set-order"=true from hb];simp)) (au (aH ?_));refine au (au (pH Z hd hf (aH ?_)));refine au (kb (aH ?_));refine⟨_,rfl,"set_iterator",_,⟨_,gY _ rfl,rfl⟩,vU.lookup,?_⟩;have cA:=du bp;refine h s.heap.objs.size S _ [] H ep t _ s.drawn ⟨hd,hf,?_,cA,cA,λz=>rfl,λx=>by replace x:=hb▸x;injection x⟩ ⟨cZ _ Z, .inl ⟨hb,gY _ rfl⟩⟩ ?_ (λb ob e=>cZ _ e) (a8 _) (.inl rfl) (Dx _ _) (za bp (Dx _ _));·rw[dA,(PQ _ _).length_eq,nP]
  ·obtain⟨k2,q,f⟩:=SV.perm ((PQ _ H).map wS) (SV.PY iU);exact⟨k2,q.trans hp,f⟩
 |false=>
  have aFo:=jt (by intro e;rw[e]at h2;simp at h2);have hdr:(!((⟨(aR prog w).prog,(aR prog w).w.params⟩:BN).params.followText "set-order") && (!t.plain && decide (H.size>1)))=true:=by rw[show(⟨(aR prog w).prog,(aR prog w).w.params⟩:BN).params.followText "set-order"=false from hb,aFo,Y];simp;exact bu [lE 2 Y0] (lL 1 Y0) rfl h2
  refine Iy hdr (au (aFj _ _ _ _ (by simp) λJ dr lD=>?_));have IA:J.length=H.size:=by simp only[lD.length_eq,Xi]
  refine au (kb ?_ (by show(J.map _).toArray.size<=gz;simp only[py,dA,IA,Y,nO];exact bu [lL Y0 100] (lE Y0 16777216) rfl Dy));have tY:(s.heap.push { cls:= .type "tuple",data:= .seq (J.map λ(p:Nat)=>eI p).toArray }).get? S=some o:=cZ _ Z;refine au (au (pH tY hd hf (aH ?_)));refine au (kb (aH ?_));refine⟨_,rfl,"set_iterator",_,⟨_,gY _ rfl,rfl⟩,vU.lookup,?_⟩;have fM:(s.heap.push { cls:= .type "tuple",data:= .seq (J.map λ(p:Nat)=>eI p).toArray }).objs.size=s.heap.objs.size+1:=by rw[qv]
  refine h (s.heap.push { cls:= .type "tuple",data:= .seq (J.map λ(p:Nat)=>eI p).toArray }).objs.size s.heap.objs.size (J.map (λp=>((H[p]?).map wS).getD .none)) J H ep t
   _ dr
   ⟨hd,hf,rR (dA ..) (rR (IA ..) rfl),(du (fM▸aUh bp)),(du (fM▸wY _)),(λx=>by replace x:=hb▸x;injection x),λz=>⟨IA,λj p hj=>?_⟩⟩
   ⟨cZ _ tY, .inr ⟨hb,gY _ rfl,_,_,cZ _ (gY _ rfl),rfl⟩⟩ ?_
   (λb ob e=>cZ _ (cZ _ e)) (fM▸fF ..) (.inr (a8 _)) (Dx _ _) (za (fM▸a8 _) (Dx _ _))
  ·have J:p< H.size:=by have:=lD.mem_iff.mp (ja hj);simpa using this
   refine⟨H[p],yZ J,?_⟩;simp only[dL,hj];simp[J]
  ·exact aO (SV.perm (aFm▸lD.map _) (SV.PY iU)) λk2 q f=>⟨k2,q.trans hp,f⟩
theorem aFp{T:af}{so:aq}{es:Array (Int×ag)}{t:pG}{l:List ag}{Y:List Nat}(hh:A.handled=none)(ok:Ds w S I T so es ep t l Y):WalksS prog w A I [I,S,T] [I] (λa b=>b=a) l.length (λi v=>l[i]?=some v) (λi s=>Aq w S I T so es ep t l Y i s.heap) where
 sub:=λb J=>by simp at J;simp[J]
 grefl:=λz=>rfl
 gtrans:=λz z z a b=>b.trans a
 frame:=λi s h' tk H z Y=>⟨Y S (by simp) _ H.1,H.2.imp (λa=>⟨a.1,Y I (by simp) _ a.2⟩) λa=>⟨a.1,Y I (by simp) _ a.2.1,let ⟨to,n,x,y⟩:=a.2.2;⟨to,n,Y T (by simp) _ x,y⟩⟩⟩
 item:=λi s Q E Y H Z=>aFk ok Y H λh' gr cJ=>by exact rR (gD Y) (Z _ _ (gD Y) cJ ⟨λb o J e=>(gr.2 b (λx=>J (by simp[x]))).trans e,rfl,rfl,rfl,a8 _⟩)
 done:=λs Q E H Z=>aFl hh ok H λh' Y=>Z _ ⟨λb o J e=>Y b o (λx=>J (by simp[x])) e,rfl,rfl,rfl,a8 _⟩
 self:=λi s Q E H h=>by
  have hT:s.TypeIs (.ref I) "set_iterator":=by rcases H.2 with ⟨j,a⟩|⟨j,a,j⟩<;>exact⟨_,a,rfl⟩
  refine aUf hT PN (qz PN hT aFe ?_ (aFf _));exact aH ⟨_,rfl,"set_iterator",_,hT,vU.lookup,h⟩
theorem aFq{l:List ag}{H:Array ag}(h:ItemsOf (λi v=>l[i]?=some v) H l.length):H.toList=l:=by
 apply jG;intro i;by_cases J:i< H.size;·simp only[B3,yZ J,h.2 i _ (yZ J)]
 ·rw[uT (by simpa using J),uT (h.1▸aT [lE Y0 Y1] (lE Y0 Y1) rfl (dw.mp J))]
theorem aFr{o:aq}{Q:List ag->am->Prop}(Z:A.handled=none)(ho:s.heap.get? S=some o)(hS:f7 w ks o)(h2:2<=ks.length)(Dy:ks.length< 100)(h:∀vs h' tk dr,(∃Z,cF Z ks/\SV vs Z)->(∀b H,s.heap.get? b=some H->h'.get? b=some H)->Q vs { s with heap:=h',toks:=tk,drawn:=dr }):aG (aR prog w) A (collect (.ref S)) Q E s:=by
 have PZ:=dH ho;refine au (aT7 (qw PySem.F.entry_proto_collect ?_));refine au (kb ?_);refine aH ⟨FZ PySem.F.plain_list_iadd _,qw PySem.F.entry_list_iadd ?_⟩;show aG _ A.in1 (aXf ..) ..;have Z:(s.heap.push { cls:= .type "list",data:= .seq ([]:List ag).toArray }).get? S=some o:=cZ _ ho;have Y:∀s':am,s'.heap.get? S=some o->s'.TypeIs (.ref S) "set":=λs' e=>⟨o,e,hS.1.1⟩;refine au (uV (Y { s with heap:=_ } Z) ?_);have h1:aUi (.ref s.heap.objs.size) (.ref S)=false:=by simp[aUi,jc PZ]
 refine rR (if_neg (by rw[h1];decide)) (au (aFn Z hS h2 Dy λI T l pl es ep t hI dr ok st hl hk lI lT ltI ltT=>?_));have kK:=hk _ _ Z;rw[qv]at lI lT;refine au (fV ?_);refine au (Xv (Y _ kK) F.slot_set_len.lookup ?_);(generalize CN:("set.__len__":String)=id0;(fail_if_success (clear CN id0));wp_delta;subst CN);refine au (mT (b:=true) (Y _ kK) (by kernel_rfl) ?_);refine rR (if_neg (by decide)) (Iy (by first|rfl|decide+kernel) ?_);refine au (uV (Y _ kK) ?_);refine aH (Iy (by first|rfl|decide+kernel) ?_);refine au (qy ?_);have Z:=hk _ _ (gY _ rfl);refine au (au (FP Z rfl ?_));have Y:=nM (mS (·.push ag.none)) Z rfl;refine FP Y rfl ?_;have DA:=nM (mS (·.pop)) Y rfl;have xS:∀b o,b≠s.heap.objs.size->hI.get? b=some o->((hI.update s.heap.objs.size (mS (·.push ag.none))).update s.heap.objs.size (mS (·.pop))).get? b=some o:=λb o J e=>(X0 _ _ (Ne.symm J)).trans ((X0 _ _ (Ne.symm J)).trans e);have P3:=du PZ;have hTL:T≠s.heap.objs.size:=by
  rcases lT with rfl|lT
  ·exact P3
  ·exact jc lT
 have W:=aFp (prog:=prog) (A:=A.in1) (by trivial) ok;have Z:s.heap.objs.size ∉ [I,S,T]:=by simp only[a9,bi,or_false,not_or];exact⟨(jc lI).symm,P3.symm,hTL.symm⟩
 have Y:l.length<=sizeLine:=by refine aO hl λk2 p2 sv=>?_;simp only[sv.len,p2.length_eq,nO];exact bu [lL Y0 100] (lE Y0 16777216) rfl Dy
 refine aH ⟨FZ PySem.F.plain_extend_loop _,codeAny_extend_loopS W Y _ Z _ l.length 0 _ _ _ (rfl) (fZ _) (W.frame 0 { s with heap:=hI,drawn:=dr } _ s.toks st (a8 _) λb J o e=>xS b o (λx=>Z (x▸J)) e) DA (ItemsOf.nil _) λs' J J hm J zZ=>?_⟩;refine au (y3 J ?_);obtain⟨h',g',d',tQ,os'⟩:=s';have eg:g'=s.gens:=hm.gens;have eo:os'=s.os:=hm.os;subst eg;subst eo;refine aH ?_;rw[aFq zZ];refine h l h' tQ d' hl λb H e=>?_;have J:=du (dH e);exact hm.heap b H (by simp only[a9,bi,or_false,not_or];exact⟨J,(du (qr (dH e) (nN lI)))⟩) (xS b H J (hk b H (cZ _ e)))
end
end
section
open PySem PySem.W PySem.W.X PyProof.Rows PySem.Calls
set_option maxHeartbeats 4000000
noncomputable def xT(r:Nat->Nat)(n:Nat):KasT α->Option α
 | .ret a=>some a| .ask i j k=>if i< n/\j< n/\i≠j then xT r n (k (decide (r i< r j)))else none
theorem P6{r:Nat->Nat}{H:Nat->Nat->(Bool->am->Prop)->am->Prop}{Q:α->am->Prop}(J:∀i j(C:Bool->am->Prop),i< n->j< n->i≠j->C (decide (r i< r j)) s->H i j C s):∀{t:KasT α}{a:α},xT r n t=some a->Q a s->t.kasWp H Q s
 | .ret a,_,e,h=>by simp only[xT,Ge]at e;subst e;exact h
 | .ask i j k,_,e,h=>by
  unfold xT at e;split at e
  ·rename_i H;exact J i j _ H.1 H.2.1 H.2.2 (P6 J e h)
  ·injection e
noncomputable def ins(x:Nat):List Nat->List (List Nat)
 |[]=>[[x]]|y::l=>(x::y::l)::(ins x l).map (y::·)
def perms:List Nat->List (List Nat)
 |[]=>[[]]|x::l=>(perms l).flatMap (ins x)
theorem P7(x:Nat):∀(a b:List Nat),a++x::b∈ins x (a++b)
 |[],[]=>az|[],y::b=>az|y::a,b=>by exact X4 _ (b6 (P7 ..))
theorem IB:∀(H l:List Nat),cF l H->l∈perms H
 |[],l,h=>rR h.eq_nil az|x::H,l,h=>by refine vg (Gi (h.mem_iff.mpr az)) λa b J=>?_;subst J;exact X5.mpr ⟨a++b,IB H _ ((List.perm_cons x).mp ((lh.symm).trans h)),P7 ..⟩
def sorts(n:Nat)(r:List Nat):Bool:=match xT (λi=>r.getD i 0) n (kas_sort n)with
 |some p=>(p.toList.map λi=>r.getD i 0)==fH n && p.toList.all (· < n)|none=>false
theorem aFs:((perms [0,1,2,3,4,5]).all (sorts 6))=true:=by decide+kernel
theorem aFt:((perms [0,1,2,3,4]).all (sorts 5))=true:=by decide+kernel
theorem aFu(hn:n=5\/n=6){r:List Nat}(J:cF r (fH n)):∃p,xT (λi=>r.getD i 0) n (kas_sort n)=some p/\(p.toList.map λi=>r.getD i 0)=fH n/\∀i∈p.toList,i< n:=by
 have H:sorts n r=true:=by
  rcases hn with rfl|rfl
  ·exact r6.mp aFt r (IB _ _ J)
  ·exact r6.mp aFs r (IB _ _ J)
 unfold sorts at H;split at H
 ·rename_i p e;rw[gw,beq_iff_eq,r6]at H;exact⟨p,e,H.1,λi J=>by simpa using H.2 i J⟩
 ·injection H
section
theorem aFv:me gy "list.__eq__.loop"=some Builtin.«list.__eq__.loop»:=aUc (by kernel_rfl)
theorem aFw:Xo "list.__eq__.loop"=true:=by decide+kernel
theorem aFx{x y:af}{J H:aq}{a b:Str}{ta:ab}{xs ys:Array ag}{Q:Bool->am->Prop}(Z:s.heap.get? x=some J)(cx:J.cls= .type "list")(dx:J.data= .seq xs n)(x0:xs[0]?=some (.str a ta))(Y:s.heap.get? y=some H)(cy:H.cls= .type "list")(dy:H.data= .seq ys k)(y0:ys[0]?=some (.str b tb))(cA:a≠b)(hu:A.units< dP)(h:Q (decide (a.cps.toList< b.cps.toList)) s):aG (aR prog w) A (keyLt' oneType' (.ref x) (.ref y)) Q E s:=by
 have P8:s.TypeIs (.ref x) "list":=⟨J,Z,cx⟩
 refine au (X6 hu ?_);refine au (wpAny_callSpecialIfBound?_slot P8 X7 ?_);refine wpAny_call (dJ X7.plain PySem.F.entry_list_lt (X7.check _ _ _ _ _ _ _ _ P8 (PySem.F.args_list_lt_2 _ _) ?_));show aG _ _ (MK _ _>>=_) ..;refine au (mT (⟨H,Y,cy⟩) PySem.F.sub_list_list ?_);refine aH ⟨FZ aFw _,qw aFv ?_⟩;refine au (ML Z dx (au (ML Y dy ?_)));show aG _ _ _ ..;refine rR x0 (rR y0 ?_);refine au (MM ?_);refine rR (if_neg (show ¬decide _=true from by simp[cA])) (au (ML Z dx (au (ML Y dy ?_))));refine rR (show xs[Int.toNat 0]?=some _ from x0) (rR (show ys[Int.toNat 0]?=some _ from y0) ?_);refine au (lt_str ?_);exact aH (X8 h)
end
end
section
open PySem PySem.W PySem.W.X PyProof.Rows PySem.Calls
set_option maxHeartbeats 4000000
def Au(hd:Str)(o:aq):Prop:=o.cls= .type "list"/\∃xs n t,o.data= .seq xs n/\xs[0]?=some (.str hd t)
inductive KL(pre:List (af×aq)):List ag->List Str->Prop
 |nil:KL pre [] []
 |snoc {vs hs y o hd:_}:KL pre vs hs->(y,o)∈pre->Au hd o->KL pre (vs++[.ref y]) (hs++[hd])
theorem KL.mono{H:List (af×aq)}(J:∀p∈pre,p∈H){vs hs}(h:KL pre vs hs):KL H vs hs:=by
 induction h with
 |nil=>exact .nil|snoc a b c ih=>exact .snoc ih (J _ b) c
theorem KL.len{vs hs}(h:KL pre vs hs):vs.length=hs.length:=by
 induction h with
 |nil=>rfl|snoc a b c ih=>simp only[bQ,bQ,ih];rfl
theorem KL.at{vs hs}(h:KL pre vs hs):∀{i:Nat}{hd:Str},hs[i]?=some hd->∃y o,vs.getD i .none= .ref y/\(y,o)∈pre/\Au hd o:=by
 induction h with
 |nil=>intro i hd e;injection e|@snoc vs hs y o oo a b c ih=>
  intro i hd e;have J:=a.len;rw[List.getElem?_append]at e;split at e
  ·rename_i H;refine hO λcg aY=>c7 (ih e) λy' o' e1 e2=>aY ⟨y',o',?_,e2⟩;exact rR (uX) (rR (aUj (cz [eQ Y1 Y2,lL Y0 Y2] (lL Y0 Y1) [-1,1] 1 rfl J H)) (rL (uX) e1))
  ·rename_i H;have Z:i - hs.length=0:=by
    rcases Nat.eq_zero_or_pos _ with h0|h0
    ·exact h0
    ·rw[uT (show 1<=i - hs.length from h0)]at e;injection e
   have Y:i=vs.length:=c8 (lq [eQ Y1 Y2,eQ Y3 0,eQ (Y3+Y2) Y0] (lE Y0 Y1) [-1,1,-1] 1 rfl J Z (bX ((dw.mp H)))) (b7 [eQ Y0 Y2,lE Y2 Y1] (lE Y0 Y1) rfl J (dw.mp H));rw[Z]at e;simp only[X9,Ge]at e;subst e;refine⟨y,o,?_,b,c⟩;refine rR (uX) (rR Y (rR (aUk (a8 _)) ?_));simp
section
variable {kS:af}{m:Str->Option ag}{base:List (af×aq)}
def IC(prog:c9)(w:aj)(A:aD)(aa:aw)(L:af)(m:Str->Option ag)(base:List (af×aq))(hd:Str->Str)(sk:List Str)(f:ag):Prop:=∀(k:Str)(t:ab)(H:List (af×aq))(s':am)(Q:ag->am->Prop),k∈sk->Fr aa L s'.heap m->px aa L s'.heap H->(∀p∈base,p∈H)->(∀y o h' tk,Fr aa L h' m->px aa L h' ((y,o)::H)->(∀p∈H,p.1≠y)->Au (hd k) o->Q (.ref y) { s' with heap:=h',toks:=tk })->aG (aR prog w) A (call f [.str k t]) Q (λ_ _=>False) s'
theorem DB{o:aq}:∀(pre:List (af×aq)),(∀p∈pre++base,p.1≠kS)->UpdF kS o (pre++(kS,o)::base) (λH=>pre++(kS,H)::base)
 |[],h=> .head λp H=>h p H|q::pre,h=> .tail (h q az) (DB pre λp H=>h p (aB H))
def Apart(kS:af)(pre base:List (af×aq)):Prop:=(∀q∈base,q.1≠kS)/\∀p∈pre,p.1≠kS/\∀q∈base,p.1≠q.1
theorem Apart.all{base:List (af×aq)}(h:Apart kS pre base):∀p∈pre++base,p.1≠kS:=λp hp=>by
 rcases cq.mp hp with hp|hp
 ·exact(h.2 p hp).1
 ·exact h.1 p hp
theorem aFy{hd:Str->Str}{sk:List Str}{f:ag}{Y:List ag->Nat->am->Prop}(hf:IC prog w A aa L m base hd sk f):∀{vs:List ag}{rest:List Str},SV vs rest->(∀k∈rest,k∈sk)->∀(ks:List ag)(hs:List Str)(pre:List (af×aq))(e:Nat)(s:am),Fr aa L s.heap m->px aa L s.heap (pre++(kS,sw "list" (cE ks) e)::base)->KL pre ks hs->Apart kS pre base->(∀J Z e' h' tk,Fr aa L h' m->px aa L h' (Z++(kS,sw "list" (cE J) e')::base)->KL Z J (hs++rest.map hd)->Apart kS Z base->Y J e' { s with heap:=h',toks:=tk })->KatKeys prog w A aa L m kS f Y vs ks e s:=by
 intro vs rest sv;induction sv with
 |nil=>intro z ks hs pre e s F N kl cA H;exact KatKeys.nil (by have:=H ks pre e s.heap s.toks F N (by simpa using kl) cA;exact this)|@cons k t vs rest sv ih=>
  intro DC ks hs pre e s F N kl cA H;refine KatKeys.cons (hf k t _ s _ (DC k az) F N (λp hp=>bD _ (aB hp)) λy o h' tk F' N' hy ko=>?_);have P9:Apart kS ((y,o)::pre) base:=⟨cA.1,λp hp=>by
   rcases a9.mp hp with rfl|hp
   ·exact⟨(λe=>hy _ (bD _ az) e.symm),λq Y e=>hy q (bD _ (aB Y)) e.symm⟩
   ·exact cA.2 p hp⟩
  refine KatBack.intro F' N' (DB _ P9.all) λh2 c F2 Y=>?z;refine ih (λk' js=>DC k' (aB js)) _ _ _ c { s with heap:=h2,toks:=tk } F2 Y (.snoc (kl.mono λp hp=>aB hp) az ko) P9 λJ Z e' h3 vO F3 N3 Y DD=>H J Z e' h3 vO F3 N3 ?_ DD;exact rR iJ (rR (List.append_cons ..) Y)
theorem Qa:∀{out:List ag}{sk:List Str},out.length=sk.length->(∀(i:Nat)(k:Str),sk[i]?=some k->∃t,out[i]?=some (ag.str k t))->SV out sk
 |[],[],_,_=> .nil|v::out,k::sk,hl,h=>by obtain⟨t,e⟩:=h 0 k rfl;simp only[X9,Ge]at e;subst e;exact .cons (Qa (by simpa using hl) λi J H=>h (i+1) J H)
theorem aFz(h:SV vs ks):∀{i:Nat}{k:Str},ks[i]?=some k->∃t,vs.getD i .none= .str k t:=by
 induction h with
 |nil=>intro i k e;injection e|cons sv ih=>
  intro i k e;induction i with
  |zero=>simp only[X9,Ge]at e;subst e;exact⟨_,rfl⟩|succ i=>exact ih e
structure DF(hd:Str->Str)(sk:List Str)(n:Nat):Prop where
 len:sk.length=n
 Aw:n=5\/n=6
 nodup:sk.Nodup
 inj:∀k∈sk,∀k'∈sk,k≠k'->hd k≠hd k'
 mono:∀k∈sk,∀k'∈sk,decide ((hd k).cps.toList<(hd k').cps.toList)=decide (sk.idxOf k< sk.idxOf k')
theorem aF0{sk:List Str}(hn:sk.Nodup):sk.map (λk=>sk.idxOf k)=fH sk.length:=by
 apply aUl;·simp
 ·intro i H H;simp only[List.getElem_map,List.getElem_range];exact hn.idxOf_getElem i _
theorem Qc{b:Builtin}{args:List ag}{J:List (Str×ag)}(hk:builtinKind id=none)(hp:Xo id=true)(hb:me gy id=some b)(ha:lc id ⟨args,J⟩)(hc:aG (aR prog w) A.in1 (b ⟨args,J⟩) (λH s'=>∃v,H= .done (.ret v)/\R (.ok (.ret v)) s') (λe s'=>R (.error e) s') s):eC (aR prog w) A (.call (.builtin id) ⟨args,J⟩) R s:=by
 refine dJ hp hb ?_;have Z:=pz hc (Q':=λH s'=>match H with
   | .done f=>R (.ok f) s'| .again c'=>c'.quiet=true/\eC (aR prog w) A c' R s')
  (λH s' h'=>by refine aO h' λv Y hv=>?_;subst Y;exact hv) λz z h'=>h';simp only[aTl,hk];induction HQ:aTm id with
 |none=>exact aH Z|some sig=>
  have H:aTn id sig ⟨args,J⟩=pure ():=by simpa only[lc,HQ]using ha
  simp only[H];exact aH Z
theorem aF1{o:aq}{sk:List Str}{hd:Str->Str}{f:ag}{kw:List (Str×ag)}(F:Fr aa L s.heap m)(N:px aa L s.heap base)(hh:A.handled=none)(hu:A.units+3< dP)(hSm:(S,o)∈base)(hS:f7 w ks o)(H:DF hd sk n)(ri:cF ks sk)(ha1:lc "sorted" ⟨[.ref S],kw⟩)(HC:∀x,lc "list.sort" ⟨[.ref x],kw⟩)(ht:∀x,Builtin.«list.sort» ⟨[.ref x],kw⟩=ksk_tree x f false)(hf:IC prog w A.in1.in1 aa L m base hd sk f)(h:∀D e h' tk dr out,SV out sk->Fr aa L h' m->px aa L h' ((D,listOf (cE out) e)::base)->(∀p∈base,p.1< D)->R (.ok (.ret (.ref D))) { s with heap:=h',toks:=tk,drawn:=dr }):eC (aR prog w) A (.call (.builtin "sorted") ⟨[.ref S],kw⟩) R s:=by
 have Ay:ks.length=n:=by rw[ri.length_eq,H.len]
 have ID:2<=ks.length:=Ay▸H.Aw.elim (λe=>e▸by decide) λe=>e▸by decide
 refine Qc kind_sorted plain_sorted entry_sorted ha1 (au (aH ?_));refine au (aFr (by simp[hh]) (N _ hSm).1 hS ID (Ay▸H.Aw.elim (λe=>e▸by decide) λe=>e▸by decide) λvs Z tk1 Qe Az zL=>?_);refine aO Az λJ fW sv=>?_;have sN:vs.length=n:=by rw[sv.len,fW.length_eq,Ay]
 refine au (wpAny_newList ?_ (rR sN (rR nO (H.Aw.elim (λe=>e▸by decide) λe=>e▸by decide))));have Qf:(Z.push _).get? Z.objs.size=some (sw "list" vs.toArray 0):=gY _ rfl;have keep:∀b ob,s.heap.get? b=some ob->(Z.push (sw "list" vs.toArray 0)).get? b=some ob:=λb ob q=>cZ _ (zL b ob q);have DG:L< Z.objs.size:=by exact mX F.ns λoL es ep x _=>dH (zL _ _ x)
 have IE:∀p∈base,p.1< Z.objs.size:=λp hp=>dH (zL _ _ (N p hp).1);refine au (fV (wpAny_call_entry_kw slot_list_sort ⟨_,Qf,rfl⟩ entry_list_sort ?body (HC _)));case body=>
  refine rR (ht Z.objs.size) (kat_keyed (s:={ s with heap:=Z.push (sw "list" vs.toArray 0),toks:=tk1,drawn:=Qe })
   (F.kept keep) (N.grown keep) Qf (jc DG) (wR (aE F.above (cR DG)))
   (λp hp=>du (IE p hp)) (rR sN (rL Ay ID)) (sN▸H.Aw.elim (λe=>e▸by decide) λe=>e▸by decide) λkS e1 h' F' N' l0 l1=>?_)
  have aF2:∀p∈(Z.objs.size,sw "list" #[] e1)::base,p.1≠kS:=λp hp=>by
   rcases a9.mp hp with rfl|hp
   ·exact du l0
   ·exact du (l1 p hp)
  refine aFy (λk t sX s' Q a1 a2 a3 a4=>hf k t sX s' Q a1 a2 a3 λp hp=>a4 p (aB hp)) sv (λk hk=>ri.mem_iff.mp (fW.mem_iff.mp hk)) [] [] [] 0 _ F' N' .nil ⟨aF2,λ_ h=>nomatch h⟩ λkl pre e' h3 vO F3 N3 K3 DD=>?_
  rw[uS]at K3
  have oF:=fW.trans ri
  have AB:J.length=n:=by rw[oF.length_eq,H.len]
  have hr:cF (J.map λk=>sk.idxOf k) (fH n):=by have:=oF.map (λk=>sk.idxOf k);rw[aF0 H.nodup,H.len]at this;exact this
  refine ig (aFu H.Aw hr) λp aF3 Qg aF4=>?_
  have Qh:kl.length=n:=by rw[K3.len,dA,AB]
  have d9:∀i< n,∃y o,kl.getD i .none= .ref y/\h3.get? y=some o/\Au _ o:=λi Y=>by have xU:i< J.length:=cz [eQ Y1 Y2,lL Y0 Y2] (lL Y0 Y1) [-1,1] 1 rfl AB Y;obtain⟨y,o,e,hm,ko⟩:=K3.at (hd:=hd (J.getD i "")) (by refine rR (dL) (rR (gD xU) (rR (uX) (rR (gD xU) ?_)));rfl);exact⟨y,o,e,(N3 _ (bL _ hm)).1,ko⟩
  refine kas_kind (T:= .type "list") (rR Qh (rL Ay ID)) (λv hv=>?_) rfl rfl ?_
  ·obtain⟨i,Y,e⟩:=List.mem_iff_getElem.mp hv
   refine lp (d9 i (b7 [eQ Y2 Y1,lL Y0 Y2] (lL Y0 Y1) rfl Qh Y)) λy o e1 ho ko=>?_
   have e2:v= .ref y:=rL e1 (rR (uX) (rR (gD Y) e.symm))
   subst e2
   exact λA Q E s k q=>uV ⟨o,k _ _ ho,ko.1⟩ q
  refine P6 (λi j C Y hj As hC=>?_) (rR sN aF3) ?_
  ·obtain⟨y,o,e1,ho,c1,xs,m1,t1,d1,x1⟩:=d9 i Y
   obtain⟨y',o',AC,lF,c1',IF,m1',t1',d1',x1'⟩:=d9 j hj
   show aG _ _ _ ..
   refine rR e1 (rR AC ?_)
   have xU:i< J.length:=cz [eQ Y1 Y2,lL Y0 Y2] (lL Y0 Y1) [-1,1] 1 rfl AB Y
   have AD:j< J.length:=cz [eQ Y1 Y2,lL Y0 Y2] (lL Y0 Y1) [-1,1] 1 rfl AB hj
   have gi:J.getD i ""=J[i]:=by rw[uX,gD xU];rfl
   have gj:J.getD j ""=J[j]:=by rw[uX,gD AD];rfl
   have mi:=oF.mem_iff.mp (uW xU)
   have mj:=oF.mem_iff.mp (uW AD)
   refine aFx ho c1 d1 x1 lF c1' d1' x1' (rR gi (rR gj (H.inj _ mi _ mj (λe=>As ((List.getElem_inj (oF.nodup_iff.mpr H.nodup)).mp e))))) ?_ ?_
   ·exact iH (by simp[aTw]) hu
   ·refine rR gi (rR gj (rR (H.mono _ mi _ mj) ?_))
    have Qi:=hC
    simp only[uX,dL,gD xU,gD AD,Gj,Option.getD_some]at Qi
    exact Qi
  ·refine KatFin.intro F3 N3 (DB pre DD.all) λh4 c4 F4 N4=>?_
   rw[show pre++_::_::base=(pre++[(kS,sw "list" #[] c4)])++(Z.objs.size,sw "list" #[] e1)::base by simp]at N4
   refine KasFin.intro F4 N4 (DB _ λq hq=>?_) λh5 c5 F5 N5=>?_
   ·rcases cq.mp hq with hq|hq
    ·rcases cq.mp hq with hq|hq
     ·exact(DD.2 q hq).2 _ az
     ·exact rR (bI.mp hq) (jc l0)
    ·exact du (IE q hq)
   refine⟨_,rfl,aH ⟨_,rfl,h Z.objs.size c5 h5 vO Qe _ ?_ F5 (λq hq=>N5 q (bD _ hq)) IE⟩⟩
   show SV (p.toList.map λi=>vs.getD i .none) sk
   have Z:p.toList.length=n:=by have:=congrArg MN Qg;simpa using this
   refine Qa (by rw[dA,Z,H.len]) λi k hk=>?_
   have Y:i< n:=rL H.len ((se.mp hk).1)
   have IG:i< p.toList.length:=cz [eQ Y1 Y2,lL Y0 Y2] (lL Y0 Y1) [-1,1] 1 rfl Z Y
   have II:p.toList[i]< J.length:=cz [eQ Y1 Y2,lL Y0 Y2] (lL Y0 Y1) [-1,1] 1 rfl AB (aF4 _ (uW IG))
   have Z:(J.map λk=>sk.idxOf k).getD p.toList[i] 0=i:=by have:=congrArg (λl=>l[i]?) Qg;simp only[dL,gD IG,Gj,Xh Y]at this;exact dG this
   rw[uX,dL,gD II]at Z
   have zM:J[p.toList[i]]=k:=by have H:=gD (List.idxOf_lt_length_of_mem (oF.mem_iff.mp (uW II)));rw[List.getElem_idxOf]at H;have Y:sk.idxOf J[p.toList[i]]=i:=Z;rw[Y,hk]at H;exact(dG H).symm
   obtain⟨t,e⟩:=aFz sv (rR (gD II) (rR zM rfl))
   exact⟨t,rR (dL) (rR (gD IG) (congrArg some e))⟩
end
end
section
open PySem PySem.W PySem.W.X PyProof.Rows PySem.Calls
set_option maxHeartbeats 4000000
def oG(k:Str):Str:=nc ((aUm k "}" 1).headD k)
def DH(x:Nat):List Str:=[⟨#[99]⟩,⟨#[104]⟩,⟨#[108]⟩,⟨#[110]⟩,⟨#[115]⟩,iu x]
def DI:List Str:=nc ([⟨#[99]⟩,⟨#[104]⟩,⟨#[108]⟩,⟨#[110]⟩,⟨#[115]⟩])
def qf(sk:List Str):Bool:=sk.all (λk=>(!(aUm k "}" 1).isEmpty) && decide (k.length<=1000)) && decide sk.Nodup && sk.all (λk=>sk.all λH=>(decide (k=H)||decide (oG k≠oG H)) && (decide ((oG k).cps.toList<(oG H).cps.toList)==decide (sk.idxOf k< sk.idxOf H)))
theorem Qk:qf DI=true:=by decide+kernel
theorem IK{x:Nat}(h:x∈dR):qf (DH x)=true:=by unfold dR at h;simp only[a9,bi,or_false]at h;rcases h with rfl|rfl|rfl|rfl|rfl|rfl<;>decide+kernel
theorem qf.sort{sk:List Str}(h:qf sk=true)(H:sk.length=n)(hn:n=5\/n=6):DF oG sk n:=by
 unfold qf at h;simp only[gw,r6,decide_eq_true_eq]at h;obtain⟨⟨Y,J⟩,Z⟩:=h;refine⟨H,hn,J,λk H Y J cA=>?_,λk H Y J=>?_⟩
 ·have:=(Z k H Y J).1;simp only[MO,decide_eq_true_eq]at this;exact this.resolve_left cA
 ·have:=(Z k H Y J).2;exact beq_iff_eq.mp this
theorem IL{x:Nat}(h:x∈dR):cF ((["n","c","s","l","h"]:List Str).foldl gM [iu x]) (DH x):=by unfold dR at h;simp only[a9,bi,or_false]at h;rcases h with rfl|rfl|rfl|rfl|rfl|rfl<;>exact aUn.mp (by decide+kernel)
theorem Ql:cF ((["n","c","s","l","h"]:List Str).foldl gM [cS]) DI:=aUn.mp (by decide+kernel)
end
def IM:PySem.Expr:=xE (xE (pE fB[6]? 0) 3) 2
def aF5:Arguments:=(eL IM).1
def aF6:PySem.Expr:=(eL IM).2.1
def aF7:Scope:=(eL IM).2.2
abbrev Qm:Str:=nc ("C14NWriterTarget._start.<locals>.<lambda>")
def t7(c:af):Obj:=⟨.type "function",none, .func { name:="<lambda>",qualname:=Qm,params:=aF5,body:= .expr aF6,scope:=aF7,globals:=3,closure:=[],defaults:= .none,kwdefaults:= .none,pyModule:= .str "law_sc0109_01" 652,code:= .ref c },#[]⟩
def lK(s t:Nat):Obj:=⟨.type "code",none, .fields (cE [.str "<lambda>" t, .str Qm (t+1), .str "/claim/cut.py" (t+2), .int 139 0, .int 1 0, .int 0 0, .int 0 0, .int 19 0, .ref s, .bool true, .int 276 0, .ref (s+1), .none, .ref (s+2), .ref (s+3), .ref (s+4), .int (t+4) 0, .int 139 0, .str "/claim/cut.py" (t+5)]),#[]⟩
abbrev iz(c:af):Obj:=nc (jI #[.int 139 0, .int 71 0, .ref c])
theorem aF8{H:af}{so:aq}{S:Str->Bool}(Z:so.SetObjOf (strKind Rw.prog w) S n)(Y:n< Ya)(k:Str)(t:ab):Told ao (av w) A U fr aa (bC "set.__contains__" [.ref H, .str k t]) [(H,so)] (λx=>⟨.ok (.ret (.bool (S k))),[(H,so)],[],x 0,x 1⟩):=by
 intro u s ak R H H j hR;have J:=Z.setOf (H.h.at_ _ az) Y;refine dJ aUo.plain entry_set_contains (aUo.check _ _ _ _ _ _ _ _ J.typeIs (F.args_set_contains_2 _ _) ?_);unfold Builtin.«frozenset.__contains__» aXg;simp only[List.isEmpty_nil,bind_assoc];refine au (aH ?_);refine au (aH ?_);try dsimp only
 refine au (wpAny_tryCatch ?_);refine fV (au ((strKind Rw.prog w).pyHash (mh ..) ?_));refine au (wpAny_setFind_of (mh ..) rfl J λr J=>?_);exact aH (rR J (aH (hR (λi=>bif bY i 0 then s.heap.objs.size else s.toks+1) { s with toks:=s.toks+1 } rfl rfl rfl (λz J=>absurd J bi) ⟨H.h,H.os,H.gens,H.same⟩ λb o H J=>H)))
theorem DJ{T:String}{B:Builtin}{rest:List ag}{o:Nat->aq}(H:yX T name id)(J:me gy id=some B)(args:lc id ⟨self::rest,[]⟩)(g:Meets (B ⟨self::rest,[]⟩) (λ_ R s=>R (.ok (.ret (.ref s.heap.objs.size))) { s with toks:=s.toks+n,heap:=s.heap.push (o s.toks) }))(Z:∀s:am,s.TypeIs self T)(ho:∀t,(o t).isFreed=false):Told ao (av w) A U fr aa (.call (.builtin id) ⟨self::rest,[]⟩) [] (λx=>⟨.ok (.ret (.ref (x 0))),[],[(x 0,o (x 1))],x 0+1,x 1+n⟩):=by intro u s ak R Y Y z hR;refine dJ H.plain J (H.check _ _ _ _ _ _ _ _ (Z s) args (g _ _ _ _ s ?_));have H:s.heap.get? s.heap.objs.size=none:=wR (a8 _);refine hR (λi=>bif bY i 0 then s.heap.objs.size else s.toks) _ (qv _ _) rfl rfl (λp Z=>?_) ⟨Y.h.alloc (ho _),Y.os,Y.gens,Y.same⟩ λb J J Y=>cZ _ J;exact rR (bI.mp Z) H
open PySem.Builtin.Str in
theorem aF9{x:Str}{v:ab}(J:(occurrences x "}" 0 x.length (w6 x 1)).isEmpty=true):Told ao (av w) A U fr aa (bC "str.split" [.str x t, .str "}" u, .int 1 v]) [] (λe=>⟨.ok (.ret (.ref (e 0))),[],[(e 0,listOf [ag.str x t].toArray 0)],e 0+1,e 1+0⟩):=by
 cases H:(decide (x.length<(("}":Str)).length)||decide (strKind x< strKind "}"))
 ·exact DJ (o:=λz=>listOf [ag.str x t].toArray 0) Yb Yc (Yd ..) (meets_str_split_max_not_found x "}" 1 t u v rfl H rfl J) (λs=>ib ..) λz=>rfl
 ·exact DJ (o:=λz=>listOf [ag.str x t].toArray 0) Yb Yc (Yd ..) (meets_str_split_max_cannot_occur x "}" 1 t u v rfl H) (λs=>ib ..) λz=>rfl
open PySem.Builtin.Str in
theorem aGa{x a b:Str}{v:ab}(Y:(decide (x.length<(("}":Str)).length)||decide (strKind x< strKind "}"))=false)(J:(occurrences x "}" 0 x.length (w6 x 1)).isEmpty=false)(H:partsBetween x (occurrences x "}" 0 x.length (w6 x 1)) (("}":Str)).length=[a,b])(Z:x.length<=1000):Told ao (av w) A U fr aa (bC "str.split" [.str x t, .str "}" u, .int 1 v]) [] (λe=>⟨.ok (.ret (.ref (e 0))),[],[(e 0,listOf [ag.str a (e 1), .str b (e 1+1)].toArray 0)],e 0+1,e 1+2⟩):=by have g:=meets_str_split_sep_max x "}" 1 t u v rfl Y rfl J (aE Z (by decide)) (H▸dh rfl);replace g:=H▸g;exact DJ (o:=λe=>listOf [ag.str a e, .str b _].toArray 0) Yb Yc (Yd ..) g (λs=>ib ..) λz=>rfl
abbrev aGb(x:Str)(t u v:ab)(next:aM):aF:= .cons (some 0) (bC "str.split" [.str x t, .str "}" u, .int 1 v]) [] [] (λe=>⟨.ok (.ret (.ref (e 0))),[],[(e 0,listOf [ag.str x t].toArray 0)],e 0+1,e 1+0⟩) next
abbrev aGc(x a b:Str)(t u v:ab)(next:aM):aF:= .cons (some 0) (bC "str.split" [.str x t, .str "}" u, .int 1 v]) [] [] (λe=>⟨.ok (.ret (.ref (e 0))),[],[(e 0,listOf [ag.str a (e 1), .str b (e 1+1)].toArray 0)],e 0+1,e 1+2⟩) next
def laR(w:aj)(f H Z:Nat)(k:Str)(u:ab)(J:aF)(sz tk:Nat)(Y:Xs):=(aI w 1 0 none 300).S [] Y ⟨[(f,t7 (H+5)),(H+5,lK H Z)],sz,tk,[3,0,1,1,1,0,1,2],J⟩ (call (.ref f) [.str k u]) fin
abbrev DK(s:Str):Str:=nc (⟨(s.cps.toList.take 6).toArray⟩)
abbrev Qn(b:Bool)(x:Str)(t u v:ab):aF:=match b with
 |false=>aGb x t u v λ_=> .nil|true=>aGc x (DK x) cS t u v λ_=> .nil
abbrev DM(b:Bool)(k:Str)(u:ab)(e:Nat):Obj:=match b with
 |false=>listOf [ag.str k u].toArray 0|true=>listOf [ag.str (DK k) e, .str cS (e+1)].toArray 0
theorem aGd(w:aj)(b:Bool)(f J Y:Nat)(k:Str)(u:ab)(sz tk:Nat)(H:Xs):Ends [0,2,3] (laR w f J Y k u (Qn b k u (tk+1) (tk+2)) sz tk H) (.ok (.ref (H 0 0)),[(H 0 0,DM b k u (H 0 1)),(f,t7 (J+5)),(J+5,lK J Y)].map some,H 0 0+1,H 0 1+(match b with|false=>0|true=>2)):=by induction b<;>kernel_rfl
open PySem.Builtin.Str in
def rj(b:Bool)(k:Str):Bool:=match b with
 |false=>(occurrences k "}" 0 k.length (w6 k 1)).isEmpty && decide (oG k=k)|true=>!(decide (k.length<(("}":Str)).length)||decide (strKind k< strKind "}")) && !(occurrences k "}" 0 k.length (w6 k 1)).isEmpty && decide (partsBetween k (occurrences k "}" 0 k.length (w6 k 1)) (("}":Str)).length=[DK k,cS]) && decide (k.length<=1000) && decide (oG k=DK k)
def AE(sk:List Str):Bool:=sk.all λk=>rj false k||rj true k
theorem Qo:AE DI=true:=by decide+kernel
theorem IN{x:Nat}(h:x∈dR):AE (DH x)=true:=by unfold dR at h;simp only[a9,bi,or_false]at h;rcases h with rfl|rfl|rfl|rfl|rfl|rfl<;>decide+kernel
theorem aGe{b:Bool}{k:Str}{v z:ab}(h:rj b k=true):(Qn b k u v z).Ok ao (av w) A U none aa lv:=by
 induction b with
 |false=>simp only[rj,gw]at h;exact⟨rfl,bN,λH j j=>aF9 h.1,λj j j=>True.intro⟩|true=>simp only[rj,gw,Bool.not_eq_true',decide_eq_true_eq]at h;exact⟨rfl,bN,λH j j=>aGa h.1.1.1.1 h.1.1.1.2 h.1.1.2 h.1.2,λj j j=>True.intro⟩
theorem aGf{b:Bool}{k:Str}{e:Nat}(h:rj b k=true):Au (oG k) (DM b k u e):=by
 induction b with
 |false=>simp only[rj,gw,decide_eq_true_eq]at h;exact rR h.2 ⟨rfl,_,_,_,rfl,rfl⟩|true=>rw[rj,gw,decide_eq_true_eq]at h;exact rR h.2 ⟨rfl,_,_,_,rfl,rfl⟩
theorem aGg{m:Str->Option ag}{J:List (af×aq)}(X:aK w aa)(NL:aa.NoLimit)(hA:A.handled=none)(hd:A.depth+1<=bk){Z t0:Nat}(m1:(f,t7 (Z+5))∈J)(m2:(Z+5,lK Z t0)∈J)(cA:f≠Z+5){sk:List Str}(hk:AE sk=true):IC Rw.prog w A aa L m J oG sk (.ref f):=by
 intro k u J s' Q hks F N HJ aGh;obtain⟨b,hb⟩:∃b,rj b k=true:=by
  have:=r6.mp hk k hks;rcases (MO _ _).mp this with h|h
  ·exact⟨false,h⟩
  ·exact⟨true,h⟩
 have n1:=N _ (HJ _ m1);have n2:=N _ (HJ _ m2);refine wp_run ⟨⟨λp hp=>?_,?_,F.keep,λp hp=>?_⟩,rfl,aUp, .inr ⟨rfl,rfl⟩⟩ X hA 1 0 300 [3,0,1,1,1,0,1,2] [0,2,3] _ (λz=>aGe hb) (λz=>⟨NL,hd⟩) (a8 _) (by decide)
  _ (λσ=>[(σ 0 0,DM ..),(f,t7 _),(Z+5,lK Z t0)]) _ _ (λσ=>aGd ..) λσ vW bU J J G=>?_
 ·rcases a9.mp hp with rfl|hp
  ·exact n1.1
  ·exact rR (bI.mp hp) n2.1
 ·exact ci.mpr ⟨λh=>cA (bI.mp h),ci.mpr ⟨bi,bN⟩⟩
 ·rcases a9.mp hp with rfl|hp
  ·exact n1.2.2
  ·exact rR (bI.mp hp) n2.2.2
 ·have es:vW={ s' with heap:=vW.heap,toks:=vW.toks }:=by refine d7 (bU.same.resolve_left id) λg1 g2=>?_;obtain⟨j,j,j,j,j⟩:=vW;have J:=bU.os;simp only at g1 g2 J ⊢;simp only[g1,g2,J]
  have H:s'.heap.get? (σ 0 0)=none:=by
   rcases G.new _ az with h|⟨q,hq,e⟩
   ·exact h
   ·have:=bU.h.nd;have J:=b6 (f:=(·.1)) hq;rw[e]at J;exact absurd J (ci.mp this).1
  have Y:∀c o,s'.heap.get? c=some o->vW.heap.get? c=some o:=λc o e=>by
   by_cases q1:f=c;·subst q1;replace e:=n1.1▸e;injection e with e;subst e;exact bU.h.at_ _ (aB az)
   by_cases q2:Z+5=c;·subst q2;replace e:=n2.1▸e;injection e with e;subst e;exact bU.h.at_ _ (aB (aB az))
   refine G.keep c o e λp hp=>?_;rcases a9.mp hp with rfl|hp
   ·exact q1
   ·exact rR (bI.mp hp) q2
  refine rR es (aGh _ (DM b k u (σ 0 1)) vW.heap vW.toks (F.keeps Y) (λp hp=>?_) (λp hp e=>?_) (aGf hb))
  ·rcases a9.mp hp with rfl|hp
   ·refine⟨bU.h.at_ _ az,λe=>?_,bU.h.off _ az⟩;refine mX F.ns λJ j j hL j=>?_;simp only[<-e,H]at hL;injection hL
   ·exact⟨Y _ _ (N p hp).1,(N p hp).2⟩
  ·have:=(N p hp).1;simp only[e,H]at this;injection this
theorem aGi{h:aw}{R:af}{m:Str->Option ag}{X Y:List (af×aq)}(J:∀b o,aa.get? b=some o->h.get? b=some o)(n1:aa.get? L=none)(n2:aa.get? R=none)(Z:L≠R)(F:Fr aa L h' m)(N:px aa L h' (X++others h aa L []))(H:px aa R h' (Y++others h aa R [])):∀b o,h.get? b=some o->h'.get? b=some o:=λb o e=>by
 induction z:aa.get? b with
 |some o'=>
  have:=J _ _ z;replace this:=e▸this;injection this with this;subst this
  exact F.keep _ _ z
 |none=>
  by_cases q:b=L;·exact(H (b,o) (bD _ (vk.mpr ⟨e,λr=>Z (q.symm.trans r),bi,z⟩))).1
  ·exact(N (b,o) (bD _ (vk.mpr ⟨e,q,bi,z⟩))).1
abbrev eD:Obj:=nc (⟨.type "dict",none, .dict #[] 0,#[]⟩)
abbrev IP(S f:Nat):Code:=nc (.call (.builtin "sorted") ⟨[.ref S],[("key", .ref f)]⟩)
def Qp(sk:List Str)(pre:List (af×aq)):(Nat->Nat)->Out:=nc (λx=>⟨.ok (.ret (.ref (x 2))),pre,[(x 2,listOf (cE (sk.mapIdx λi k=>ag.str k (x (i+4)))) (x 3))],x 0,x 1⟩)
theorem Qr:∀{out:List ag}{sk:List Str},SV out sk->∃g:Nat->Nat,out=sk.mapIdx λi k=>ag.str k (g i):=by
 intro out sk h;induction h with
 |nil=>exact⟨λz=>0,rfl⟩|@cons k t vs ks sv ih=>obtain⟨g,rfl⟩:=ih;refine⟨λi=>match i with|0=>t|i+1=>g i,?_⟩;exact rR aUq rfl
theorem aGj{k:KX}(ok:k.Ok w)(hL:k.aa.objs.size<=k.L)(hd:k.dp+1<=bk)(hU:U+3< dP)(aZ:∀b o,k.aa.get? b=some o->ar.get? b=some o){S R s0 t0:Nat}{oS:aq}{sk:List Str}(hS:f7 w ks oS)(ri:ks.Perm sk)(m9:DF oG sk n)(DC:AE sk=true)(hR:k.aa.objs.size<=R):Told True (av w) k.bE U (some k.L) ar (IP S f) [(S,oS),(f,t7 (s0+5)),(s0+5,lK s0 t0),(R,eD)] (Qp sk [(S,oS),(f,t7 (s0+5)),(s0+5,lK s0 t0),(R,eD)]):=by
 intro u s ak Rr hu Z jo hRr;obtain⟨⟨m,hm⟩,cA⟩:=jo k.L rfl;have IQ:∀b o,k.aa.get? b=some o->s.heap.get? b=some o:=λb o e=>Z.h.keep _ _ (aZ b o e);have Qt:∀p∈[(S,oS),_,_,_],k.aa.get? p.1=none:=λp hp=>by
  have:=Z.h.off p hp;induction z:k.aa.get? p.1 with
  |none=>rfl|some o=>replace this:=(aZ _ _ z)▸this;cases this
 have aGk:=wR hL;obtain⟨m2,vV⟩:=Ny (Z.h.at_ _ (aB (aB (aB az)))) (by simp[nsOk]);have Qu:=(cA _ (aB (aB (aB az)))).symm;have sub:∀p∈[(S,oS),_,_],p∈[(S,oS),(f,t7 (s0+5)),(s0+5,lK s0 t0),_]:=λp hp=>bL [(R,eD)] hp;have nd:=Z.h.nd;simp only[iJ,wT,ci,a9,bi,or_false,not_or]at nd;have mem:∀J,(∀p∈[(S,oS),_,_],p.1≠J)->∀p∈[(S,oS),_,_],p∈others s.heap k.aa J []:=λJ hl p hp=>
  vk.mpr ⟨Z.h.at_ p (sub p hp),hl p hp,bi,Qt p (sub p hp)⟩;have news:∀J,px k.aa J s.heap (others s.heap k.aa J []):=λJ p hp=>by
  have:=vk.mp hp;exact⟨this.1,this.2.1,this.2.2.2⟩
 let A':={ k.bE with units:=u }
 have key:∀J m',_->Fr k.aa J s.heap m'->eC (av w) A' (IP S f)
   (λr s'=>∃D e h' tk dr out,SV out sk/\Fr k.aa J h' m'/\px k.aa J h' ((D,listOf (cE out) e)::others s.heap k.aa J [])/\(∀p∈others s.heap k.aa J [],p.1< D)/\r= .ok (.ret (.ref D))/\s'={ s with heap:=h',toks:=tk,drawn:=dr }) s:=λJ m' hl F=>by
  refine aF1 F (news J) rfl (b7 [lL (Y2+3) Y1,lE Y0 Y2] (lL (Y0+3) Y1) rfl hU hu) (mem J hl _ az) hS m9 ri (ksk_s1 _ _) (λx=>ksk_l1 _ _) (λx=>rfl) ?_ λD e h' tk dr out sv F' N' bp=>⟨D,e,h',tk,dr,out,sv,F',N',bp,rfl,rfl⟩;exact aGg ok.X ok.T.nolimit rfl (hd) (mem J hl _ (aB az)) (mem J hl _ (aB (aB az))) nd.2.1.1 DC
 have k2:=key R m2 (by simp only[a9,bi,or_false];rintro p (rfl|rfl|rfl);exact nd.1.2.2;exact nd.2.1.2;exact nd.2.2.1) (⟨vV,IQ,hR⟩);refine Mo (aEs (key k.L m (λp hp=>cA p (sub p hp)) (⟨hm,IQ,hL⟩)) k2) ?_;rintro r s' ⟨⟨D,e,h',tk,dr,out,sv,F',N',bp,rfl,rfl⟩,D2,e2,h2,J,J,J,J,J,N2',aGl,er,es⟩;obtain rfl:D=D2:=by simpa using er
 have eh:h2=h':=(congrArg Shared.heap es).symm;subst eh;have keep:=aGi IQ aGk (Qt _ (aB (aB (aB az)))) Qu F' (X:=[(D,listOf _ e)]) (N') (Y:=[(D,listOf _ e2)]) (N2');have ND:=N' _ az;have H:s.heap.get? D=none:=by
  induction z:s.heap.get? D with
  |none=>rfl|some o=>
   by_cases q:D=k.L;·exact absurd (aGl (D,o) (vk.mpr ⟨z,λr=>Qu (q.symm.trans r),bi,ND.2.2⟩)) (jH _)
   ·exact absurd (bp (D,o) (vk.mpr ⟨z,q,bi,ND.2.2⟩)) (jH _)
 obtain⟨g,rfl⟩:=Qr sv;refine hRr (λi=>match i with|0=>h2.objs.size|1=>tk|2=>D|3=>e|i+4=>g i) { s with heap:=h2,toks:=tk,drawn:=dr } rfl rfl rfl (λp hp=>?_) ⟨⟨λp hp=>?_,?_,λb o J=>keep b o (Z.h.keep b o J),λp hp=>?_⟩,Z.os,Z.gens, .inl True.intro⟩ λb o J j=>keep b o J;·exact rR (bI.mp hp) H
 ·rcases a9.mp hp with rfl|hp
  ·exact ND.1
  ·exact keep _ _ (Z.h.at_ p hp)
 ·refine ci.mpr ⟨λhm=>?_,Z.h.nd⟩;refine aO (bq.mp hm) λp hp ep=>?_;have:=Z.h.at_ p hp;simp only[ep]at this;exact absurd (this.symm.trans H) (by simp)
 ·rcases a9.mp hp with rfl|hp
  ·induction z:ar.get? D with
   |none=>rfl|some o=>replace H:=(Z.h.keep _ _ z)▸H;cases H
  ·exact Z.h.off p hp
structure DE where
 k:Str
 t:ab
 v:ag
noncomputable abbrev DE.e(w:aj)(d:DE):DictEntry:=⟨aS w.params d.k, .str d.k d.t,d.v⟩
abbrev cD(w:aj)(l:List DE)(ep:Nat):Obj:=Mf (l.map (DE.e w)) ep
noncomputable abbrev fY(l:List DE):List (Str×ag):=l.map λd=>(d.k,d.v)
theorem Qv(w:aj):∀(l:List DE),Pairs (lm Rw.prog w) (l.map (DE.e w)) (fY l)
 |[]=> .nil|d::l=> .cons (mh ..) rfl (Qv w l)
theorem vY(w:aj)(l:List DE)(ep:Nat)(J:(l.map (·.k)).Nodup):(cD w l ep).IsDictOf (lm Rw.prog w) (fY l):=by refine⟨_,_,⟨rfl,rfl,rfl⟩,rfl,λe Y=>?_,by simpa using Qv w l,by simp only[fY,BO];exact J⟩;refine aO (bq.mp (Gk.mp Y)) λd z H=>?_;subst H;exact⟨d.k,mh ..,rfl⟩
section
theorem aGm{l:List DE}{k:Str}{v:ag}(Y:(l.map (·.k)).Nodup)(Z:g6 (fY l) k=some v):Told ao (av w) A U fr aa (bC "dict.__getitem__" [.ref D, .str k u]) [(D,cD w l ep)] (λx=>⟨.ok (.ret v),[(D,cD w l ep)],[],x 0,x 1+1⟩):=by intro u s ak R H H z hR;have J:=zb.mpr ⟨_,H.h.at_ _ az,vY w l ep Y⟩;refine dJ aUr.plain entry_dict_getitem (aUr.check _ _ _ _ _ _ _ _ J.typeIs (args_dict_getitem _ _) (meets_dict_getitem _ D (mh ..) _ R s ⟨_,v,J.mapOf,Z,?_⟩));exact hR (λi=>bif bY i 0 then s.heap.objs.size else s.toks) _ rfl rfl rfl (λp J=>absurd J bi) ⟨H.h,H.os,H.gens,H.same⟩ λb o H J=>H
abbrev vZ(i:Nat)(w:aj)(D:af)(l:List DE)(ep:Nat)(k:Str)(u:ab)(v:ag)(next:aM):aF:= .cons (some 0) (bC "dict.__getitem__" [.ref D, .str k u]) [i] [(D,cD w l ep)] (λx=>⟨.ok (.ret v),[(D,cD w l ep)],[],x 0,x 1+1⟩) next
theorem xV{i:Nat}{l:List DE}{k:Str}{v:ag}{next:aM}(H:(l.map (·.k)).Nodup)(J:g6 (fY l) k=some v)(h:∀x lv,(next x).Ok ao (av w) A U fr aa lv):(vZ i w D l ep k u v next).Ok ao (av w) A U fr aa lv:=⟨rfl,ci.mpr ⟨bi,bN⟩,λY z z=>aGm H J,λx z z=>h x _⟩
abbrev IR(d:af):Obj:=nc (⟨.type "dict_items",none, .fields #[.ref d],#[]⟩)
end
noncomputable abbrev AT.es(a:AT):List DE:=[⟨"n",a.kn, .str a.n a.tn⟩,⟨"c",a.kc, .str a.c a.tc⟩,⟨"s",a.ks, .str a.s a.ts⟩,⟨"l",a.kl, .str a.l a.tl⟩,⟨"h",a.kh, .str a.h a.th⟩]
abbrev lM(k:Str)(t:ab)(v:ag):Obj:=nc (⟨.type "tuple",none, .seq (cE [.str k t,v]) 0,#[]⟩)
abbrev xW(a:AT)(x:Nat->Nat):List (af×aq):=[(x 3,lM "n" (x 8) (.str a.n a.tn)),(x 4,lM "c" (x 9) (.str a.c a.tc)),(x 5,lM "s" (x 10) (.str a.s a.ts)),(x 6,lM "l" (x 11) (.str a.l a.tl)),(x 7,lM "h" (x 12) (.str a.h a.th))]
def Qx:List Nat:=(dN 102 0x6318c00f801f2a000f801f3a000f801f22000f801f29c00f801f21c00f801f31c00f801f21800f801f31400f801f29800f801f2150839cc6294840842108020)
def itR(w:aj)(a:AT)(B:Nat)(x:Nat->Nat)(sz tk:Nat)(H:Xs):=(aI w 0 0 none 400).S [] H ⟨(B,listOf (cE [.ref (x 3), .ref (x 4), .ref (x 5), .ref (x 6), .ref (x 7)]) 0)::xW a x,sz,tk,Qx, .nil⟩ (call (.builtin "list.sort") [.ref B]) fin
abbrev IS(x:Nat->Nat):Obj:=nc (listOf (cE [.ref (x 4), .ref (x 7), .ref (x 6), .ref (x 3), .ref (x 5)]) 2)
theorem aGn(w:aj)(a:AT)(B:Nat)(x:Nat->Nat)(sz tk:Nat)(H:Xs):Ends [2,3,4,5,6,7] (itR w a B x sz tk H) (.ok .none,((B,IS x)::xW a x).map some,sz+2,tk):=by kernel_rfl
theorem AF{J:List af}(h:J.length=n+1):∃a H,J=a::H/\H.length=n:=by
 induction J using pq with
 |nil=>injection h|cons a H=>exact⟨a,H,rfl,Nat.succ.inj h⟩
theorem aGo{H:List af}(h:H.length=5):∃a b c d e,H=[a,b,c,d,e]:=by refine c7 (AF h) λa H J h=>?_;refine c7 (AF h) λb H Y h=>?_;refine c7 (AF h) λc H H h=>?_;refine c7 (AF h) λd ds Z h=>?_;refine c7 (AF h) λe es ee h=>?_;exact⟨a,b,c,d,e,by rw[J,Y,H,Z,ee,List.eq_nil_of_length_eq_zero h]⟩
abbrev IT(w:aj)(a:AT)(V:Nat):List (af×aq):=[(V,IR a.at_),(a.at_,cD w a.es a.ep)]
abbrev Qy(V:Nat):Code:=nc (.call (.builtin "sorted") ⟨[.ref V],[]⟩)
def Qz(w:aj)(a:AT)(V:Nat):(Nat->Nat)->Out:=λx=>⟨.ok (.ret (.ref (x 2))),IT w a V,(x 2,IS x)::xW a x,x 0,x 1⟩
theorem aGp(X:aK w ar)(hA:A.handled=none)(a:AT)(V:Nat):Told True (av w) A U fr ar (Qy V) (IT w a V) (Qz w a V):=by
 intro u s ak R hu J n hR;have hd:=zb.mpr ⟨_,J.h.at_ _ (aB az),vY w a.es a.ep (by simp only[qH];decide+kernel)⟩;obtain⟨ep',d9⟩:=hd.dictAt;refine Qc kind_sorted plain_sorted entry_sorted (args_sorted1 _) (au (aH ?_));refine au (kdx_collect (hA) ⟨_,J.h.at_ _ az,rfl,rfl⟩ d9 (dh rfl) λh' tk as hk hl Y=>?_);refine hO λcg aY=>YZ (aGo hl) λa1 a2 a3 a4 a5 eq1=>?_;subst eq1;refine aY ?_;have H:∀j b,[a1,a2,a3,a4,a5][j]?=some b->∀k v,_[j]?=some (k,v)->∃t,h'.get? b=some (lM ..):=λj b e k v e2=>by refine M7 (Y.pairs j b e) λkey k' v' e3 e4 e5=>?_;replace e3:=e2▸e3;cases e3;obtain⟨t,rfl⟩:=Gf e4;exact⟨t,e5⟩
 refine hO λkA dZ=>?_;obtain⟨t1,g1⟩:=H 0 a1 rfl _ _ rfl;obtain⟨t2,g2⟩:=H 1 a2 rfl _ _ rfl;obtain⟨t3,g3⟩:=H 2 a3 rfl _ _ rfl;obtain⟨t4,g4⟩:=H 3 a4 rfl _ _ rfl;obtain⟨t5,g5⟩:=H 4 a5 rfl _ _ rfl;refine dZ (au (wpAny_newList ?_ (dh rfl)));let x:Nat->Nat:=λi=>match i with|2=>h'.objs.size|3=>a1|4=>a2|5=>a3|6=>a4|7=>a5|8=>t1|9=>t2|10=>t3|11=>t4|12=>t5|_=>0
 have Z:∀p∈xW a x,h'.get? p.1=some p.2/\s.heap.objs.size< p.1:=λp hp=>by
  simp only[a9,bi,or_false]at hp;rcases hp with rfl|rfl|rfl|rfl|rfl
  ·exact⟨g1,Y.above a1 az⟩
  ·exact⟨g2,Y.above a2 (aB az)⟩
  ·exact⟨g3,Y.above a3 (aB (aB az))⟩
  ·exact⟨g4,Y.above a4 (aB (aB (aB az)))⟩
  ·exact⟨g5,Y.above a5 (aB (aB (aB (aB az))))⟩
 have k2:∀b o,s.heap.get? b=some o->(h'.push (sw "list" (cE ([a1,a2,a3,a4,a5].map aN)) 0)).get? b=some o:=λb o e=>cZ _ (hk b o e);have hB:=za (Z _ az).2 (dH (Z _ az).1);have QB:∀b,s.heap.objs.size<=b->ar.get? b=none:=λb hb=>by
  induction z:ar.get? b with
  |none=>rfl|some o=>exact absurd (dH (J.h.keep _ _ z)) (dw.mpr hb)
 have Aj:ay True ar ak ((x 2,listOf (cE [.ref (x 3), .ref (x 4), .ref (x 5), .ref (x 6), .ref (x 7)]) 0)::xW a x) { s with heap:=h'.push (sw "list" (cE ([a1,a2,a3,a4,a5].map aN)) 0),toks:=tk }:=by
  refine⟨⟨λp hp=>?_,?_,λb o e=>k2 b o (J.h.keep b o e),λp hp=>?_⟩,J.os,J.gens, .inl True.intro⟩
  ·rcases a9.mp hp with rfl|hp
   ·exact gY _ rfl
   ·exact cZ _ (Z p hp).1
  ·refine ci.mpr ⟨λH=>?_,?_⟩;·exact aO (bq.mp H) λp hp e=>absurd e (du (dH (Z p hp).1))
   ·exact Y.rise.imp λh=>du h
  ·rcases a9.mp hp with rfl|hp
   ·exact QB _ (cR hB)
   ·exact QB _ (cR (Z p hp).2)
 refine au (fV ?_);refine wp_run Aj X (hA) 0 0 400 Qx [2,3,4,5,6,7] .nil (λm=>True.intro) nofun (a8 _) (by decide) _ _ _ _ (λH=>aGn w a (x 2) ..) λH s' bU hz H G=>aH ⟨_,rfl,?_⟩
 have kp:∀b o,s.heap.get? b=some o->s'.heap.get? b=some o:=λb o e=>by
  refine G.keep b o (k2 b o e) λp hp q=>?_;have bp:=dH e;rcases a9.mp hp with rfl|hp
  ·exact absurd q (jc (za bp hB))
  ·exact absurd q (jc (za bp (Z p hp).2))
 have low:∀p∈(x 2,IS x)::xW a x,s.heap.objs.size<=p.1:=λp hp=>by
  rcases a9.mp hp with rfl|hp
  ·exact cR hB
  ·exact cR (Z p hp).2
 refine hR (λi=>match i with|0=>s'.heap.objs.size|1=>s'.toks|i=>x i) s' rfl rfl rfl (λp hp=>wR (low p hp)) ⟨⟨λp hp=>?_,?_,bU.h.keep,λp hp=>?_⟩,bU.os,bU.gens, .inl True.intro⟩ λb o e m=>kp b o e
 ·rcases cq.mp hp with hp|hp
  ·exact bU.h.at_ p hp
  ·exact kp _ _ (J.h.at_ p hp)
 ·rw[bM,fi];refine⟨bU.h.nd,J.h.nd,λy H z hz e=>?_⟩;refine aO (bq.mp H) λp hp eq2=>?_;subst eq2;refine aO (bq.mp hz) λq hq eq3=>?_;subst eq3;exact absurd e (jc (qr (J.h.low q hq) (low p hp)))
 ·rcases cq.mp hp with hp|hp
  ·exact bU.h.off p hp
  ·exact J.h.off p hp
section
variable {l:List DE}{next:aM}
theorem aGq(Z:(l.map (·.k)).Nodup)(Y:(D==ic)=false):Told ao (av w) A U fr aa (bC "dict.items" [.ref D]) [(D,cD w l ep)] (λx=>⟨.ok (.ret (.ref (x 0))),[(D,cD w l ep)],[(x 0,IR D)],x 0+1,x 1⟩):=by intro u s ak R H H z hR;have J:=zb.mpr ⟨_,H.h.at_ _ az,vY w l ep Z⟩;have Z:s.heap.get? s.heap.objs.size=none:=wR (a8 _);refine dJ aUs.plain PySem.F.entry_dict_items (aUs.check _ _ _ _ _ _ _ _ J.typeIs (PySem.F.args_dict_items_1 _) (meets_dict_items _ D Y _ R s ⟨⟨_,J⟩,?_⟩));refine hR (λi=>bif bY i 0 then s.heap.objs.size else s.toks) _ (qv _ _) rfl rfl (λp J=>?_) ⟨H.h.alloc rfl,H.os,H.gens,H.same⟩ λb o H Y=>cZ _ H;exact rR (bI.mp J) Z
abbrev QC(i:Nat)(w:aj)(D:af)(l:List DE)(ep:Nat)(next:aM):aF:= .cons (some 0) (bC "dict.items" [.ref D]) [i] [(D,cD w l ep)] (λx=>⟨.ok (.ret (.ref (x 0))),[(D,cD w l ep)],[(x 0,IR D)],x 0+1,x 1⟩) next
theorem aGr{i:Nat}(H:(l.map (·.k)).Nodup)(J:(D==ic)=false)(h:∀x lv,(next x).Ok ao (av w) A U fr aa lv):(QC i w D l ep next).Ok ao (av w) A U fr aa lv:=⟨rfl,ci.mpr ⟨bi,bN⟩,λY z z=>aGq H J,λx z z=>h x _⟩
theorem aGs{k:Str}(Z:(l.map (·.k)).Nodup)(Y:(D==ic)=false):Told ao (av w) A U fr aa (bC "dict.get" [.ref D, .str k u]) [(D,cD w l ep)] (λx=>⟨.ok (.ret ((g6 (fY l) k).getD .none)),[(D,cD w l ep)],[],x 0,x 1+1⟩):=by intro u s ak R H H z hR;have J:=zb.mpr ⟨_,H.h.at_ _ az,vY w l ep Z⟩;refine dJ MP.plain aUt (MP.check _ _ _ _ _ _ _ _ J.typeIs (PySem.F.args_dict_get_2 _ _) (meets_dict_get _ D (mh ..) Y _ R s ⟨_,J.mapOf,?_⟩));exact hR (λi=>bif bY i 0 then s.heap.objs.size else s.toks) _ rfl rfl rfl (λp J=>absurd J bi) ⟨H.h,H.os,H.gens,H.same⟩ λb o H J=>H
abbrev QD(i:Nat)(w:aj)(D:af)(l:List DE)(ep:Nat)(k:Str)(u:ab)(v:ag)(next:aM):aF:= .cons (some 0) (bC "dict.get" [.ref D, .str k u]) [i] [(D,cD w l ep)] (λx=>⟨.ok (.ret v),[(D,cD w l ep)],[],x 0,x 1+1⟩) next
theorem aGt{i:Nat}{k:Str}{v:ag}(H:(l.map (·.k)).Nodup)(Y:(D==ic)=false)(J:(g6 (fY l) k).getD .none=v)(h:∀x lv,(next x).Ok ao (av w) A U fr aa lv):(QD i w D l ep k u v next).Ok ao (av w) A U fr aa lv:=⟨rfl,ci.mpr ⟨bi,bN⟩,λZ z z=>J▸aGs H Y,λx z z=>h x _⟩
theorem aGu(Z:(l.map (·.k)).Nodup)(Y:(D==ic)=false)(J:(fY l).length=k)(hz:k<=1001):Told ao (av w) A U fr aa (.builtin "len" ⟨[.ref D],[]⟩) [(D,cD w l ep)] (λx=>⟨.ok (.ret (.int k (x 2))),[(D,cD w l ep)],[],x 0,x 1⟩):=by
 intro u s ak R hu H j hR;refine qw WY ?_;have bp:((fY l).length:Int)< 2 ^ 63:=by exact rR J (iB [(k:Nat)] [lE Y0 1001] (lL Y0 9223372036854775808) rfl (bK.mpr hz))
 refine pz (PySem.wpAny_len_body_dict (Q:=λr s'=>r= .int k _/\s'={ s with toks:=s.toks+1+1 }) Y (zb.mpr ⟨_,H.h.at_ _ az,vY w l ep Z⟩) bp ⟨rR J rfl,rfl⟩) (λJ s' h'=>?_) λz z e=>e;obtain⟨r,rfl,rfl,rfl⟩:=h';exact hR (λi=>bif bY i 0 then s.heap.objs.size else bif bY i 1 then s.toks+1+1 else s.toks+1) _ rfl rfl rfl (λp J=>nomatch J) ⟨H.h,H.os,H.gens,H.same⟩ λb o H J=>H
abbrev QE(i:Nat)(w:aj)(D:af)(l:List DE)(ep k:Nat)(next:aM):aF:= .cons (some 0) (.builtin "len" ⟨[.ref D],[]⟩) [i] [(D,cD w l ep)] (λx=>⟨.ok (.ret (.int k (x 2))),[(D,cD w l ep)],[],x 0,x 1⟩) next
theorem aGv{i:Nat}(H:(l.map (·.k)).Nodup)(Y:(D==ic)=false)(J:(fY l).length=k)(Z:k<=1001)(h:∀x lv,(next x).Ok ao (av w) A U fr aa lv):(QE i w D l ep k next).Ok ao (av w) A U fr aa lv:=⟨rfl,ci.mpr ⟨bi,bN⟩,λA' z z=>aGu H Y J Z,λx z z=>h x _⟩
end
def v5(e:cY):PySem.Expr:=xE (xE e 0) 0
def xX(e:cY):Pos:=(xE e 0).pos
def v6(e:cY):List PySem.Expr:=(eE e).drop 1
def t8(e:cY):Pos:=nc (e.pos)
def exE(b:List ck):PySem.Expr:=pE b[0]? 0
noncomputable def DP(o:cY)(nm:Str)(ap pos:d5)(args:List cY)(env:k7):=do
 let ov <-attributeBase o nm env (fx o env)
 Gl ap.atName
 let (f,first) <-Gm [ov] (calleeOf (aUu (args.length+([]:List Ye).length) (zc pos (w7 args env)) (zd pos (ze [] env))) o env ov nm)
 let cp <-methodCallPos (aUu (args.length+([]:List Ye).length) (zc pos (w7 args env)) (zd pos (ze [] env))) o env ap pos
 let a <-Gm (f::first) (evalArgs f true (zc pos (w7 args env)) (zd pos (ze [] env)))
 Gl cp
 let k <-keeperOf f
 pure (f,first++a.pos,a.kw,k)
def postC(pos:d5)(args:List cY)(env:k7)(q:ag×List ag×List (Str×ag)×Keeper):ca Value:=do
 let H:=(zc pos (w7 args env)).any (·.1)||(zd pos (ze [] env)).any (·.1.isNone)
 let r <-match q.2.2.2,H with
  | .frame,true=>MQ starredCall q.1 q.2.1 q.2.2.1| .frame,false=>if(zc pos (w7 args env)).length+2*(zd pos (ze [] env)).length>30 then call q.1 q.2.1 q.2.2.1 else MQ plainCall q.1 q.2.1 q.2.2.1| .boundFrame,false=>if(zc pos (w7 args env)).length+2*(zd pos (ze [] env)).length>30 then call q.1 q.2.1 q.2.2.1 else MQ callOfAMethodObject q.1 q.2.1 q.2.2.1| .machine,false=>call q.1 q.2.1 q.2.2.1|_,_=>operate (q.1::(if H then q.2.1.reverse else q.2.1)++q.2.2.1.map (·.2)) (call q.1 q.2.1 q.2.2.1)
 Gm [r] point
 pure r
theorem QG(o:cY)(nm:Str)(ap pos:d5)(args:List cY)(env:k7):fx (.Call (.Attribute o nm ap) args [] pos) env=DP o nm ap pos args env>>=postC pos args env:=by simp only[arm_eval_Call];unfold methodCall callWith DP postC;simp only[bind_assoc,pure_bind];rfl
theorem AG(l:af)(vs:List ag)(y:ag)(e:Nat)(t:ab):Told ao (av w) A U fr aa (bC "list.__getitem__" [.ref l, .int (-1) t]) [(l,listOf (vs++[y]).toArray e)] (λx=>⟨.ok (.ret y),[(l,listOf (vs++[y]).toArray e)],[],x 0,x 1⟩):=by
 intro u s ak R hu H z Z;have J:=H.h.at_ _ az;have Y:s.heap.IsList l (vs++[y]).toArray:=⟨_,J,rfl,e,rfl⟩
 refine dJ B4.plain Xq (B4.check _ _ _ _ _ _ _ _ Y.typeIs (Xr _ _) ?_);show aG _ _ (Xu _>>=_) ..;refine au (aUv (fitsIndex_neg (by decide) (by decide)) ?_);refine au (au ?_);refine au (wU J rfl (aH (aH ?_)));have J:pA (-1) (vs++[y]).toArray.size=some vs.length:=by refine rR (PySem.seqIndex_neg (by decide) (by simp;exact iB [(vs.length:Nat)] [lE 0 Y0] (lE 1 (Y0+1)) rfl (bG _))) (rR py (rR bQ ?_));congr 1;simp;exact rR (Int.add_comm _ 1 ..) (rR (Int.neg_add_cancel_left ..) (wX _))
 have Y:(vs++[y]).toArray[vs.length]?=some y:=by simp
 refine rR J (rR (Mt ..) (rR (Y ..) (rR (Gj ..) ?_)));exact aH (Z (λi=>bif bY i 0 then s.heap.objs.size else s.toks) s rfl rfl rfl (λp J=>absurd J bi) ⟨H.h,H.os,H.gens,H.same⟩ λb o H J=>H)
abbrev xY(i:Nat)(l:af)(vs:List ag)(y:ag)(e:Nat)(t:ab)(next:aM):aF:= .cons (some 0) (bC "list.__getitem__" [.ref l, .int (-1) t]) [i] [(l,aA (vs++[y]) e)] (λx=>⟨.ok (.ret y),[(l,aA (vs++[y]) e)],[],x 0,x 1⟩) next
theorem aGw(l:af)(vs:List ag)(v:ag)(e:Nat)(Z:vs.length<=1000):Told ao (av w) A U fr aa (.builtin "list.append" ⟨[.ref l,v],[]⟩) [(l,listOf vs.toArray e)] (λx=>⟨.ok (.ret .none),[(l,listOf (vs++[v]).toArray (e+1))],[],x 0,x 1⟩):=by intro u s ak R J H j hR;refine qw aSl ?_;show aG _ _ (updateSeq l _>>=λz=>ret .none) ..;have kr:vs.toArray.size<=sizeLine:=aE Z (by decide);refine au (FP (H.h.at_ _ az) rfl (aH ?_) kr (by rw[aSm];omega));have J:=H.h.update (i:=0) (f:=λo=>o.mapSeq (·.push v)) rfl rfl;have Y:lb l s.heap (s.heap.update l λo=>o.mapSeq (·.push v)):=ia ..;have e1:mS _ _=listOf (vs++[v]).toArray (e+1):=rL (aSn ..) (mapSeq_push ..);replace J:f4 aa [(l,mS _ _)] _:=J;rw[e1]at J;exact hR (λi=>bif bY i 0 then s.heap.objs.size else s.toks) _ Y.1 rfl rfl (λp Z=>nomatch Z) ⟨J,H.os,H.gens,H.same⟩ λb o J H=>(Y.2 b (H _ az).symm).trans J
abbrev rk(i:Nat)(l:af)(vs:List ag)(e:Nat)(v:ag)(next:aM):aF:= .cons (some 0) (.builtin "list.append" ⟨[.ref l,v],[]⟩) [i] [(l,aA vs e)] (λx=>⟨.ok (.ret .none),[(l,aA (vs++[v]) (e+1))],[],x 0,x 1⟩) next
theorem v7{i:Nat}{l:af}{e:Nat}{v:ag}{next:aM}(H:vs.length<=1000)(h:∀x lv,(next x).Ok ao (av w) A U fr aa lv):(rk i l vs e v next).Ok ao (av w) A U fr aa lv:=⟨rfl,ci.mpr ⟨bi,bN⟩,λJ J z=>aGw l vs v e H,λx z z=>h x _⟩
abbrev qB:List Stmt:=bodyOf u5.1
abbrev qE(L:af):Env:=mB u5.1 90 L
def t9:FuncData:=match u5.1.data with
 | .func f=>f|_=>default
def QH(s:Option ck):cY×cY×List ck×Pos:=(pE s 0,pE s 1,pB s 0,(oS s).pos)
def cH(j:Bool):cY×cY×List ck×Pos:=match j with
 |false=>QH (qB[2]?)|true=>QH (qB[5]?)
theorem QI:qB=qB.take 2++ .For (cH false).1 (cH false).2.1 (cH false).2.2.1 [] (cH false).2.2.2::((qB.take 5).drop 3++ .For (cH true).1 (cH true).2.1 (cH true).2.2.1 [] (cH true).2.2.2::qB.drop 6):=by kernel_rfl
abbrev qIt(e:cY)(nm:Str):=aXh (.Attribute (v5 e) nm (xX e)) (v6 e) [] (t8 e)
theorem aGx(j:Bool):(cH j).2.1=qIt (cH j).2.1 "_iter_namespaces":=by induction j<;>kernel_rfl
abbrev DQ:PySem.Expr:=exE ((cH false).2.2.1.drop 1)
abbrev TG.p1(G:TG)(w:aj)(ta:Nat)(aX:List ag)(aP:Nat):List (af×aq):=[(ta,aA aX aP),(G.tg,dW 150 G.td),(G.td,fk w G.wr G.b G.rs G.rn G.dl G.ds G.ns G.pm G.ps G.ti G.ep G.kt),(G.ds,aA ((G.cT.map λl=>aN l.a)++[aN ta]) G.dep),(G.ns,aA (G.aL.map λl=>aN l.a) G.ei)]
variable {p1:Prop}
abbrev qK(w:aj)(n:Str)(t:ab)(v:ag):DictEntry:=nc (⟨aS w.params n, .str n t,v⟩)
abbrev DR(w:aj)(L tg k:Nat)(x:Str)(t:ab):af×Obj:=(L,⟨.type "frame",none, .dict (cE [qK w "self" k (.ref tg),qK w "qname" (k+1) (.str x t),qK w "uri" (k+2) .none]) 3,#[]⟩)
structure QV where
 k:Nat->ab
 U:Str
 tU:ab
 T:Str
 tT:ab
 sa:Nat
 u:Str
 tu:ab
 p:Str
 tp:ab
abbrev QV.l(f:QV)(w:aj)(tg:Nat)(x:Str)(t:ab):List DictEntry:=[qK w "self" (f.k 0) (.ref tg),qK w "qname" (f.k 1) (.str x t),qK w "uri" (f.k 2) (.str f.U f.tU),qK w "tag" (f.k 3) (.str f.T f.tT),qK w "prefixes_seen" (f.k 4) (.ref f.sa)]
def qF(w:aj)(L tg:Nat)(x:Str)(t:ab)(κ:Bool)(f:QV):af×Obj:=(L,⟨.type "frame",none,match κ with
 |false=> .dict (f.l w tg x t).toArray 5|true=> .dict (f.l w tg x t++[qK w "u" (f.k 5) (.str f.u f.tu),qK w "prefix" (f.k 6) (.str f.p f.tp)]).toArray 7,#[]⟩)
abbrev ej(d:kZ):Obj:=nc (⟨.type "set",none,d,#[]⟩)
abbrev xZ(a b:ag):Obj:=nc (⟨.type "slice",none, .fields #[a,b, .none],#[]⟩)
abbrev v8(x r:Str)(t:ab)(D:af)(o:aq)(next:aM):aF:= .cons (some 0) (bC "str.__getitem__" [.str x t, .ref D]) [0] [(D,o)] (λe=>⟨.ok (.ret (.str r (e 2))),[(D,o)],[],e 0,e 1⟩) next
abbrev QJ(z a b:Str)(t u v:ab)(next:aM):aF:= .cons (some 0) (bC "str.rsplit" [.str z t, .str "}" u, .int 1 v]) [] [] (λe=>⟨.ok (.ret (.ref (e 0))),[],[(e 0,listOf [ag.str a (e 1), .str b (e 1+1)].toArray 0)],e 0+1,e 1+2⟩) next
abbrev AH(H:af)(d:kZ)(k:Str)(t:ab)(b:Bool)(next:aM):aF:= .cons (some 0) (bC "set.__contains__" [.ref H, .str k t]) [1] [(H,ej d)] (λx=>⟨.ok (.ret (.bool b)),[(H,ej d)],[],x 0,x 1⟩) next
abbrev QK(l:af)(vs:List ag)(y:ag)(e:Nat)(t:ab)(next:aM):aF:= .cons (some 0) (bC "list.__getitem__" [.ref l, .int (-1) t]) [4] [(l,aA (vs++[y]) e)] (λx=>⟨.ok (.ret y),[(l,aA (vs++[y]) e)],[],x 0,x 1⟩) next
def DT(w:aj):Nat:=nc (match w.params.followText "fstring-hands-on-the-str" with
 |false=>3|true=>5)
section
variable (w:aj)(G:TG)(κ j:Bool)(f:QV)(e:NE)(q:Str)(t:ab)(x y L k sz tk ta aP:Nat)(aX:List ag)(d:kZ)(ro:List (af×aq))(σ:Xs)
theorem q_F:(K w.params).lookup 90=some ⟨u5.1.cls,u5.1.dict, .func t9,u5.1.slots⟩:=by kernel_rfl
abbrev QL(k a:Nat):Nat->Tok:=nc (λi=>match i with|0=>k|1=>k+1|2=>k+2|3=>a|_=>a+1)
abbrev IU(w:aj):Data:=nc (.set #[] 0 (.fresh 0 0 (!w.params.followText "set-order")))
abbrev qkU(κ:Bool)(k:Nat->ab)(tk:Nat):Nat->Tok:=nc (match κ with
 |true=>k|false=>λi=>match i with|5=>tk|6=>tk+1|i=>k i)
theorem aGy:Ends [3,4] ((aI w 0 0 none 600).S [] σ ⟨[qF w L G.tg q t κ f,(e.t,fA e)],sz,tk,(dN 40 0x21084084230840100421184200802108c210040108040f8842), .nil⟩ (pD (cH j).1 (qE L) (.ref e.t)) fin) (.ok (),[qF w L G.tg q t true { f with k:=qkU κ f.k tk,u:=e.u,tu:=e.tu,p:=e.p,tp:=e.tp },(e.t,fA e)].map some,sz+3,tk+2):=by induction j<;>induction κ<;>kernel_rfl
theorem aGz:Ends [0] ((aI w 0 0 none 600).S [] σ ⟨[qF w L G.tg q t true f],sz,tk,[1,1,777,2],cB f.u f.U f.tu f.tU false λ_=> .nil⟩ (aV ((cH j).2.2.1.take 1) (qE L)) fin) (.ok .next,[qF w L G.tg q t true f].map some,σ 0 0,σ 0 1):=by induction j<;>kernel_rfl
theorem aG0(H:f.U=bv x/\f.T=cS/\f.p=⟨#[x]⟩):bA ((aI w 0 0 none 600).S [] σ ⟨[qF w L G.tg q t true f,(f.sa,ej d)],sz,tk,(dN 17 0x108420000221082117c21),cB f.u f.U f.tu f.tU true λ_=>AH f.sa d f.p f.tp false λ_=> .nil⟩ (aV (cH false).2.2.1 (qE L)) fin) (.ok (.ret (.ref (σ 1 0))),[(σ 1 0,tR (iv x) cS (bv x) (σ 1 1+DT w) f.tT f.tU),qF w L G.tg q t true f,(f.sa,ej d)],σ 1 0+1,σ 1 1+(DT w+1)):=by obtain⟨k,U,J,T,J,J,u,J,p,J⟩:=f;obtain⟨rfl,rfl,rfl⟩:=H;revert w;refine byRow2 "fstring-hands-on-the-str" (λw=>?_) (λw=>?_)<;>kernel_rfl
theorem aG1(H:f.U=bv x/\f.T=cS/\f.p=⟨#[x]⟩):bA ((aI w 0 0 none 600).S [] σ ⟨qF w L G.tg q t true f::G.p1 w ta aX aP,sz,tk,(dN 42 0x4210800008430042210840114a50008018c0000c000006117c21),cB f.u f.U f.tu f.tU true λa=>QK G.ds (G.cT.map λl=>aN l.a) (.ref ta) G.dep (a 1+1+1) λb=>rk 2 ta aX aP (.ref (b 0)) λ_=> .nil⟩ (aV (cH true).2.2.1 (qE L)) fin) (.ok (.ret (.ref (σ 2 0))),(σ 2 0,tR (iv x) cS (bv x) (σ 2 1+DT w) f.tT f.tU)::(σ 1 0,⟨.type "tuple",none, .seq #[.str (bv x) f.tU, .str ⟨#[x]⟩ f.tp] 0,#[]⟩)::qF w L G.tg q t true f::G.p1 w ta (aX++[.ref (σ 1 0)]) (aP+1),σ 2 0+1,σ 2 1+(DT w+1)):=by obtain⟨k,U,J,T,J,J,u,J,p,J⟩:=f;obtain⟨rfl,rfl,rfl⟩:=H;revert w;refine byRow2 "fstring-hands-on-the-str" (λw=>?_) (λw=>?_)<;>kernel_rfl
theorem aG2(H:f.U=""/\f.T=⟨#[y]⟩):bA ((aI w 0 0 none 600).S [] σ ⟨qF w L G.tg q t κ f::(f.sa,ej d)::G.p1 w ta aX aP,sz,tk,(dN 25 0x10844210400004a0210000100000081),AH f.sa d "" (tk+1+1+1) false λ_=> .nil⟩ (aV ((qB.take 5).drop 3) (qE L)) fin) (.ok (.ret (.ref (σ 0 0))),(σ 0 0,tR ⟨#[y]⟩ ⟨#[y]⟩ "" f.tT f.tT f.tU)::qF w L G.tg q t κ f::(f.sa,ej d)::G.p1 w ta aX aP,σ 0 0+1,σ 0 1):=by obtain⟨k,U,J,T,J,J,u,J,p,J⟩:=f;obtain⟨rfl,rfl⟩:=H;induction κ<;>kernel_rfl
theorem aG3(H:f.U=bv x):bA ((aI w 0 0 none 600).S [] σ ⟨qF w L G.tg q t κ f::G.p1 w ta aX aP,sz,tk,(dN 18 0x48018c0000c0000061), .nil⟩ (aV ((qB.take 5).drop 3) (qE L)) fin) (.ok .next,qF w L G.tg q t κ f::G.p1 w ta aX aP,sz,tk+3):=by obtain⟨k,U,J,T,J,J,u,J,p,J⟩:=f;obtain rfl:=H;induction κ<;>kernel_rfl
theorem aG4:bA ((aI w 0 0 none 600).S [] σ ⟨[qF w L G.tg q t κ f,(G.tg,dW 150 G.td),(G.td,fk w G.wr G.b G.rs G.rn G.dl G.ds G.ns G.pm G.ps G.ti G.ep G.kt)],sz,tk,(dN 31 0x6010800008000004118800000400004000041), .nil⟩ (DP (v5 (cH j).2.1) "_iter_namespaces" (xX (cH j).2.1) (t8 (cH j).2.1) (v6 (cH j).2.1) (qE L)) fin) (.ok (.ref 75,[.ref G.tg, .ref (bif j then G.ns else G.ds)],[], .frame),[qF w L G.tg q t κ f,(G.tg,dW 150 G.td),(G.td,fk w G.wr G.b G.rs G.rn G.dl G.ds G.ns G.pm G.ps G.ti G.ep G.kt)],sz,tk+1):=by induction j<;>induction κ<;>kernel_rfl
theorem aG5(a b:ag):postC (t8 (cH j).2.1) (v6 (cH j).2.1) (qE L) (.ref 75,[a,b],[], .frame)=(MQ plainCall (.ref 75) [a,b] [] >>=λr=>Gm [r] point>>=λ_=>pure r):=by induction j<;>kernel_rfl
end
theorem AI:(∀(w:aj)(G:TG)q t sz tk ta aP aX ro σ,bA ((aI w 0 0 none 400).S [] σ ⟨G.p1 w ta aX aP++ro,sz,tk,[0], .nil⟩ (ma t9 ⟨[.ref G.tg, .str q t],[]⟩) fin) (.ok [("self", .ref G.tg),("qname", .str q t),("uri", .none)],G.p1 w ta aX aP++ro,sz,tk))/\(∀(w:aj)(G:TG)q t sz tk ta aP aX ro σ,bA ((aI w 0 0 none 400).S [] σ ⟨G.p1 w ta aX aP++ro,sz,tk,[1,1,1,1,1,1], .nil⟩ (md t9.scope t9.globals t9.closure [("self", .ref G.tg),("qname", .str q t),("uri", .none)] (t9.qualname++".<locals>.") (some 90) t9.code none t9.builtins) fin) (.ok (qE sz),[DR w sz G.tg tk q t]++(G.p1 w ta aX aP++ro),sz+1,tk+3))/\(∀(w:aj)(G:TG)t y L k sz tk σ,Ends [6,0] ((aI w 0 0 none 600).S [] σ ⟨[DR w L G.tg k ⟨#[y]⟩ t],sz,tk,(dN 62 0xe7084010802100000000c63182108821004010844108020084220840100420083e108442f8821),v8 ⟨#[y]⟩ ⟨#[y]⟩ t sz (xZ .none (.int 1 tk)) λa=>cB ⟨#[y]⟩ "{" (a 2) (a 1) false λ_=> .nil⟩ (aV (qB.take 2) (qE L)) fin) (.ok .next,[qF w L G.tg ⟨#[y]⟩ t false ⟨QL k (σ 1 1+2),"",σ 1 1,⟨#[y]⟩,t,σ 1 0+4,"",0,"",0⟩,(σ 1 0+4,ej (IU w))].map some,σ 1 0+5,σ 1 1+4))/\(∀(w:aj)(G:TG)t x L k sz tk σ(z:Str),Ends [7,0] ((aI w 0 0 none 600).S [] σ ⟨[DR w L G.tg k (iu x) t],sz,tk,(dN 64 0x4202100420084000000039ce70842208401004211042008021088210040108020f842110842f8821),v8 (iu x) "{" t sz (xZ .none (.int 1 tk)) λa=>cB "{" "{" (a 2) (a 1) true λb=>v8 (iu x) z t (b 0) (xZ (.int 1 (b 1)) .none) λc=>QJ z (bv x) cS (c 2) (c 1) (c 1+1) λ_=> .nil⟩ (aV (qB.take 2) (qE L)) fin) (.ok .next,[qF w L G.tg (iu x) t false ⟨QL k (σ 3 1+3),bv x,σ 3 1,cS,σ 3 1+1,σ 3 0+4,"",0,"",0⟩,(σ 3 0+4,ej (IU w))].map some,σ 3 0+5,σ 3 1+5))/\(∀(w:aj)(G:TG)(f:QV)q t L sz tk d σ,Ends [0,1] ((aI w 0 0 none 600).S [] σ ⟨[qF w L G.tg q t true f,(f.sa,ej d)],sz,tk,[1,2,2,2,2,1], .nil⟩ (DP (v5 DQ) "add" (xX DQ) (t8 DQ) (v6 DQ) (qE L)) fin) (.ok (.builtin "set.add",[.ref f.sa, .str f.p f.tp],[], .machine),[qF w L G.tg q t true f,(f.sa,ej d)].map some,sz,tk)):=by and_intros<;>intros<;>kernel_rfl
section
theorem aG6{x r:Str}(l u:Option (Int×ab))(Y:∀(Q:ag->am->Prop)(s:am),(∀J k,Q (.str r J) { s with toks:=k })->(Mp x t l u none).post Q s):Told ao (av w) A U fr aa (bC "str.__getitem__" [.str x t, .ref D]) [(D,xZ (Ca l) (Ca u))] (λe=>⟨.ok (.ret (.str r (e 2))),[(D,xZ (Ca l) (Ca u))],[],e 0,e 1⟩):=by intro un s ak R hu H z Z;refine dJ FY.plain Xj (FY.check _ _ _ _ _ _ _ _ (ib ..) (Xk _ _) (aTi x t D l u none rfl _ _ _ _ s ⟨(⟨_,H.h.at_ _ az,rfl,rfl⟩),Y _ s λJ k=>?_⟩));exact Z (λi=>bif bY i 0 then s.heap.objs.size else bif bY i 1 then k else J) _ rfl rfl rfl (λp J=>absurd J bi) ⟨H.h,H.os,H.gens,H.same⟩ λb o H J=>H
open PySem.Builtin.Str in
theorem aG7{z a b:Str}{v:ab}(Y:(decide (z.length<("}":Str).length)||decide (strKind z< strKind "}"))=false)(J:(occurrencesFromRight z "}" (w6 z 1)).isEmpty=false)(H:partsBetween z (occurrencesFromRight z "}" (w6 z 1)) ("}":Str).length=[a,b])(Z:z.length<=1000):Told ao (av w) A U fr aa (bC "str.rsplit" [.str z t, .str "}" u, .int 1 v]) [] (λe=>⟨.ok (.ret (.ref (e 0))),[],[(e 0,listOf [ag.str a (e 1), .str b (e 1+1)].toArray 0)],e 0+1,e 1+2⟩):=by have g:=meets_str_rsplit_sep_max z "}" 1 t u v rfl Y rfl J (aE Z (by decide)) (H▸dh rfl);replace g:=H▸g;exact DJ (o:=λe=>listOf [ag.str a e, .str b _].toArray 0) PySem.F.slot_str_rsplit PySem.F.entry_str_rsplit (PySem.F.args_str_rsplit_3 ..) g (λs=>ib ..) λj=>rfl
end
section
variable {a ro:List (af×aq)}{t:ca α}{Q:α->am->Prop}
theorem wp_keep(Z:ay True ar ak (a++ro) s)(X1:aK w ar)(NL:ar.NoLimit)(hA:A.handled=none)(dep n:Nat)(ev J:List Nat)(os:aF)(gn:∀aQ,aK w aQ->os.Ok False (av w) A A.units none aQ (a.map (·.1)))(hd:A.depth+dep<=bk)(nd:J.Nodup)(Y:Xs->α)(ents:Xs->List (af×aq))(sz tk:Xs->Nat)(e:∀H,Ends J ((aI w dep 0 none n).S [] H ⟨a,s.heap.objs.size,s.toks,ev,os⟩ t fin) (.ok (Y H),(ents H).map some,sz H,tk H))(h:∀H s',ay True ar ak (ents H++ro) s'->s'.gens=s.gens->sK a s.heap s'.heap->Q (Y H) s'):aG (av w) A t Q E s:=by refine cI (kF Z) λS2 bZ aZ=>?_;have X2:aK w _:=λb o e=>aZ _ _ (X1 b o e);exact wp_run ⟨S2.h,rfl,aUp, .inr ⟨rfl,rfl⟩⟩ X2 hA dep 0 n ev J os (λz=>gn _ X2) (λz=>⟨NL.keeps aZ,hd⟩) (a8 _) nd Y ents sz tk e λH s' J Y Y G=>by have Y:=(J.same.resolve_left id).1;exact h H s' (q6 Z ⟨J.h,J.os.trans Z.os,λz=>Y▸Z.gens True.intro, .inl True.intro⟩) Y G.keep
end
theorem IV{c:bB}{p1 ro:List (af×aq)}{fc:(Nat->Nat)->Out}(bZ:∀p∈ro,ar.get? p.1=some p.2)(jo:∀L,fr=some L->∀p∈ro,p.1≠L)(hn:(ro.map (·.1)).Nodup)(T:Told True (av w) A U fr (gZ ar (ro.map (·.1))) c (p1++ro) out)(ho:∀x,out x=⟨(fc x).res,(fc x).post++ro,(fc x).new,(fc x).sz,(fc x).tk⟩)(hp:∀x,(fc x).post.map (·.1)=p1.map (·.1)):Told True (av w) A U fr ar c p1 fc:=by
 intro u s ak R hu H hL hR;have dj:∀p∈p1,∀q∈ro,p.1≠q.1:=λp hp q J e=>by have:=H.h.off p hp;replace this:=(bZ q J)▸(e▸this);injection this
 refine T u s ak R hu ⟨⟨λp hp=>?_,?_,λb o e=>H.h.keep b o (y6 _ e),λp hp=>?_⟩,H.os,H.gens, .inl True.intro⟩ (λL e=>⟨(hL L e).1,λp hp=>?_⟩) λx s' hz ht hk hf Y hd=>?_
 ·rcases cq.mp hp with hp|hp
  ·exact H.h.at_ p hp
  ·exact H.h.keep _ _ (bZ p hp)
 ·rw[bM,fi];refine⟨H.h.nd,hn,λx hx y hy e=>?_⟩;refine aO (bq.mp hx) λp hp eq3=>?_;subst eq3;refine aO (bq.mp hy) λq J eq4=>?_;subst eq4;exact dj p hp q J e
 ·rcases cq.mp hp with hp|hp
  ·have:=H.h.off p hp;induction z:(gZ ar _).get? p.1 with
   |none=>rfl|some o=>replace this:=(y6 _ z)▸this;injection this
  ·exact y7 _ (b6 hp)
 ·rcases cq.mp hp with hp|hp
  ·exact(hL L e).2 p hp
  ·exact jo L e p hp
 ·rw[ho x]at hz ht hf Y;have Ah:(out x).res=(fc x).res:=by rw[ho x]
  refine rR Ah ?_;have nd:=Y.h.nd;rw[show(fc x).new++_=_++ro from(bH ..).symm,bM,fi]at nd;have Z:∀p∈ro,s'.heap.get? p.1=some p.2:=λp hp=>Y.h.at_ p (bD _ (bD _ hp));refine hR x s' hz ht (hp x) hf ⟨⟨(λp(hp:p∈(fc x).new++(fc x).post)=>Y.h.at_ p (rL (bH ..) (bL _ hp))),nd.1,λb o e=>?_,λp hp=>?_⟩,Y.os,Y.gens, .inl True.intro⟩ λb o e n=>?_
  ·by_cases m:b∈ro.map (·.1)
   ·refine aO (bq.mp m) λq J eq1=>?_;subst eq1;rw[bZ q J]at e;exact dG e▸Z q J
   ·exact Y.h.keep b o (kd _ e m)
  ·have o1:=Y.h.off p (rL (bH ..) (bL _ hp));induction z:ar.get? p.1 with
   |none=>rfl|some o=>
    by_cases m:p.1∈ro.map (·.1);·exact absurd rfl (nd.2.2 _ (b6 hp) _ m)
    ·replace o1:=(kd _ z m)▸o1;injection o1
  ·by_cases m:b∈ro.map (·.1)
   ·refine aO (bq.mp m) λq J eq2=>?_;subst eq2;have:=H.h.keep _ _ (bZ q J);rw[e]at this;exact dG this▸Z q J
   ·refine hd b o e λp hp=>?_;rcases cq.mp hp with hp|hp
    ·exact n p hp
    ·exact λq=>m (q▸b6 hp)
section
theorem QM(a b c d e:α)(l:List α):cF (a::b::c::d::e::l) ([a,d,e]++(b::c::l)):= .cons _ ((lh).trans (.cons _ (lh (l₁:=[b,c]))))
theorem QN(a b x:α)(l m:List α):cF (a::b::(l++x::m)) ([a,x]++(b::(l++m))):= .cons _ (lh (l₁:=b::l))
end
theorem QO{x y:Str}(h:x≠y):(x.cps.toList==y.cps.toList)=false:=beq_false_of_ne λz=>h (by obtain⟨⟨a⟩⟩:=x;obtain⟨⟨b⟩⟩:=y;subst z;rfl)
section
variable {G:TG}{q:Str}{L:Nat}{aX:List ag}{ro R:Led}{d:kZ}{f:QV}{κ:Bool}
theorem aG8(X1:aK w ar)(NL:ar.NoLimit)(hA:A.handled=none)(hd:A.depth< bk)(j:Bool)(SR:ay True ar ak (qF w L G.tg q t κ f::(f.sa,ej d)::(G.p1 w ta aX aP++ro)) s)(dep:Nat)(ls:List LS)(ents:List NE)(jr:∀l∈ls,l.items.length<=1000)(hy:lJ ls.reverse=ents.map hM)(hs:∀p∈nf (bif j then G.ns else G.ds) dep ls,p∈G.p1 w ta aX aP++ro):aG (av w) A (fx (cH j).2.1 (qE L)) (λxv ba=>∃ga l,xv= .ref ga/\l=qF w L G.tg q t κ f::(f.sa,ej d)::(G.p1 w ta aX aP++ro)/\ay True ar ak l ba/\GenAt w A.in1 ar (L::f.sa::(G.p1 w ta aX aP++ro).map (·.1)) (nf (bif j then G.ns else G.ds) dep ls) (ents.map hM) ga ba) E s:=by
 rw[aGx,QG];refine au (dq (bj SR (QM ..)) X1 NL hA 0 600 _ .nil (λv v v v v=>True.intro) (cR hd) _ _ _ _ (λσ=>aG4 ..) λv Z S2 v v v=>?_);have J:=bj S2 (QM ..).symm;simp only[aG5];refine au (Calls.wpAny_keep (wpAny_call (aD3 hd (λb o e=>J.h.keep _ _ (X1 b o e)) (NL.keeps J.h.keep) λh' tQ ga oC t1 t2 hk vK hC bp ng=>au (fV (Xy (aH ?_))))));have lo:∀p∈qF w L G.tg q t κ f::_::(G.p1 w ta aX aP++ro),p.1< Z.heap.objs.size:=λp H=>dH (J.h.at_ p H);have Y:∀b,Z.heap.objs.size<=b->ar.get? b=none/\b ∉ L::f.sa::(G.p1 w ta aX aP++ro).map (·.1):=λb hb=>by
  refine⟨?_,λhm=>?_⟩
  ·induction z:ar.get? b with
   |none=>rfl|some o=>exact absurd (dH (J.h.keep _ _ z)) (dw.mpr hb)
  ·refine aO (bq.mp (show b∈(qF w L G.tg q t κ f::(f.sa,ej d)::_).map (·.1)from hm)) λp H eq1=>?_;subst eq1;exact absurd (lo p H) (dw.mpr hb)
 refine⟨ga,_,rfl,rfl,⟨⟨λp H=>hk _ _ (J.h.at_ p H),J.h.nd,λb o e=>hk _ _ (J.h.keep b o e),J.h.off⟩,J.os,λv=>aD7 (J.gens True.intro) rfl, .inl True.intro⟩,Z.heap.objs.size,Z.gens.size,_,[(Z.heap.objs.size,oC)],t1,t2,Array.getElem?_push_size,hy▸aDu rfl hA jr (λp H=>lo p (aB (aB (hs p H)))) (a8 _) ng rfl rfl,λp H=>?_,vK,λp H=>?_,Y _ (cR bp)⟩;·exact rR (bI.mp H) hC
 ·exact rR (bI.mp H) ⟨(Y _ (a8 _)).1,(Y _ (a8 _)).2,du bp⟩
theorem aG9(X1:aK w ar)(Y:ar.NoLimit)(hA:A.handled=none)(hd:A.depth< bk)(j:Bool){Q:Unit->am->Prop}{e:NE}(J:(e.t,fA e)∈R)(Z:ay True ar ak (qF w L G.tg q t κ f::(f.sa,ej d)::R) s)(h:∀k' s',ay True ar ak (qF w L G.tg q t true { f with k:=k',u:=e.u,tu:=e.tu,p:=e.p,tp:=e.tp }::(f.sa,ej d)::R) s'->s'.gens=s.gens->KK (L::f.sa::R.map (·.1)) s.heap s'.heap->Q () s'):aG (av w) A (pD (cH j).1 (qE L) (hM e)) Q E s:=by
 refine vg (Gi J) λl m H=>?_;subst H;refine wp_keep (bj Z (QN ..)) X1 Y hA 0 600 _ [3,4] .nil (λv v=>True.intro) (cR hd) (by decide) _ _ _ _ (λH=>aGy ..) λv s' Z H Y=>h _ s' (bj Z (QN ..).symm) H λb o Z H=>Y b o Z λp hp z=>H ?_;rcases a9.mp hp with rfl|hp
 ·exact rL z az
 ·rw[bI.mp hp]at z;exact rL z (aB (aB (b6 J)))
theorem aHa(Z:aK w ar)(H:ar.NoLimit)(Y:A.handled=none)(hd:A.depth< bk)(j:Bool)(hu:f.u≠f.U)(J:ay True ar ak (qF w L G.tg q t true f::R) s)(h:∀s',ay True ar ak (qF w L G.tg q t true f::R) s'->s'.gens=s.gens->KK (L::R.map (·.1)) s.heap s'.heap->Q .next s'):aG (av w) A (aV ((cH j).2.2.1.take 1) (qE L)) Q E s:=wp_keep J Z H Y 0 600 _ [0] (cB f.u f.U f.tu f.tU false λv=> .nil) (λv v=>dB (QO hu) λv v=>True.intro) (cR hd) (by decide) _ _ _ _ (λH=>aGz ..) λv s' Y H J=>h s' Y H λb o Y H=>J b o Y λp J z=>H (by rw[bI.mp J]at z;exact rL z az)
theorem aHb(X1:aK w ar)(NL:ar.NoLimit)(hA:A.handled=none)(hd:A.depth< bk){S:Str->Bool}(oH:(ej d).SetObjOf (strKind Rw.prog w) S n)(hn:n+1< Ya)(SR:ay True ar ak (qF w L G.tg q t true f::(f.sa,ej d)::R) s)(h:∀Z J s',(ej Z).SetObjOf (strKind Rw.prog w) (λk=>S k||decide (k=f.p)) J->J<=n+1->ay True ar ak (qF w L G.tg q t true f::(f.sa,ej Z)::R) s'->s'.gens=s.gens->KK (L::f.sa::R.map (·.1)) s.heap s'.heap->Q .next s'):aG (av w) A (aV ((cH false).2.2.1.drop 1) (qE L)) Q E s:=by
 refine mV (wpAny_Expr ?_);refine rR (QG ..) (au (wp_keep SR X1 NL hA 0 600 _ [0,1] .nil (λj j=>True.intro) (cR hd) (by decide) _ _ _ _ (λJ=>AI.2.2.2.2 ..) λj J S1 hg hk=>?_));refine au (call_set_add (mh ..) rfl (oH.setOf (S1.h.at_ _ (aB az)) (Nat.lt_of_succ_lt hn)) hn λh' gr J=>au (fV (Xy (aH (qC ?_)))));refine hO λZ aY=>aO J.objOf λz1 lF Y=>?_;obtain⟨c,J,dt,sl⟩:=z1;refine d7 (id Y) λz2 v=>?_;obtain⟨rfl,rfl,rfl⟩:=z2;refine aY ?_;have H:=q7 (pre:=[qF w L G.tg q t true f]) S1 lF gr.extBut;refine h dt _ _ Y (by split<;>first|exact aUw _|exact a8 _) ⟨H.h,H.os,H.gens,H.same⟩ hg λb o J H=>?_;refine(gr.2 b λz=>H (z▸aB az)).trans (hk b o J λp hp z=>H ?_);rcases a9.mp hp with rfl|hp
 ·exact rL z az
 ·rw[bI.mp hp]at z;exact rL z (aB az)
end
def TG.ro(G:TG):List (af×aq):=(G.cT.map λl=>(l.a,listOf l.items.toArray l.ep))++((G.ents.map λe=>(e.t,fA e))++((G.aL.map λl=>(l.a,listOf l.items.toArray l.ep))++G.nh.map λe=>(e.t,fA e)))
variable {ro:List (af×aq)}
abbrev oJ(G:TG)(x:Str)(t:ab):Code:=nc (.call (.ref 90) ⟨[.ref G.tg, .str x t],[]⟩)
abbrev oK(x y z:Str)(e:Nat->Nat):af×Obj:=(e 2,tR x y z (e 3) (e 4) (e 5))
abbrev DW(x:Nat)(e:Nat->Nat):af×Obj:=(e 6,⟨.type "tuple",none, .seq #[.str (bv x) (e 7), .str ⟨#[x]⟩ (e 8)] 0,#[]⟩)
theorem aHc(j:Bool):(cH j).1= .Tuple (eE (cH j).1) (eK (cH j).1) (cH j).1.pos:=by induction j<;>kernel_rfl
theorem aHd(L:Nat)(j:Bool)(x:ag):MD (cH j).2.1 (qE L) x=pure x:=by induction j<;>kernel_rfl
section
variable {G:TG}{q:Str}{L:Nat}{aX:List ag}{Z:Led}{d:kZ}{f:QV}{κ:Bool}
theorem QP(X1:aK w ar)(NL:ar.NoLimit)(hA:A.handled=none)(hd:A.depth< bk)(j:Bool)(ents:List NE)(dep:Nat)(ls:List LS)(P:List NE->kZ->Prop){ro:Led}(hZ:Z=G.p1 w ta aX aP++ro)(jr:∀l∈ls,l.items.length<=1000)(hy:lJ ls.reverse=ents.map hM)(hs:∀p∈nf (bif j then G.ns else G.ds) dep ls,p∈Z)(hm:∀e∈ents,(e.t,fA e)∈Z)(h0:P [] d)(SR:ay True ar ak (qF w L G.tg q t κ f::(f.sa,ej d)::Z) s)(skip:∀(E:ag->am->Prop)(R:am->Prop)(J:List NE)(e:NE)(k:Nat->ab)(H:kZ)(s':am),J.length< ents.length->P J H->ay True ar ak (qF w L G.tg q t true { f with k:=k,u:=e.u,tu:=e.tu,p:=e.p,tp:=e.tp }::(f.sa,ej H)::Z) s'->(∀d2 Y,P (J++[e]) d2->ay True ar ak (qF w L G.tg q t true { f with k:=k,u:=e.u,tu:=e.tu,p:=e.p,tp:=e.tp }::(f.sa,ej d2)::Z) Y->Y.gens=s'.gens->KK (L::f.sa::Z.map (·.1)) s'.heap Y.heap->R Y)->aG (av w) A (aV ((cH j).2.2.1.drop 1) (qE L)) (ME Q R) E s')(hit:∀(E:ag->am->Prop)(R:am->Prop)(J:List NE)(e:NE)(r:List NE)(k:Nat->ab)(H:kZ)(s':am),ents=J++e::r->e.u=f.U->P J H->ay True ar ak (qF w L G.tg q t true { f with k:=k,u:=e.u,tu:=e.tu,p:=e.p,tp:=e.tp }::(f.sa,ej H)::Z) s'->aG (av w) A (aV (cH j).2.2.1 (qE L)) (ME Q R) E s')(vI:(∀e∈ents,e.u≠f.U)->∀κ k u tu p tp H s',P ents H->ay True ar ak (qF w L G.tg q t κ { f with k:=k,u:=u,tu:=tu,p:=p,tp:=tp }::(f.sa,ej H)::Z) s'->Q .next s'):aG (av w) A (exec (.For (cH j).1 (cH j).2.1 (cH j).2.2.1 [] (cH j).2.2.2) (qE L)) Q E s:=by
 refine aD9 (ak:=ak) f.U ents (λJ l=>∃κ k u tu p tp H,P J H/\l=qF w L G.tg q t κ { f with k:=k,u:=u,tu:=tu,p:=p,tp:=tp }::(f.sa,ej H)::Z) (L::f.sa::Z.map (·.1)) (nf (bif j then G.ns else G.ds) dep ls) hA NL hd ?_ ?_ (aHd L j) (aHc j) ?_ ?_ ?_;·rintro m m ⟨κ,k,u,tu,p,tp,H,m,rfl⟩;rfl
 ·rintro m m ⟨κ,k,u,tu,p,tp,H,m,rfl⟩ p hp;exact aB (aB (hs p hp))
 ·subst hZ;refine pz (aG8 X1 NL hA hd j SR dep ls ents jr hy hs) (λxv s1 h=>?_) λv v z=>z;exact Gw h λga l a b c d=>⟨ga,l,a,⟨κ,f.k,f.u,f.tu,f.p,f.tp,_,h0,b⟩,c,d⟩
 ·rintro hn m s' ⟨κ,k,u,tu,p,tp,H,hP,rfl⟩ S';exact vI hn κ k u tu p tp H s' hP S'
 ·rintro E J e r m s' R he hdn ⟨κ,k,u,tu,p,tp,H,hP,rfl⟩ S1 hR;refine aG9 X1 NL hA hd j (hm e (he▸bD _ az)) S1 λk2 Y S2 g2 k2h=>?_;by_cases hu:e.u=f.U;·exact hit E R J e r k2 H Y he hu hP S2
  ·refine rL (aUx 1 (cH j).2.2.1) (da (aHa X1 NL hA hd j hu S2 λs3 Y g3 k3h=>?_));refine skip E R J e k2 H s3 (rR he (rR bQ (aUy (BW _)))) hP Y λY H J S4 g4 k4h=>hR hu _ H ⟨true,_,_,_,_,_,Y,J,rfl⟩ S4 (g4.trans (g3.trans g2)) λb o J H=>k4h b o (k3h b o (k2h b o J H) H) H
end
section
variable {next:aM}
theorem IW{x r:Str}(l u:Option (Int×ab))(H:∀(Q:ag->am->Prop)(s:am),(∀J k,Q (.str r J) { s with toks:=k })->(Mp x t l u none).post Q s)(k:bJ next ao w A U fr aa):(v8 x r t D (xZ (Ca l) (Ca u)) next).Ok ao (av w) A U fr aa lv:=⟨rfl,ci.mpr ⟨bi,bN⟩,λJ z z=>aG6 l u H,λx z z=>k x _⟩
theorem QQ{J:af}{d:kZ}{S:Str->Bool}(H:(ej d).SetObjOf (strKind Rw.prog w) S n)(Y:n< Ya){p:Str}{b:Bool}(e:S p=b)(k:bJ next ao w A U fr aa):(AH J d p t b next).Ok ao (av w) A U fr aa lv:=⟨rfl,ci.mpr ⟨bi,bN⟩,λJ z z=>e▸aF8 H Y p t,λx z z=>k x _⟩
end
theorem IX(x:Str):(x.cps.toList==x.cps.toList)=true:=beq_self_eq_true _
theorem aHe{H:List NE}{e:NE}:(λk=>(H.any λx=>x.p==k)||decide (k=e.p))=λk=>(H++[e]).any λx=>x.p==k:=by
 funext k;simp only[aUz];congr 1;show decide _=(e.p==k||false)
 rw[aU0];by_cases h:k=e.p;·rw[h];rfl
 ·rw[decide_eq_false h];exact(beq_false_of_ne λz=>h z.symm).symm
section
variable {G:TG}{aX:List ag}
theorem TG.aHf:∀p∈nf G.ds G.dep (G.cT++[⟨ta,aP,aX⟩]),p∈G.p1 w ta aX aP++G.ro:=λp hp=>by
 unfold nf at hp;replace hp:=bM▸(bM▸hp)
 rcases a9.mp hp with rfl|hp
 ·exact aB (aB (aB az))
 rcases cq.mp hp with hp|hp
 ·exact bD _ (bL _ hp)
 ·exact rR (bI.mp hp) az
theorem TG.aHg:∀p∈nf G.ns G.ei G.aL,p∈G.p1 w ta aX aP++G.ro:=λp hp=>by
 rcases a9.mp hp with rfl|hp
 ·exact aB (aB (aB (aB az)))
 ·exact bD _ (bD _ (bD _ (bL _ hp)))
theorem TG.en1:∀e∈G.ents,(e.t,fA e)∈G.p1 w ta aX aP++G.ro:=λe H=>bD _ (bD _ (bL _ (b6 H)))
theorem TG.en2:∀e∈G.nh,(e.t,fA e)∈G.p1 w ta aX aP++G.ro:=λe H=>bD _ (bD _ (bD _ (bD _ (b6 H))))
end
def QR(w:aj)(H:List NE)(d:kZ):Prop:=∃n,(ej d).SetObjOf (strKind Rw.prog w) (λk=>H.any λx=>x.p==k) n/\n<=H.length
section
variable {G:TG}{q:Str}{L:Nat}{aX:List ag}{d:kZ}{f:QV}{κ:Bool}
theorem IY(h:n<=1001):n< scanBound:=iH h (by decide)
theorem QS(X1:aK w ar)(Z:ar.NoLimit)(hA:A.handled=none)(hd:A.depth< bk)(g:G.Ok ta aX)(SR:ay True ar ak (qF w L G.tg q t κ f::(f.sa,ej (IU w))::(G.p1 w ta aX aP++G.ro)) s)(J:∀(E:ag->am->Prop)(R:am->Prop)(Y:List NE)(e:NE)(r:List NE)(k:Nat->ab)(H:kZ)(s':am),G.ents=Y++e::r->e.u=f.U->QR w Y H->ay True ar ak (qF w L G.tg q t true { f with k:=k,u:=e.u,tu:=e.tu,p:=e.p,tp:=e.tp }::(f.sa,ej H)::(G.p1 w ta aX aP++G.ro)) s'->aG (av w) A (aV (cH false).2.2.1 (qE L)) (ME Q R) E s')(vI:(∀e∈G.ents,e.u≠f.U)->∀κ k u tu p tp H s',QR w G.ents H->ay True ar ak (qF w L G.tg q t κ { f with k:=k,u:=u,tu:=tu,p:=p,tp:=tp }::(f.sa,ej H)::(G.p1 w ta aX aP++G.ro)) s'->Q .next s'):aG (av w) A (exec (.For (cH false).1 (cH false).2.1 (cH false).2.2.1 [] (cH false).2.2.2) (qE L)) Q E s:=by
 refine QP X1 Z hA hd false G.ents G.dep _ _ rfl (λl hl=>?_) (aEc.trans g.hy) TG.aHf TG.en1 ⟨0,setObjOf_fresh _,a8 _⟩ SR ?_ J vI
 ·rcases cq.mp hl with hl|hl
  ·exact g.jr l hl
  ·exact rR (bI.mp hl) g.hz
 ·rintro E R Y e k H s' hl ⟨n,oH,hn⟩ S hR;refine aHb X1 Z hA hd oH (IY (sj (aE hn (aE (cR hl) g.jR)))) S λd' H Z Y rm S2 J k2=>hR d' Z ⟨H,aHe▸Y,?_⟩ S2 J k2;exact rR bQ (aE rm (sj hn))
end
theorem QT(a b c:α)(l:List α):cF (a::b::c::l) ((a::l)++[b,c]):= .cons _ (jL (l₁:=[b,c]))
theorem IZ(a b:α)(l m:List α):cF (a::b::(l++m)) ((a::l)++(b::m)):= .cons _ lh.symm
theorem aHh(a b c d:α)(l m:List α):cF (a::b::c::(l++(d::m))) ((a::b::(l++m))++[c,d]):= .cons _ (.cons _ ((zg _ lh).trans (jL (l₁:=[c,d]))))
structure QA(w:aj)(A:aD)(aa:aw):Prop where
 X:aK w aa
 N:aa.NoLimit
 a:A.handled=none
 d:A.depth+2<=bk
section
variable {G:TG}{x:Nat}{aX:List ag}
theorem QU(H:QA w A aa){q:Str}(J:∀x,(out x).post.map (·.1)=(G.p1 w ta aX aP++G.ro).map (·.1))(hB:∀(A:aD)(L tk:Nat)(s ak:am)(Q:dk->am->Prop)(E:ag->am->Prop)(ar:aw),A.handled=none->A.depth< bk->aK w ar->ar.NoLimit->ay True ar ak ([DR w L G.tg tk q t]++(G.p1 w ta aX aP++G.ro)) s->(∀x v s',(out x).res= .ok (.ret v)->s'.heap.objs.size=(out x).sz->s'.toks=(out x).tk->ay True ar ak ((out x).new++(out x).post) s'->Q (.ret v) s')->aG (av w) A (aV qB (qE L)) Q E s):Told True (av w) A U fr aa (oJ G q t) (G.p1 w ta aX aP++G.ro) out:=by refine Dh (body:=qB) H.X H.N H.a H.d (q_F w) rfl rfl (by kernel_rfl) (by kernel_rfl) [("self", .ref G.tg),_,_] [0] (λL tk Y=>AI.1 ..) qE _ 1 3 [1,1,1,1,1,1] (λL tk Y=>AI.2.1 ..) J ?_;intro kG L tk s ak Q E ar iV J z z X1 Z Y z z dm;exact hB kG L tk s ak Q E ar iV (J▸H.d) X1 Z Y λx v s' Y J H S=>dm x _ s' Y J H S
theorem aHi(H:QA w A aa)(g:G.Ok ta aX)(y:Nat)(hy:y≠123):Told True (av w) A U fr aa (oJ G ⟨#[y]⟩ t) (G.p1 w ta aX aP++G.ro) (λe=>⟨.ok (.ret (.ref (e 2))),G.p1 w ta aX aP++G.ro,[oK ⟨#[y]⟩ ⟨#[y]⟩ "" e],e 0,e 1⟩):=by
 refine QU H (λj=>rfl) ?_;intro A L tk s ak Q E ar Z H X1 Y SR dm;refine rR QI (da ?_);refine fN SR X1 Y Z 0 600 _ [6,0] (v8 ⟨#[y]⟩ ⟨#[y]⟩ t s.heap.objs.size _ λa=>cB ⟨#[y]⟩ "{" (a 2) (a 1) false λj=> .nil) (λj j j j j=>IW none (some (1,s.toks)) (λQ s h=>h t s.toks) λa j=>dB (QO λz=>hy ?_) λj j=>True.intro) (cR H) (by decide) _ _ _ _ (λJ=>AI.2.2.1 ..) λJ s1 S1 j j j=>?_
 ·have:=congrArg (λs:Str=>s.cps.toList) z;exact List.head_eq_of_cons_eq this
 refine mV (QS X1 Y Z H g S1 (λE R dn e r k dd s2 he hu j j=>absurd hu (g.ra e (he▸bD _ az))) λj κ k u tu p tp dd s2 hP S2=>?_);refine aO hP λn oH hn=>da (dq S2 X1 Y Z 0 600 _ (AH _ dd "" _ false λj=> .nil) (λj j j j j=>QQ oH (IY (aE hn (aE g.jR (by decide)))) g.oz λj j=>True.intro) (cR H) _ _ _ _ (λτ=>aG2 w G κ ⟨k,"",J 1 1,⟨#[y]⟩,t,J 1 0+4,u,tu,p,tp⟩ _ t y L _ _ ta aP aX dd τ ⟨rfl,rfl⟩) λτ H Y Z Z j=>?_);exact dm (λi=>match i with|0=>H.heap.objs.size|1=>H.toks|2=>τ 0 0|3=>t|4=>t|_=>J 1 1) _ H rfl rfl rfl (qb (bj Y (QT ..)))
theorem QX(H:QA w A aa)(g:G.Ok ta aX)(gx:G.Tag x)(jj:∀x,(out x).post.map (·.1)=(G.p1 w ta aX aP++G.ro).map (·.1))(old:(∃e∈G.ents,e.u=bv x)->∀a b c d e f,∃y,out y=⟨.ok (.ret (.ref a)),G.p1 w ta aX aP++G.ro,[(a,tR (iv x) cS (bv x) b c d)],e,f⟩)(new:(∀e∈G.ents,e.u≠bv x)->∀a b c d e f i j k,∃y,out y=⟨.ok (.ret (.ref a)),G.p1 w ta (aX++[.ref i]) (aP+1)++G.ro,[(a,tR (iv x) cS (bv x) b c d),(i,⟨.type "tuple",none, .seq #[.str (bv x) j, .str ⟨#[x]⟩ k] 0,#[]⟩)],e,f⟩):Told True (av w) A U fr aa (oJ G (iu x) t) (G.p1 w ta aX aP++G.ro) out:=by
 refine QU H jj ?_;intro A L tk s ak Q E ar hA hd X1 NL SR dm;refine rR QI (da ?_);obtain⟨z,hz⟩:∃z:Str,z=⟨#[117,114,110,58,x,125,99]⟩:=⟨_,rfl⟩
 have hx:=gx.hx;refine fN SR X1 NL hA 0 600 _ [7,0] (v8 (iu x) "{" t s.heap.objs.size _ λa=>cB "{" "{" (a 2) (a 1) true λb=>v8 _ z t (b 0) _ λc=>QJ z _ cS (c 2) (c 1) _ λv=> .nil)
  (λv v v v v=>IW none (some (1,s.toks)) (λQ s h=>⟨by show 1<=gz;decide,h s.toks _⟩) λa v=>dB (IX _) λb v=>IW (some (1,b 1)) none (λQ s h=>rR (show Mp _ t _ none none= .str ⟨#[117,114,110,58,x,125,99]⟩ by kernel_rfl) (rL hz ⟨by rw[hz];show 7<=gz;decide,h s.toks _⟩)) λc v=>⟨rfl,bN,λA' v v=>?_,λv v v=>True.intro⟩) (cR hd) (by decide) _ _ _ _ (λJ=>AI.2.2.2.1 ..) λJ H S1 v v v=>?_
 ·subst hz;unfold dR at hx;simp only[a9,bi,or_false]at hx;rcases hx with rfl|rfl|rfl|rfl|rfl|rfl<;>exact aG7 (by decide+kernel) (by decide+kernel) (by decide+kernel) (by decide+kernel)
 refine mV (QS X1 NL hA hd g S1 (λE R dn e r k dd s2 he hu H S2=>?_) λDw κ k u tu p tp dd s2 H S2=>?_)
 ·have hm:=he▸bD _ az;refine aO H λn oH hn=>?_;have H:(dn.any λx=>x.p==e.p)=false:=by have mE:=g.mE;simp only[he,bM,iJ]at mE;rw[List.any_eq_false];intro y hy' z;exact(fi.mp mE).2.2 y.p (b6 hy') e.p az (by simpa using z)
  have hp:=gx.ni e hm hu;refine dq S2 X1 NL hA 0 600 _ (cB e.u _ e.tu _ true λv=>AH (J 3 0+4) dd e.p e.tp false λv=> .nil) (λv v v v v=>dB (hu▸IX _) λv v=>QQ oH (IY (aE hn (aE (aE (by exact rR he (rR bQ (fF _ _))) g.jR) (by decide)))) H λv v=>True.intro) (cR hd) _ _ _ _ (λZ=>aG0 w G ⟨k,bv x,J 3 1,cS,J 3 1+1,J 3 0+4,e.u,e.tu,e.p,e.tp⟩ _ t x L _ _ dd Z ⟨rfl,rfl,hp⟩) λZ s3 S3 H H v=>?_;obtain⟨y,Y⟩:=old ⟨e,hm,hu⟩ _ _ (J 3 1+1) (J 3 1) s3.heap.objs.size s3.toks;exact dm y _ s3 (rR Y rfl) (rR Y rfl) (rR Y rfl) (rR Y (qb (bj S3 (QT ..))))
 refine da (dq (bj S2 (IZ ..)) X1 NL hA 0 600 _ .nil (λv v v v v=>True.intro) (cR hd) _ _ _ _ (λZ=>aG3 w G κ ⟨k,bv x,J 3 1,cS,J 3 1+1,J 3 0+4,u,tu,p,tp⟩ _ t x L _ _ ta aP aX Z rfl) λZ s3 S3 v v v=>?_);refine mV (QP X1 NL hA hd true G.nh G.ei G.aL (λv v=>True) rfl g.rf g.rb TG.aHg TG.en2 True.intro (bj S3 (IZ ..).symm) (λE R dn e k d2 s4 v v H hR=>?_) (λE R dn e r k2 d2 s4 he hu v H=>?_) λaHk=>?_);·exact qC (hR d2 s4 True.intro H rfl λv v e v=>e)
 ·have hp:=gx.fW e (he▸bD _ az) hu;refine dq (bj H (IZ ..)) X1 NL hA 0 600 _ (cB e.u _ e.tu _ true λa=>QK G.ds _ _ G.dep _ λb=>rk 2 ta aX aP _ λv=> .nil)
   (λv v v v v=>dB (hu▸IX _) λa v=>⟨rfl,ci.mpr ⟨bi,bN⟩,λA' v v=>AG _ _ _ _ _,λb v v=>v7 g.hz λv v=>True.intro⟩) (cR hd) _ _ _ _ (λZ=>aG1 w G ⟨k2,bv x,J 3 1,cS,J 3 1+1,J 3 0+4,e.u,e.tu,e.p,e.tp⟩ _ t x L _ _ ta aP aX Z ⟨rfl,rfl,hp⟩) λZ s5 S5 H H v=>?_;obtain⟨y,Y⟩:=new Dw _ _ (J 3 1+1) (J 3 1) s5.heap.objs.size s5.toks _ (J 3 1) e.tp;exact dm y _ s5 (rR Y rfl) (rR Y rfl) (rR Y rfl) (rR Y (qb (bj S5 (aHh _ _ _ _ _ G.ro))))
 ·exact aO gx.hex λe he hu=>absurd hu (aHk e he)
end
section
variable {k:KX}{G:TG}{x:Nat}{aX:List ag}
structure ua(k:KX)(ar:aw)(G:TG):Prop where
 st:∀b o,k.aa.get? b=some o->ar.get? b=some o
 ro:∀p∈G.ro,ar.get? p.1=some p.2/\p.1≠k.L/\k.aa.get? p.1=none
 nd:(G.ro.map (·.1)).Nodup
 L:k.aa.objs.size<=k.L
 n:k.dp+6< bk
theorem ua.qa(J:k.Ok w)(r:ua k ar G):QA w k.bE (gZ ar (G.ro.map (·.1))):=by
 have Y:∀b o,k.aa.get? b=some o->(gZ ar (G.ro.map (·.1))).get? b=some o:=λb o e=>kd _ (r.st b o e) λhm=>by refine aO (bq.mp hm) λp Z H=>?_;subst H;replace e:=((r.ro p Z).2.2)▸e;injection e
 exact⟨λb o e=>Y b o (J.X b o e),J.T.nolimit.keeps Y,rfl,aE (yW (by decide:2<=6) _) (cR r.n)⟩
theorem x9(J:k.Ok w)(r:ua k ar G)(H:U+240< dP)(g:G.Ok ta aX)(y:Nat)(Y:y≠123):Told True (av w) k.bE U (some k.L) ar (oJ G ⟨#[y]⟩ t) (G.p1 w ta aX aP) (λe=>⟨.ok (.ret (.ref (e 2))),G.p1 w ta aX aP,[oK ⟨#[y]⟩ ⟨#[y]⟩ "" e],e 0,e 1⟩):=IV (λp H=>(r.ro p H).1) (λL e p H=>dG e▸(r.ro p H).2.1) r.nd (aHi (r.qa J) g y Y) (λz=>rfl) λz=>rfl
theorem QY(Y:k.Ok w)(r:ua k ar G)(H:U+240< dP)(g:G.Ok ta aX)(Z:G.Tag x)(J:∃e∈G.ents,e.u=bv x):Told True (av w) k.bE U (some k.L) ar (oJ G (iu x) t) (G.p1 w ta aX aP) (λe=>⟨.ok (.ret (.ref (e 2))),G.p1 w ta aX aP,[oK (iv x) cS (bv x) e],e 0,e 1⟩):=IV (λp H=>(r.ro p H).1) (λL e p H=>dG e▸(r.ro p H).2.1) r.nd (QX (r.qa Y) g Z (λz=>rfl) (λz a b c d e f=>⟨λi=>match i with|0=>e|1=>f|2=>a|3=>b|4=>c|_=>d,rfl⟩) λY=>absurd J λ⟨e,J,H⟩=>Y e J H) (λz=>rfl) λz=>rfl
theorem aHl(Y:k.Ok w)(r:ua k ar G)(H:U+240< dP)(g:G.Ok ta aX)(Z:G.Tag x)(J:∀e∈G.ents,e.u≠bv x):Told True (av w) k.bE U (some k.L) ar (oJ G (iu x) t) (G.p1 w ta aX aP) (λe=>⟨.ok (.ret (.ref (e 2))),G.p1 w ta (aX++[.ref (e 6)]) (aP+1),[oK (iv x) cS (bv x) e,DW x e],e 0,e 1⟩):=IV (λp H=>(r.ro p H).1) (λL e p H=>dG e▸(r.ro p H).2.1) r.nd (QX (r.qa Y) g Z (λz=>rfl) (λh=>absurd h λ⟨e,Y,H⟩=>J e Y H) λz a b c d e f i j k=>⟨λn=>match n with|0=>e|1=>f|2=>a|3=>b|4=>c|5=>d|6=>i|7=>j|_=>k,rfl⟩) (λz=>rfl) λz=>rfl
end
abbrev gW(G:TG)(wm:Nat):TG:=nc ({ G with wr:= .ref wm })
abbrev QZ(w:aj)(G:TG)(a:AT)(S:SX)(ta aP:Nat):List (af×aq):=(gW G S.wm).p1 w ta [] aP++[(a.at_,cD w a.es a.ep),(S.wm,fX S.wl),(S.wl,listOf S.wv.toArray S.we),(G.ps,listOf (S.cv++[dX false]).toArray S.dC)]
abbrev I4(w:aj)(G:TG)(a:AT)(ta:Nat)(tag:Str)(t:ab)(L tk J H:Nat):List (af×aq):=[(L+1+1,nj none),(L+1,nj (some (.ref G.tg))),(L,tW w a.at_ ta tag t tk [⟨aS w.params "qnames", .str "qnames" H, .ref J⟩] 5)]
abbrev AJ(i:Nat)(w:aj)(G:TG)(ta aP:Nat)(y:Nat)(t:ab)(next:aM):aF:= .cons none (oJ G ⟨#[y]⟩ t) [i,i+1,i+2,i+3,i+4] (G.p1 w ta [] aP) (λe=>⟨.ok (.ret (.ref (e 2))),G.p1 w ta [] aP,[oK ⟨#[y]⟩ ⟨#[y]⟩ "" e],e 0,e 1⟩) next
abbrev qoO(i:Nat)(w:aj)(G:TG)(ta aP:Nat)(x:Nat)(t:ab)(next:aM):aF:= .cons none (oJ G (iu x) t) [i,i+1,i+2,i+3,i+4] (G.p1 w ta [] aP) (λe=>⟨.ok (.ret (.ref (e 2))),G.p1 w ta [] aP,[oK (iv x) cS (bv x) e],e 0,e 1⟩) next
abbrev qnO(i:Nat)(w:aj)(G:TG)(ta aP:Nat)(x:Nat)(t:ab)(next:aM):aF:= .cons none (oJ G (iu x) t) [i,i+1,i+2,i+3,i+4] (G.p1 w ta [] aP) (λe=>⟨.ok (.ret (.ref (e 2))),G.p1 w ta ([]++[.ref (e 6)]) (aP+1),[oK (iv x) cS (bv x) e,DW x e],e 0,e 1⟩) next
def evW(w:aj)(a b:List Nat):List Nat:=nc (match w.params.followText "comprehension-iter-twice" with
 |true=>a|false=>b)
structure SQ where
 L:Nat
 tk:Nat
 S0:Nat
 kq:Nat
 R:Nat
 k1:Nat
 k2:Nat
 PD:Nat
 k3:Nat
 AL:Nat
 k4:Nat
 cm:Nat
noncomputable abbrev SQ.es(q:SQ)(w:aj):List DictEntry:=[⟨aS w.params "qnames", .str "qnames" q.kq, .ref q.S0⟩,⟨aS w.params "resolved_names", .str "resolved_names" q.k1, .ref q.R⟩,⟨aS w.params "qattrs", .str "qattrs" q.k2, .none⟩,⟨aS w.params "parsed_qnames", .str "parsed_qnames" q.k3, .ref q.PD⟩,⟨aS w.params "attr_list", .str "attr_list" q.k4, .ref q.AL⟩]
abbrev SQ.aJ(q:SQ)(w:aj)(G:TG)(a:AT)(ta:Nat)(tag:Str)(t:ab):List (af×aq):=[(q.L+1+1,nj (some (.ref q.cm))),(q.L+1,nj (some (.ref G.tg))),(q.L,tW w a.at_ ta tag t q.tk (q.es w) 9)]
abbrev aHm(w:aj)(G:TG)(a:AT)(S:SX)(ta:Nat)(aX:List ag)(aP:Nat):List (af×aq):=(gW G S.wm).p1 w ta aX aP++[(a.at_,cD w a.es a.ep),(S.wm,fX S.wl),(S.wl,listOf S.wv.toArray S.we),(G.ps,listOf (S.cv++[dX false]).toArray S.dC)]
abbrev SQ.led(q:SQ)(w:aj)(G:TG)(a:AT)(S:SX)(ta:Nat)(aX:List ag)(aP:Nat)(tag:Str)(t:ab)(H:List DE)(pe:Nat)(Z:List ag)(Y:Nat)(J tb:List (af×aq)):List (af×aq):=(q.PD,cD w H pe)::(J++((q.AL,aA Z Y)::(tb++(aHm w G a S ta aX aP++q.aJ w G a ta tag t))))
section
open PySem PySem.W PySem.W.X PyProof.Rows PySem.Calls
set_option maxHeartbeats 4000000
section
theorem aHn{K:uL}{e1 e2:cY}{Y:d5}{Q:ag->am->Prop}{x:Str}{tx:ab}{d:af}{J:List (Str×ag)}(X:K.In s.heap)(hc:kdsCode K env.code=true)(hp:kdsPlain e1=true)(hh:A.handled=none)(d9:s.heap.DictAt (lm prog w) d J ep)(vP:(d==ic)=false)(hl:J.length=5)(v1:∀(s':am)(H:ag->am->Prop),(∀b o,s.heap.get? b=some o->s'.heap.get? b=some o)->H (.str x tx) s'->aG (aR prog w) A (fx e1 env) H E s')(v2:∀(s':am)(H:ag->am->Prop),(∀b o,s.heap.get? b=some o->s'.heap.get? b=some o)->H (.ref d) s'->aG (aR prog w) A (fx e2 env) H E s')(h:∀h' tk o,(∀b H,s.heap.get? b=some H->h'.get? b=some H)->h'.get? s.heap.objs.size=some o->f7 w ((J.map (·.1)).foldl gM [x]) o->Q (.ref s.heap.objs.size) { s with heap:=h',toks:=tk }):aG (aR prog w) A (fx (.Set [e1, .Starred e2 Y] 0 pos) env) Q E s:=by
 have Z:w7 [e1, .Starred e2 Y] env=[(false,fx e1 env),(true,fx e2 env)]:=by cases e1<;>first|rfl|exact absurd hp (by trivial)
 refine au (pC ?_);refine au (kds_main X hc λb=>?_);simp only[Z];refine au (wpAny_newSet_of (knd:=lm prog w) λled z=>?_);refine au (fV ?_);have k0:∀b o,s.heap.get? b=some o->(s.heap.push { cls:= .type "set",dict:=none,data:= .set #[] 0 (.fresh 0 0 led) }).get? b=some o:=λb o e=>cZ _ e;refine au (au (au (v1 _ _ k0 ?_)));refine au (pC (aH ?_));refine au (fV (aH ?_));refine aH (au (fV ?_));refine rR (aU1 ..) (au ?_);refine au (au ?_);refine fV (au ((lm prog w).pyHash (mh ..) ?_));refine Py (gY _ rfl) (aFd led) (by simp) (by decide) λZ H Y vQ oE=>?_;have H:∀b o,s.heap.get? b=some o->Z.get? b=some o:=λb o e=>(Y.2 b (du (dH e))).trans (k0 b o e);refine aH ?_;(try dsimp only);refine aH (aH ?_);refine au ?_;show aG _ _ _ ..;refine rR (aU1 ..) (au (au (au (v2 _ _ H ?_))));refine au (pC (aH ?_));have Y:Z.DictAt (lm prog w) d J ep:=by exact c7 (id d9) λo J Z r=>⟨o,J,H _ _ Z,r⟩
 have Z:s.heap.objs.size≠d:=by exact c7 (id d9) λod J J j=>jc (dH J)
 refine au (fV (aFb hh vP Y vQ oE hl Z λZ J o2 Y tY kK=>?_));refine aH ?_;(try dsimp only);exact aH (aH (aH (h Z J o2 (λb o e=>Y b o (du (dH e)) (H b o e)) tY kK)))
end
end
def pick(led:List (af×aq))(ix:List Nat):List (Option (af×aq)):=nc (ix.map λi=>led[i]?)
section
variable {led l':List (af×aq)}
theorem lN(H:ay True aa ak led s){ix:List Nat}(J:ix.Nodup)(e:pick led ix=l'.map some):ay True aa ak l' s:=⟨H.h.sel J e,H.os,H.gens,H.same⟩
theorem aHp{a l:List (af×aq)}(H:ay True (gZ s.heap (a.map (·.1))) ak l s')(lv:ij s.heap s'.heap):Goes a s.heap l s'.heap:=by
 refine⟨λb o e nb=>H.h.keep b o (kd _ e λY=>?_),lv,λp J=>?_⟩;·exact aO (bq.mp Y) λq Y Z=>nb q Y Z
 ·induction z:s.heap.get? p.1 with
  |none=>exact .inl rfl|some o=>
   by_cases q:p.1∈a.map (·.1);·exact aO (bq.mp q) λr Y Z=> .inr ⟨r,Y,Z⟩
   ·have:=H.h.off p J;replace this:=(kd _ z q)▸this;injection this
end
abbrev yc(w:aj)(G:TG)(a:AT)(S:SX)(ta:Nat)(tag:Str)(t:ab)(L tk:Nat):List (af×aq):=[(G.tg,dW 150 G.td),(G.td,fk w (.ref S.wm) G.b G.rs G.rn G.dl G.ds G.ns G.pm G.ps G.ti G.ep G.kt),(L+1+1,nj none),(L+1,nj (some (.ref G.tg))),(L,tW w a.at_ ta tag t tk [] 4)]
def uc(e:Option ck)(i:Nat):Pos:=match i with
 |0=>(oS e).pos|1=>(pE e 0).pos|2=>(xE (pE e 0) 1).pos|3=>(pE e 1).pos|4=>(xE (pE e 0) 0).pos|_=>(xE (xE (pE e 0) 1) 0).pos
theorem Q0:(∀(w:aj)(G:TG)(a:AT)(S:SX)(ta:Nat)(tag:Str)(t:ab)(L tk sz:Nat)(J:Xs),Ends [0,1,2,3,4] ((aI w 0 0 none 300).S [] J ⟨yc w G a S ta tag t L tk,sz,tk+4,(dN 14 0x40084000040000024), .nil⟩ (aV (fB.take 1) (jS L)) fin) (.ok .next,(yc w G a S ta tag t L tk).map some,sz,tk+5))/\(∀(w:aj)(G:TG)(a:AT)(S:SX)(ta:Nat)(tag:Str)(t:ab)(L tk H sz tb:Nat)(oS:aq)(p:d5)(J:Xs),Ends [0,1,2,3,4,5] ((aI w 0 0 none 300).S [] J ⟨(H,oS)::yc w G a S ta tag t L tk,sz,tb,[6,6], .nil⟩ (bindName (jS L) "qnames" (.ref H) >>=λ_=>pure dk.next) fin) (.ok .next,((H,oS)::[(G.tg,dW 150 G.td),(G.td,fk w (.ref S.wm) G.b G.rs G.rn G.dl G.ds G.ns G.pm G.ps G.ti G.ep G.kt)]++I4 w G a ta tag t L tk H tb).map some,sz,tb+1)):=by and_intros<;>intros<;>kernel_rfl
noncomputable def cU(c:Nat)(z:List Nat)(l:List Nat):List Nat:=l.flatMap λk=>if k=c then z else [k]
theorem AK(c:Nat)(z:List Nat):∀l:List Nat,c ∉ l->cU c z l=l
 |[],_=>rfl|k::r,h=>by have H:¬k=c:=λe=>h (e▸aU2 ..);show(if k=c then z else [k])++cU c z r=k::r;refine rR (if_neg H) (rR (AK c z r λm=>h (X4 _ m)) ?_);rfl
theorem AM(c:Nat)(z a b:List Nat):cU c z (a++b)=cU c z a++cU c z b:=zh ..
theorem sub_one(c:Nat)(z:List Nat):cU c z [c]=z:=by simp[cU]
theorem Q1(c:Nat)(z:Str):∀H:List Str,(∀p∈H,c ∉ p.cps.toList)->cU c z.cps.toList (Cc ⟨#[c]⟩ H).cps.toList=(Cc z H).cps.toList
 |[],_=>rfl|[p],h=>AK c _ _ (h p (bI.mpr rfl))|p::q::r,h=>by show cU c z.cps.toList (p++⟨#[c]⟩++Cc ⟨#[c]⟩ _).cps.toList=(p++z++Cc z _).cps.toList;simp only[Yf,zi];simp only[AM,AM,(Q1 c z _ λa H=>h a (X4 _ H)),AK c _ _ (h p (aU2 ..))];rw[sub_one]
theorem I6(x z:Str)(c:Nat):Txt.replace x ⟨#[c]⟩ z=⟨(cU c z.cps.toList x.cps.toList).toArray⟩:=by
 have:(Txt.replace x ⟨#[c]⟩ z).cps.toList=cU c z.cps.toList x.cps.toList:=by exact rR (StrLaws.replace_one ..) (rL (Q1 c z _ (aU3 x c) ..) (rR (aU4 ..) rfl))
 exact rL this rfl
theorem I7(c:Nat)(z l:List Nat)(n:Nat)(H:z.length<=n)(hn:1<=n):(cU c z l).length<=n*l.length:=by
 induction l with
 |nil=>simp[cU]|cons k r ih=>
  show((if k=c then z else [k])++cU ..).length<=_;simp only[bQ,eH,Nat.mul_succ];have:(if k=c then z else [k]).length<=n:=by
   split;·exact H
   ·exact hn
  exact qN [lE Y1 Y2,lE Y0 Y3] (lE (Y0+Y1) (Y2+Y3)) rfl ih this
def oM(l:List Nat):List Nat:=cU 13 (gB "&#xD;").cps.toList (cU 62 (gB "&gt;").cps.toList (cU 60 (gB "&lt;").cps.toList (cU 38 (gB "&amp;").cps.toList l)))
def qg(l:List Nat):List Nat:=cU 13 (gB "&#xD;").cps.toList (cU 10 (gB "&#xA;").cps.toList (cU 9 (gB "&#x9;").cps.toList (cU 34 (gB "&quot;").cps.toList (cU 60 (gB "&lt;").cps.toList (cU 38 (gB "&amp;").cps.toList l)))))
def trB(b:List ck):List Stmt:=pB b[0]? 0
def v9(b:List ck):PySem.Expr:=pE b[0]? 0
def AN(b:List ck):List Stmt:=pB b[0]? 0
def I8(b:List ck):Pos:=(oS b[0]?).pos
def DX(b:List ck):List ExceptHandler:=sH (oS b[0]?)
def trP(b:List ck):Pos:=(oS b[0]?).pos
def DY(κ:Bool):Nat:=nc (match κ with
 |false=>161|true=>168)
def np(κ:Bool):Obj:=match κ with
 |false=>MY.1|true=>MZ.1
def ud(κ:Bool):FuncData:=match (np κ).data with
 | .func f=>f|_=>default
def iW(κ:Bool):List (Nat×Str×Str):=nc (match κ with
 |false=>[(38,"&","&amp;"),(60,"<","&lt;"),(62,">","&gt;"),(13,"\r","&#xD;")]|true=>[(38,"&","&amp;"),(60,"<","&lt;"),(34,"\"","&quot;"),(9,"\t","&#x9;"),(10,"\n","&#xA;"),(13,"\r","&#xD;")])
def Q2(κ:Bool)(l:List Nat):List Nat:=match κ with
 |false=>oM l|true=>qg l
abbrev iX(κ:Bool):List Stmt:=trB (bodyOf (np κ))
abbrev ue(κ:Bool)(L:af):Env:=mB (np κ) (DY κ) L
abbrev nq(w:aj)(L k:Nat)(X:Str)(t:ab):List (af×aq):=nc ([(L,⟨.type "frame",none, .dict (cE [⟨aS w.params "text", .str "text" k, .str X t⟩]) 1,#[]⟩)])
theorem I9{P:Bool->Nat->Nat×Str×Str->Prop}(a:∀i r,(iW false)[i]?=some r->P false i r)(b:∀i r,(iW true)[i]?=some r->P true i r):∀κ i r,(iW κ)[i]?=some r->P κ i r
 |false=>a|true=>b
theorem DZ{P:Nat->α->Prop}{a b c d:α}(Y:P 0 a)(J:P 1 b)(H:P 2 c)(Z:P 3 d):∀i r,[a,b,c,d][i]?=some r->P i r
 |0,_,e=>dG e▸Y|1,_,e=>dG e▸J|2,_,e=>dG e▸H|3,_,e=>dG e▸Z|_+4,_,e=>nomatch e
theorem Ja{P:Nat->α->Prop}{a b c d x y:α}(Z:P 0 a)(Y:P 1 b)(H:P 2 c)(h3:P 3 d)(J:P 4 x)(h5:P 5 y):∀i r,[a,b,c,d,x,y][i]?=some r->P i r
 |0,_,e=>dG e▸Z|1,_,e=>dG e▸Y|i+2,r,e=>DZ (P:=λi=>P (i+2)) H h3 J h5 i r e
section
variable (w:aj)(κ:Bool)(X r:Str)(t:ab)(L k sz tk:Nat)(σ:Xs)
theorem aHq:(K w.params).lookup (DY κ)=some ⟨(np κ).cls,(np κ).dict, .func (ud κ),(np κ).slots⟩:=by induction κ<;>kernel_rfl
theorem aHr:bA ((aI w 0 0 none 400).S [] σ ⟨[],sz,tk,[], .nil⟩ (ma (ud κ) ⟨[.str X t],[]⟩) fin) (.ok [("text", .str X t)],[],sz,tk):=by induction κ<;>kernel_rfl
theorem aHs:bA ((aI w 0 0 none 400).S [] σ ⟨[],sz,tk,[1,1], .nil⟩ (md (ud κ).scope (ud κ).globals (ud κ).closure [("text", .str X t)] ((ud κ).qualname++".<locals>.") (some (DY κ)) (ud κ).code none (ud κ).builtins) fin) (.ok (ue κ sz),nq w sz tk X t,sz+1,tk+1):=by induction κ<;>kernel_rfl
def Q3(b:Bool)(i:Nat)(p:Str):=(aI w 0 0 none 400).S [] σ ⟨nq w L k X t,sz,tk,[1,2],mr X p t tk b λ_=> .nil⟩ (MR (v9 ((iX κ).drop i)) (ue κ L) (fx (v9 ((iX κ).drop i)) (ue κ L))) fin
theorem Q4(b:Bool)(i:Nat){c:Nat}{p q:Str}(h:(iW κ)[i]?=some (c,p,q)):bA (Q3 w κ X t L k sz tk σ b i p) (.ok b,nq w L k X t,σ 0 0,σ 0 1):=I9 (P:=λκ i r=>bA (Q3 w κ X t L k sz tk σ b i r.2.1) _) (DZ (by kernel_rfl) (by kernel_rfl) (by kernel_rfl) (by kernel_rfl)) (Ja (by kernel_rfl) (by kernel_rfl) (by kernel_rfl) (by kernel_rfl) (by kernel_rfl) (by kernel_rfl)) κ i _ h
def Q6(i:Nat)(p q:Str):=(aI w 0 0 none 400).S [] σ ⟨nq w L k X t,sz,tk,[1,2,1,1],vD X p q r t tk (tk+1) λ_=> .nil⟩ (aV (AN ((iX κ).drop i)) (ue κ L)) fin
theorem aHt(i:Nat){c:Nat}{p q:Str}(h:(iW κ)[i]?=some (c,p,q)):bA (Q6 w κ X r t L k sz tk σ i p q) (.ok .next,nq w L k r (σ 0 2),σ 0 0,σ 0 1+1):=I9 (P:=λκ i y=>bA (Q6 w κ X r t L k sz tk σ i y.2.1 y.2.2) _) (DZ (by kernel_rfl) (by kernel_rfl) (by kernel_rfl) (by kernel_rfl)) (Ja (by kernel_rfl) (by kernel_rfl) (by kernel_rfl) (by kernel_rfl) (by kernel_rfl) (by kernel_rfl)) κ i _ h
theorem aHu:bA ((aI w 0 0 none 400).S [] σ ⟨nq w L k X t,sz,tk,[1], .nil⟩ (aV ((iX κ).drop (iW κ).length) (ue κ L)) fin) (.ok (.ret (.str X t)),nq w L k X t,sz,tk):=by induction κ<;>kernel_rfl
theorem aHv(i:Nat){c:Nat}{p q:Str}(h:(iW κ)[i]?=some (c,p,q)):(iX κ).drop i= .If (v9 ((iX κ).drop i)) (AN ((iX κ).drop i)) [] (I8 ((iX κ).drop i))::(iX κ).drop (i+1):=I9 (P:=λκ i r=>(iX κ).drop i= .If (v9 ((iX κ).drop i)) (AN ((iX κ).drop i)) [] (I8 ((iX κ).drop i))::(iX κ).drop (i+1)) (DZ (by kernel_rfl) (by kernel_rfl) (by kernel_rfl) (by kernel_rfl)) (Ja (by kernel_rfl) (by kernel_rfl) (by kernel_rfl) (by kernel_rfl) (by kernel_rfl) (by kernel_rfl)) κ i _ h
theorem aHw:bodyOf (np κ)=[.Try (iX κ) (DX (bodyOf (np κ))) [] [] (trP (bodyOf (np κ)))]:=by induction κ<;>kernel_rfl
theorem aHx:∃h H,DX (bodyOf (np κ))=h::H:=by
 have:0<(DX (bodyOf (np κ))).length:=by induction κ<;>exact dh (by kernel_rfl)
 induction h:DX _ with
 |nil=>replace this:=h▸this;contradiction|cons a b=>exact⟨_,_,rfl⟩
end
theorem in1(x:Str)(p:Str)(c:Nat)(h:p=⟨#[c]⟩):(!(ka x p 0 x.length 1).isEmpty)=decide (c∈x.cps.toList):=h▸StrLaws.found_one x c
theorem aHy(X:aK w aa)(hA:A.handled=none)(κ:Bool)(L k:Nat){x:Str}(i:Nat){c:Nat}{p q:Str}(h:(iW κ)[i]?=some (c,p,q))(hp:p=⟨#[c]⟩)(zK:(p==q)=false)(hq:q.length<=6)(hx:x.length<=1000000)(SR:ay True aa ak (nq w L k x t) s)(kj:1<=s.toks)(Z:∀t' s',ay True aa ak (nq w L k ⟨(cU c q.cps.toList x.cps.toList).toArray⟩ t') s'->1<=s'.toks->aG (av w) A (aV ((iX κ).drop (i+1)) (ue κ L)) Q E s'):aG (av w) A (aV ((iX κ).drop i) (ue κ L)) Q E s:=by
 refine rR (aHv κ i h) (mV (wpAny_If (Yg kj ?_)));induction Y:decide (c∈x.cps.toList)with
 |false=>
  refine gK SR X hA 0 0 400 [1,2] (mr x p t s.toks false λz=> .nil) (λz=>nY ((in1 x p c hp).trans Y) λz z=>True.intro) nofun (a8 _) _ _ _ _ (λH=>Q4 w κ x t L k _ _ H false i h) λH J S1 z z z p1=>qC ?_
  rw[AK _ _ _ (of_decide_eq_false Y)]at Z;exact Z t J S1 p1
 |true=>
  refine gK SR X hA 0 0 400 [1,2] (mr x p t s.toks true λz=> .nil) (λz=>nY ((in1 x p c hp).trans Y) λz z=>True.intro) nofun (a8 _) _ _ _ _ (λH=>Q4 w κ x t L k _ _ H true i h) λH J S1 z z z p1=>Yg p1 (gK S1 X hA 0 0 400 [1,2,1,1] (vD x p q ⟨(cU ..).toArray⟩ t J.toks _ λz=> .nil) (λz=>HF (by induction h:J.toks with|zero=>replace p1:=h▸p1;cases p1|succ n=>rfl) (beq_false_of_ne (du (wY _))) zK (aE hx (by decide)) (aE hq (by decide)) (rR hp (I6 ..)) λz z=>True.intro) nofun (a8 _) _ _ _ _ (λH=>aHt w κ x ⟨(cU ..).toArray⟩ t L k _ _ H i h) λH s2 S2 z z z p2=>?_)
  exact Z _ s2 S2 p2
theorem aHz(κ:Bool):∀r∈iW κ,r.2.1=⟨#[r.1]⟩/\(r.2.1==r.2.2)=false/\r.2.2.length<=6:=by induction κ<;>decide+kernel
abbrev Jb(l:List (Nat×Str×Str))(x:List Nat):List Nat:=l.foldl (λl r=>cU r.1 r.2.2.cps.toList l) x
theorem Q7(X:aK w aa)(J:A.handled=none)(κ:Bool)(L k:Nat):∀(n i:Nat)(x:Str)(t:ab)(s:am),i+n=(iW κ).length->x.length<=100*6 ^ i->ay True aa ak (nq w L k x t) s->1<=s.toks->(∀t' s',ay True aa ak (nq w L k ⟨(Jb ((iW κ).drop i) x.cps.toList).toArray⟩ t') s'->Q (.ret (.str ⟨(Jb ((iW κ).drop i) x.cps.toList).toArray⟩ t')) s')->aG (av w) A (aV ((iX κ).drop i) (ue κ L)) Q E s
 |0,i,x,t,s,hi,hx,SR,kj,hQ=>by obtain rfl:i=(iW κ).length:=hi;replace hQ:=List.drop_length▸hQ;exact gK SR X J 0 0 400 [1] .nil (λz=>True.intro) nofun (a8 _) _ _ _ _ (λZ=>aHu ..) λZ Z S1 z z z=>hQ t Z S1
 |n+1,i,x,t,s,hi,hx,SR,kj,hQ=>by
  have H:=hi▸aUy (BW n);have Y:(iW κ).length<=6:=by induction κ<;>decide
  refine cI (aHz κ _ (uW H)) λr1 r2 r3=>?_;replace hQ:=(aTx H)▸hQ;refine aHy X J κ L k i (gD H) r1 r2 r3 (aE hx (aE (dT _ (FU (by decide) (FI (qr H Y)))) (by decide:100*6 ^ 5<=1000000))) SR kj λt' s' H Y=>?_;refine Q7 X J κ L k n _ _ t' s' (hi▸Nat.succ_add_eq_add_succ i n) ?_ H Y hQ;exact aE ((I7 (iW κ)[i].1 (iW κ)[i].2.2.cps.toList x.cps.toList 6 (r3) (by decide))) (rR (Yh ..) (rL (i9 ..) (rR (dU ..) (jF _ hx))))
theorem Q8(κ:Bool)(XK:aK w aa)(J:aa.NoLimit)(Z:A.handled=none)(hd:A.depth+1<=bk)(x:Str)(hx:x.length<=100)(t:ab):Told True (av w) A U fr aa (.call (.ref (DY κ)) ⟨[.str x t],[]⟩) [] (λe=>⟨.ok (.ret (.str ⟨(Q2 κ x.cps.toList).toArray⟩ (e 2))),[],[],e 0,e 1⟩):=by
 refine Dh (body:=bodyOf (np κ)) XK J Z hd (aHq w κ) (by induction κ<;>rfl) (by induction κ<;>rfl) (by induction κ<;>kernel_rfl) (by induction κ<;>kernel_rfl) [("text", .str x t)] [] (λL tk J=>aHr ..) _ (λL tk=>nq ..) 1 1 [1,1] (λL tk J=>aHs ..) (λz=>rfl) ?_;intro J L tk s ak Q E ar iV j j j X1 j Z j J dm;rw[aHw];refine vg (aHx κ) λh hs e=>rR e (mV (wpAny_Try_except ?_));refine Q7 X1 iV κ L tk (iW κ).length 0 x t s (MC _) (aE hx (by decide)) Z (J▸BW _) λY s' H=>?_;have e:Jb (iW κ) x.cps.toList=Q2 κ x.cps.toList:=by induction κ<;>rfl
 simp only[List.drop_zero,e]at H ⊢;exact dm (λi=>match i with|0=>s'.heap.objs.size|1=>s'.toks|_=>Y) _ s' rfl rfl rfl (qb H)
section
open PySem PySem.W PyProof.Rows PySem.P
open PySem.Builtin.Str in
theorem aH0(sep:Str):∀l:List (Str×ab),2<=l.length->joinMade sep l= .str (glued sep (l.map (·.1)))
 |_::_::_,_=>rfl
section
variable {next:aM}
open PySem.Builtin.Str in
theorem Jc{l:List (Str×ab)}{e:Nat}{sep:Str}(J:2<=l.length)(Z:tooLong ((l.map (·.1)).toArray.foldl (· +·.length+sep.length) 0)=false)(Y:(glued sep (l.map (·.1))).length<=gz):Told ao (av w) A U fr aa (bC "str.join" [.str sep t, .ref D]) [(D,listOf (pI l).toArray e)] (λx=>⟨.ok (.ret (.str (glued sep (l.map (·.1))) (x 2))),[(D,listOf (pI l).toArray e)],[],x 0,x 1⟩):=by intro u s ak R hu H z hR;refine dJ MS.plain Yi (MS.check _ _ _ _ _ _ _ _ (ib ..) (aU5 _ _) ((Yj sep t D l Z) _ _ _ R s ⟨⟨_,H.h.at_ _ az,rfl,_,rfl⟩,?_⟩));refine rR (aH0 sep l J) ⟨Y,?_⟩;exact hR (λi=>bif bY i 0 then s.heap.objs.size else bif bY i 1 then s.toks+1 else s.toks) _ rfl rfl rfl (λp J=>absurd J bi) ⟨H.h,H.os,H.gens,H.same⟩ λb o H J=>H
end
end
def rq:FuncData:=match u6.1.data with
 | .func f=>f|_=>default
abbrev AO:List Stmt:=bodyOf u6.1
abbrev D0(L:af):Env:=mB u6.1 106 L
abbrev oN(w:aj)(G:TG)(S:SX)(x:Str)(t:ab)(H:Nat):List (af×aq):=[(G.tg,dW 150 G.td),(G.td,fk w (.ref S.wm) G.b true G.rn G.dl G.ds G.ns G.pm G.ps G.ti G.ep G.kt),(G.dl,listOf [ag.str x t].toArray H),(G.ps,listOf (S.cv++[dX false]).toArray S.dC),(S.wm,fX S.wl),(S.wl,listOf S.wv.toArray S.we)]
abbrev AP(w:aj)(G:TG)(L tk:Nat):List (af×aq):=nc ([(L,⟨.type "frame",none, .dict (cE [⟨aS w.params "self", .str "self" tk, .ref G.tg⟩,⟨aS w.params "_join_text", .str "_join_text" (tk+1), .ref 98⟩]) 2,#[]⟩)])
abbrev AQ(i D:Nat)(x:Str)(t u:ab)(e:Nat)(next:aM):aF:=nc (.cons (some 0) (.builtin "str.join" ⟨[.str "" u, .ref D],[]⟩) [i] [(D,listOf [ag.str x t].toArray e)] (λy=>⟨.ok (.ret (.str x t)),[(D,listOf [ag.str x t].toArray e)],[],y 0,y 1⟩) next)
abbrev Jd(x y:Str)(t:ab)(next:aM):aF:=cK "str.strip" [.str x t] (λk=> .str y k) next
abbrev wa(v:Str):Str:=⟨(oM v.cps.toList).toArray⟩
abbrev Q9(v:Str)(H:ab)(next:aM):aF:= .cons none (gF 161 [.str v H]) [] [] (λe=>⟨.ok (.ret (.str (wa v) (e 2))),[],[],e 0,e 1⟩) next
theorem aH1{x:Str}(J:x.length=k)(Z:k<=1000):Told ao (av w) A U fr aa (.builtin "len" ⟨[.str x t],[]⟩) [] (λy=>⟨.ok (.ret (.int k (y 2))),[],[],y 0,y 1⟩):=by
 intro u s ak R Y H j hR;refine qw WY ?_;have Y:¬(((x.length:Nat):Int)>=2 ^ 63):=by exact rR J (wP.mpr (iB [(k:Nat)] [lE Y0 1000] (lL Y0 9223372036854775808) rfl (bK.mpr Z)))
 refine pz (PySem.wpAny_len_body (Q:=λr s'=>r= .int k _/\s'={ s with toks:=s.toks+1+1 }) (ib ..) PySem.F.slot_str_len PySem.F.entry_str_len (PySem.F.args_str_len_1 _) (PySem.gives_str_len x t) (fG.mpr ((bG _))) Y ⟨rR J rfl,rfl⟩) (λJ s' h'=>?_) λz z e=>e;obtain⟨r,rfl,rfl,rfl⟩:=h';exact hR (λi=>bif bY i 0 then s.heap.objs.size else bif bY i 1 then s.toks+1+1 else s.toks+1) _ rfl rfl rfl (λp J=>nomatch J) ⟨H.h,H.os,H.gens,H.same⟩ λb o H J=>H
abbrev AR(x:Str)(t:ab)(k:Nat)(next:aM):aF:=nc (.cons (some 0) (.builtin "len" ⟨[.str x t],[]⟩) [] [] (λy=>⟨.ok (.ret (.int k (y 2))),[],[],y 0,y 1⟩) next)
theorem yd{F:af}{J:ag}{Y:Option af}{sR:Array (Option ag)}{a:List (af×aq)}{postA:(Nat->Nat)->List (af×aq)}{q:Str}{nms:List (Str×BS)}{xe xf:Bool}{xg:List (Str×Const)}{zl:ag}(cl:af->List (Str×af))(hF:(K w.params).lookup F=some ⟨J,Y, .func fd,sR⟩)(HX:fd.scope.isCoroutine=false)(HY:fd.scope.isGenerator=false)(HZ:fd.body= .stmts body)(Ad:Mc (K w.params) fd.code fd.qualname=true)(J:List (Str×ag))(Ae:List Nat)(e0:∀Y tk σ,Ends (fH a.length) ((aI w 0 0 none 400).S [] σ ⟨a,Y,tk,Ae, .nil⟩ (ma fd args) fin) (.ok J,a.map some,Y,tk))(ns:af->Nat->List (af×aq))(kz Af:Nat)(Ag Je:List Nat)(I5:Je.Nodup)(e1:∀Y tk σ,Ends Je ((aI w 0 0 none 400).S [] σ ⟨a,Y,tk,Ag, .nil⟩ (md fd.scope fd.globals fd.closure J (fd.qualname++".<locals>.") (some F) fd.code none fd.builtins) fin) (.ok (sy q ⟨.function,nms,xe,xf,xg⟩ Y F zl (cl Y)),(a++ns Y tk).map some,Y+kz,tk+Af))(jj:∀x,(out x).post=postA x++ro)(hpa:∀x,(postA x).map (·.1)=a.map (·.1))(hB:∀(k:KX)(tk:Nat)(s ak:am)(Q:dk->am->Prop)(E:ag->am->Prop)(ar:aw),k.Ok w->k.aa.objs.size<=k.L->k.dp+n< bk+1->k.un+40*n< dP+3->(∀b o,k.aa.get? b=some o->ar.get? b=some o)->(∀p∈ro,ar.get? p.1=some p.2/\p.1≠k.L/\k.aa.get? p.1=none)->(ro.map (·.1)).Nodup->ay True ar ak (a++ns k.L tk) s->s.heap.objs.size=k.L+kz->s.toks=tk+Af->(∀x fl s',(out x).res= .ok (.ret (match fl with| .ret v=>v|_=> .none))->s'.heap.objs.size=(out x).sz->s'.toks=(out x).tk->ay True ar ak ((out x).new++postA x) s'->ij s.heap s'.heap->Q fl s')->aG (av w) k.bE (aV body (sy q ⟨.function,nms,xe,xf,xg⟩ k.L F zl (cl k.L))) Q E s):nV w (.call (.ref F) args) n (a++ro) out:=by
 intro k m news s R ok Fk Nw nd dj hd hu hb hR;have hX:aK w s.heap:=λa o e=>Fk.keep _ _ (ok.X a o e);refine zn (groundX (R:=R) (A:=k.bE) ok.B Fk Nw rfl rfl rfl) λJ BG st u=>?_;have SR:ay True (gZ s.heap ((a++ro++news).map (·.1))) s _ s:=⟨⟨λp hp=>(Nw p (bL _ hp)).1,nd,λb o e=>y6 _ e,λp hp=>y7 _ (b6 (bL _ hp))⟩,rfl,λj=>hb, .inl True.intro⟩
 refine cI (kF SR) λJ bZ aZ=>?_;have Ra:aK w _:=λa o e=>st _ _ (ok.X a o e);have Rb:aK w _:=λa o e=>aZ _ _ (Ra a o e);refine FO (show k.dp< bk by exact b7 [lL (Y0+Y2) Y1] (lL Y0 Y1) rfl hd) (hX _ _ hF) rfl HX HY HZ (BQ hX Ad) (wp_run J Rb rfl 0 0 400 Ae _ .nil (λj=>True.intro) nofun (a8 _) uY _ _ _ _ (e0 _ _) λJ J D3 D4 Jf G0=>?_);have AC:=e1 s.heap.objs.size s.toks;replace AC:=Jf▸(D4▸AC)
 refine wp_run D3 Rb rfl 0 0 400 Ag Je .nil (λj=>True.intro) nofun (a8 _) I5 _ _ _ _ AC λσ s1 Y kr H3 J=>?_
 have G1:=G0.trans J;simp only[D4,Jf]at Y G1;rw[D4]at kr;rw[Jf]at H3;refine⟨ok.T.nolimit.keeps (λb o e=>Y.h.keep b o (aZ b o (st b o e))),Mw ?_⟩;refine rR D4 ?_;let k':KX:=⟨k.p,k.loose,k.sO,k.mg,k.mb,k.dp+1,k.un+3,k.gd,q,nms,xe,xf,xg,F,zl,cl s.heap.objs.size,sy k.cn k.sc k.L k.a k.mq k.cl::k.outer,k.bE,k.base,gZ s.heap ((a++ro++news).map (·.1)),s.heap.objs.size⟩
 have J:k'.Ok w:=⟨BG,Ra,ok.T.keeps st,ok.C⟩
 have qO:=nd;rw[bM,fi]at qO;refine hB k' s.toks s1 s _ _ _ J (qu (hideAll_size _ _)) (b7 [lL (Y0+Y1) Y2] (lL (Y0+1+Y1) (Y2+1)) rfl hd) (b7 [lL (Y0+(.m 40 Y1)) Y2] (lL (Y0+3+(.m 40 Y1)) (Y2+3)) rfl hu) aZ (λp hp=>⟨bZ p hp,du (SR.h.low p (bD _ hp)),SR.h.off p (bD _ hp)⟩) qO.2.1 Y kr H3 λx fl s' Ah gG jT Rc lv=>?_;obtain⟨Z,G⟩:=aDj SR Rc (aHp Rc λz o e=>(G1.live z o e).elim λJ Y=>lv z J Y);have J:(out x).new++postA x++ro=(out x).new++(out x).post:=by simp only[jj x,bH]
 simp only[J]at Z G;have Rd:(out x).post.map (·.1)=(a++ro).map (·.1):=by simp only[jj,bM,bM,hpa]
 have e:=hR x s' gG jT Z.os (Z.gens True.intro);rw[Ah]at e;refine mX Fk.ns λoL es ep hL hLr=>?_;have kL:=G.keep _ _ hL λp hp=>(Nw p (bL _ hp)).2.1;have mo:=Z.h.nd;rw[bM,fi]at mo;have old:∀p∈(out x).post,∃r∈a++ro,r.1=p.1:=λp hp=>by have:p.1∈(out x).post.map (·.1):=b6 hp;rw[Rd]at this;exact bq.mp this
 have H:∀p∈(out x).new,s.heap.get? p.1=none:=λp hp=>by
  rcases G.new p (bL _ hp)with h|⟨r,hr,er⟩
  ·exact h
  ·refine absurd rfl (mo.2.2 p.1 (b6 hp) p.1 ?_);exact rR Rd (rL er (b6 hr))
 refine e ⟨⟨oL,es,ep,kL,hLr⟩,λb o e=>Z.h.keep b o (st b o e),Fk.above⟩ (λp hp=>?_) mo.1 (λp hp r hr e=>?_) (kL.trans hL.symm)
 ·rcases cq.mp hp with hp|hp
  ·have f:=H p hp;refine⟨Z.h.at_ p (bL _ hp),λq=>(by replace f:=hL▸(q▸f);injection f),?_⟩;induction z:k.aa.get? p.1 with
   |none=>rfl|some o=>replace f:=(Fk.keep _ _ z)▸f;injection f
  ·rcases cq.mp hp with hp|hp
   ·refine aO (old p hp) λr hr er=>?_;have J:=(Nw r (bL _ hr)).2;rw[er]at J;exact⟨Z.h.at_ p (bD _ hp),J⟩
   ·exact⟨G.keep _ _ (Nw p (bD _ hp)).1 λr hr=>(dj p hp r hr).symm,(Nw p (bD _ hp)).2⟩
 ·have f:=H p hp;replace f:=((Nw r hr).1)▸(e▸f);injection f
def Re:List Nat:=(dN 155 0x8e73980610100180420000200000100001000010000120601080000800000481206010800008000004842048008a52800300840000400000240c02100001000000904210810842101004208010800008000004e738800008010800008000004e7)
def aH2(w:aj)(G:TG)(S:SX)(x:Str)(c:Nat)(r:List Nat)(t:ab)(H:Nat):aF:=AQ 2 G.dl x t 437 H λj=>xY 4 G.ps S.cv (.bool false) S.dC (j 1+5) λl=>Jd x ⟨(c::r).toArray⟩ t λH=>AR ⟨(c::r).toArray⟩ (H 2) (r.length+1) λJ=>Q9 ⟨(c::r).toArray⟩ (H 2) λe=>rk 6 S.wl S.wv S.we (.str (wa ⟨(c::r).toArray⟩) (e 2)) λa=> .nil
def Rf:List Nat:=(dN 104 0x1206010800008000004842048008a52800300840000400000240c02100001000000904210810842101004208010800008000004e738800008010800008000004e7)
def aH3(w:aj)(G:TG)(S:SX)(x:Str)(c:Nat)(r:List Nat)(t:ab)(H:Nat):aF:=AQ 2 G.dl x t 437 H λj=>xY 4 G.ps S.cv (.bool false) S.dC (j 1+5) λl=>Jd x ⟨[].toArray⟩ t λH=>AR ⟨[].toArray⟩ (H 2) 0 λH=> .nil
def Rg:List Nat:=(dN 130 0x4739cc03080800c021000010000008000080000800009030084000040000024090300840000400000240c02100001000000904210810842101004208010800008000004e738800008010800008000004e7)
def aH4(w:aj)(G:TG)(S:SX)(x:Str)(c:Nat)(r:List Nat)(t:ab)(H:Nat):aF:=AQ 2 G.dl ⟨(c::r).toArray⟩ t 437 H λj=>AR ⟨(c::r).toArray⟩ t (r.length+1) λH=>Q9 ⟨(c::r).toArray⟩ t λe=>rk 6 S.wl S.wv S.we (.str (wa ⟨(c::r).toArray⟩) (e 2)) λa=> .nil
def Rh:List Nat:=(dN 79 0x90300840000400000240c02100001000000904210810842101004208010800008000004e738800008010800008000004e7)
def aH5(w:aj)(G:TG)(S:SX)(x:Str)(c:Nat)(r:List Nat)(t:ab)(H:Nat):aF:=AQ 2 G.dl ⟨[].toArray⟩ t 437 H λj=>AR ⟨[].toArray⟩ t 0 λH=> .nil
theorem D5:(∀(w:aj)(G:TG)(S:SX)(x:Str)(c:Nat)(r:List Nat)(t:ab)(J L tk:Nat)(sz tb:Nat)(H:Xs),Ends [1,2,3,4,5,6] ((aI w 0 0 (some L) 500).S [] H ⟨oN w { G with b:=true } S x t J++AP w G L tk,sz,tb,Re,aH2 w G S x c r t J⟩ (aV AO (D0 L)) fin) (.ok .next,[(G.tg,dW 150 G.td),(G.td,fk w (.ref S.wm) true true G.rn G.dl G.ds G.ns G.pm G.ps G.ti G.ep G.kt),(G.dl,listOf ([]:List ag).toArray (J+1)),(G.ps,listOf (S.cv++[dX false]).toArray S.dC),(S.wm,fX S.wl),(S.wl,listOf (S.wv++[ag.str (wa ⟨(c::r).toArray⟩) (H 4 2)]).toArray (S.we+1))].map some,H 5 0,H 5 1))/\(∀(w:aj)(G:TG)(S:SX)(x:Str)(c:Nat)(r:List Nat)(t:ab)(J L tk:Nat)(sz tb:Nat)(H:Xs),Ends [1,2,3,4,5,6] ((aI w 0 0 (some L) 500).S [] H ⟨oN w { G with b:=true } S x t J++AP w G L tk,sz,tb,Rf,aH3 w G S x c r t J⟩ (aV AO (D0 L)) fin) (.ok .next,[(G.tg,dW 150 G.td),(G.td,fk w (.ref S.wm) true true G.rn G.dl G.ds G.ns G.pm G.ps G.ti G.ep G.kt),(G.dl,listOf ([]:List ag).toArray (J+1)),(G.ps,listOf (S.cv++[dX false]).toArray S.dC),(S.wm,fX S.wl),(S.wl,listOf S.wv.toArray S.we)].map some,H 3 0,H 3 1))/\(∀(w:aj)(G:TG)(S:SX)(x:Str)(c:Nat)(r:List Nat)(t:ab)(J L tk:Nat)(sz tb:Nat)(H:Xs),Ends [1,2,3,4,5,6] ((aI w 0 0 (some L) 500).S [] H ⟨oN w { G with b:=false } S ⟨(c::r).toArray⟩ t J++AP w G L tk,sz,tb,Rg,aH4 w G S x c r t J⟩ (aV AO (D0 L)) fin) (.ok .next,[(G.tg,dW 150 G.td),(G.td,fk w (.ref S.wm) false true G.rn G.dl G.ds G.ns G.pm G.ps G.ti G.ep G.kt),(G.dl,listOf ([]:List ag).toArray (J+1)),(G.ps,listOf (S.cv++[dX false]).toArray S.dC),(S.wm,fX S.wl),(S.wl,listOf (S.wv++[ag.str (wa ⟨(c::r).toArray⟩) (H 2 2)]).toArray (S.we+1))].map some,H 3 0,H 3 1))/\(∀(w:aj)(G:TG)(S:SX)(x:Str)(c:Nat)(r:List Nat)(t:ab)(J L tk:Nat)(sz tb:Nat)(H:Xs),Ends [1,2,3,4,5,6] ((aI w 0 0 (some L) 500).S [] H ⟨oN w { G with b:=false } S ⟨[].toArray⟩ t J++AP w G L tk,sz,tb,Rh,aH5 w G S x c r t J⟩ (aV AO (D0 L)) fin) (.ok .next,[(G.tg,dW 150 G.td),(G.td,fk w (.ref S.wm) false true G.rn G.dl G.ds G.ns G.pm G.ps G.ti G.ep G.kt),(G.dl,listOf ([]:List ag).toArray (J+1)),(G.ps,listOf (S.cv++[dX false]).toArray S.dC),(S.wm,fX S.wl),(S.wl,listOf S.wv.toArray S.we)].map some,H 1 0,H 1 1)):=by and_intros<;>intros<;>kernel_rfl
section
variable {next:aM}
theorem aH6{x:Str}{e:Nat}(J:x.length<=1000):Told ao (av w) A U fr aa (.builtin "str.join" ⟨[.str "" u, .ref D],[]⟩) [(D,listOf [ag.str x t].toArray e)] (λy=>⟨.ok (.ret (.str x t)),[(D,listOf [ag.str x t].toArray e)],[],y 0,y 1⟩):=by
 intro v s ak R J H z Y;have J:("":Str).length=0:=by decide+kernel
 have g:=Yj "" u D [(x,t)] (by show sA (0+x.length+("":Str).length)=false;refine rR J ?_;have J:=nO;exact decide_eq_false (by omega));refine qw Yi (g _ _ _ R s ⟨⟨_,H.h.at_ _ az,rfl,_,rfl⟩,?_⟩);exact Y (λi=>bif bY i 0 then s.heap.objs.size else s.toks) s rfl rfl rfl (λp J=>absurd J bi) ⟨H.h,H.os,H.gens,H.same⟩ λb o H J=>H
theorem D6{i D:Nat}{x:Str}{e:Nat}(H:x.length<=1000)(k:∀y lv,(next y).Ok ao (av w) A U fr aa lv):(AQ i D x t u e next).Ok ao (av w) A U fr aa lv:=nX (λJ z z=>aH6 H) λy z z=>k y _
theorem aH7{x:Str}(H:x.length<=1000):Told ao (av w) A U fr aa (bC "str.strip" [.str x t]) [] (λy=>⟨.ok (.ret (.str (pJ x) (y 2))),[],[],y 0,y 1⟩):=eM aU6 aU7 (PySem.F.args_str_strip_1 _) (gives_str_strip x t) (λs=>ib ..) λQ s k=>post_val_or_made (λz=>fits_stripped _ _ _ (aE H (by decide))) λH tk=>k H tk
theorem Ri{x y:Str}(J:x.length<=1000)(H:pJ x=y)(k:bJ next ao w A U fr aa):(Jd x y t next).Ok ao (av w) A U fr aa lv:=by subst H;exact dY (λz=>aH7 J) λe z=>k e lv
theorem D7{x:Str}(H:x.length=n)(J:n<=1000)(k:bJ next ao w A U fr aa):(AR x t n next).Ok ao (av w) A U fr aa lv:=⟨rfl,bN,λY z z=>aH1 H J,λx z z=>k x _⟩
end
def iY(b:Bool)(x:Str):Str:=nc (match b with
 |true=>pJ x|false=>x)
def qh(y:Str)(t:ab):List Value:=match y.cps.toList with
 |[]=>[]|_=>[ag.str (wa y) t]
def AS(y:Str):Nat:=nc (match y.cps.toList with
 |[]=>0|_=>1)
def AU(w:aj)(G:TG)(S:SX)(x:Str)(H:Nat)(y:Nat->Nat):List (af×aq):=[(G.tg,dW 150 G.td),(G.td,fk w (.ref S.wm) G.b true G.rn G.dl G.ds G.ns G.pm G.ps G.ti G.ep G.kt),(G.dl,aA [] (H+1)),(G.ps,aA (S.cv++[dX false]) S.dC),(S.wm,fX S.wl),(S.wl,aA (S.wv++qh (iY G.b x) (y 2)) (S.we+AS (iY G.b x)))]
def wb(w:aj)(G:TG)(S:SX)(x:Str)(H:Nat):(Nat->Nat)->Out:=λy=>⟨.ok (.ret .none),AU w G S x H y,[],y 0,y 1⟩
theorem aH8(w:aj):(K w.params).lookup 106=some ⟨u6.1.cls,u6.1.dict, .func rq,u6.1.slots⟩:=by kernel_rfl
abbrev flQ:Str:=nc ("C14NWriterTarget._flush")
def D8:Scope:=nc (rq.scope)
abbrev Rj(G:TG):List (Str×ag):=nc ([("self", .ref G.tg),("_join_text", .ref 98)])
theorem Rk(y:Str):(y=⟨([]:List Nat).toArray⟩)\/∃c r,y=⟨(c::r).toArray⟩:=by
 obtain⟨⟨l⟩⟩:=y;induction l with
 |nil=>exact .inl rfl|cons c r=>exact .inr ⟨c,r,rfl⟩
theorem Rm:(∀(w:aj)(G:TG)(S:SX)(x:Str)(t:ab)(J H tk:Nat)(Y:Xs),Ends (fH (oN w G S x t J).length) ((aI w 0 0 none 400).S [] Y ⟨oN w G S x t J,H,tk,[0], .nil⟩ (ma rq ⟨[.ref G.tg],[]⟩) fin) (.ok (Rj G),(oN w G S x t J).map some,H,tk))/\(∀(w:aj)(G:TG)(S:SX)(x:Str)(t:ab)(J H tk:Nat)(Y:Xs),Ends [1,2,3,4,5,6,0] ((aI w 0 0 none 400).S [] Y ⟨oN w G S x t J,H,tk,[1,1,1,1], .nil⟩ (md rq.scope rq.globals rq.closure (Rj G) (rq.qualname++".<locals>.") (some 106) rq.code none rq.builtins) fin) (.ok (sy flQ ⟨.function,D8.names,D8.isGenerator,D8.isCoroutine,D8.more⟩ H 106 (.ref 105) []),(oN w G S x t J++AP w G H tk).map some,H+1,tk+2)):=by and_intros<;>intros<;>kernel_rfl
theorem Rn(w:aj)(G:TG)(S:SX)(x:Str)(t:ab)(de:Nat)(hx:x.length<=100)(hy:(iY G.b x).length<=100)(fp:S.wv.length<=900):nV w (gF 106 [.ref G.tg]) 5 (oN w G S x t de) (wb w G S x de):=by
 have h0:=yd (n:=5) (out:=wb w G S x de) _ (aH8 w) rfl rfl (body:=AO) (by kernel_rfl) (by kernel_rfl) _ [0] (Rm.1 w G S x t de) _ 1 2 [1,1,1,1] [1,2,3,4,5,6,0] (by decide) (Rm.2 w G S x t de) (λy=>(dQ _).symm) (λz=>rfl) ?_;·exact h0
 intro k tk s ak Q' E ar ok hL bz jv aZ bZ f6 SR hz ht dm;have X1:aK w ar:=λb o e=>aZ _ _ (ok.X b o e);have ec:∀(v:Str)(u:ab),v.length<=100->Told True _ k.bE k.un (some k.L) ar _ [] _:=λv u hv=>
  Q8 false X1 (ok.T.nolimit.keeps aZ) rfl (aE (yW (by decide) _) (FI bz)) v hv u;have sl:∀(c:Nat)(r:List Nat),(⟨(c::r).toArray⟩:Str).length=r.length+1:=λc r=>by rfl
 induction Z:G.b with
 |true=>
  rw[Z]at hy;have eG:G={ G with b:=true }:=by cases G;cases Z;rfl
  rw[eG]at SR;rcases Rk _ with H|⟨c,r,H⟩
  ·refine wp_run SR X1 rfl 0 0 500 Rf [1,2,3,4,5,6] _ (λz=>?_) nofun (U:=k.un) (a8 _) (by decide) _ _ _ _ (λJ=>D5.2.1 w G S x 0 [] ..) λJ s' S' gG jT G'=>?_
   ·exact D6 (aE hx (dF ..)) λj z=>nX (λA' z z=>AG _ _ _ _ _) λl z z=>Ri (aE hx (by decide)) H λsp z=>D7 rfl (by decide) λz z=>True.intro
   ·refine dm (λi=>match i with|0=>s'.heap.objs.size|_=>s'.toks) .next s' rfl rfl rfl ?_ G'.live;unfold wb AU;rw[Z];show ay True ar ak [_,_,_,_,_,(S.wl,listOf (S.wv++qh (pJ x) _).toArray (S.we+AS (pJ x)))] s';refine rR H ?_;show ay True ar ak [_,_,_,_,_,_] s';exact rR (dQ ..) S'
  ·have hr:r.length+1<=1000:=by have Y:(pJ x).length<=100:=hy;rw[H,sl]at Y;exact aE Y (by decide)
   have ye:r.length+1<=100:=by have Y:(pJ x).length<=100:=hy;rw[H,sl]at Y;exact aE Y (dF ..)
   refine wp_run SR X1 rfl 0 0 500 Re [1,2,3,4,5,6] _ (λz=>?_) nofun (U:=k.un) (a8 _) (by decide) _ _ _ _ (λJ=>D5.1 w G S x c r t de k.L tk _ _ J) λJ s' S' gG jT G'=>?_
   ·exact D6 (aE hx (by decide)) λj z=>nX (λA' z z=>AG _ _ _ _ _) λl z z=>Ri (aE hx (by decide)) H λsp z=>D7 (sl c r) hr λln z=>⟨rfl,bN,ec _ _ (aE ye (by decide)),λe z z=>v7 (aE fp (dF ..)) λz z=>True.intro⟩
   ·refine dm (λi=>match i with|0=>s'.heap.objs.size|1=>s'.toks|_=>J 4 2) .next s' rfl rfl rfl ?_ G'.live;unfold wb AU;refine rR Z ?_;show ay True ar ak [_,_,_,_,_,(S.wl,listOf (S.wv++qh (pJ x) _).toArray (S.we+AS (pJ x)))] s';exact rR H S'
 |false=>
  rw[Z]at hy;have eG:G={ G with b:=false }:=by cases G;cases Z;rfl
  rw[eG]at SR;rcases Rk x with H|⟨c,r,H⟩
  ·rw[H]at SR;refine wp_run SR X1 rfl 0 0 500 Rh [1,2,3,4,5,6] _ (λz=>?_) nofun (U:=k.un) (a8 _) (by decide) _ _ _ _ (λJ=>D5.2.2.2 w G S x 0 [] ..) λJ s' S' gG jT G'=>?_
   ·exact D6 (by decide) λj z=>D7 rfl (by decide) λz z=>True.intro
   ·refine dm (λi=>match i with|0=>s'.heap.objs.size|_=>s'.toks) .next s' rfl rfl rfl ?_ G'.live;unfold wb AU;rw[Z];rw[H];show ay True ar ak [_,_,_,_,_,_] s';exact rR (dQ ..) S'
  ·have hr:r.length+1<=1000:=by have Y:(x).length<=100:=hy;rw[H,sl]at Y;exact aE Y (by decide)
   have ye:r.length+1<=100:=by have Y:(x).length<=100:=hy;rw[H,sl]at Y;exact aE Y (by decide)
   rw[H]at SR;refine wp_run SR X1 rfl 0 0 500 Rg [1,2,3,4,5,6] _ (λz=>?_) nofun (U:=k.un) (a8 _) (by decide) _ _ _ _ (λJ=>D5.2.2.1 w G S x c r t de k.L tk _ _ J) λJ s' S' gG jT G'=>?_
   ·exact D6 (aE hr (by decide)) λj z=>D7 (sl c r) hr λln z=>⟨rfl,bN,ec _ _ (aE ye (by decide)),λe z z=>v7 (aE fp (by decide)) λz z=>True.intro⟩
   ·refine dm (λi=>match i with|0=>s'.heap.objs.size|1=>s'.toks|_=>J 2 2) .next s' rfl rfl rfl ?_ G'.live;unfold wb AU;exact rR Z (rR H S')
structure Q5 where
 a:_root_.Fin 5->Nat
 t:_root_.Fin 5->Nat
 u:_root_.Fin 5->Nat
 v:_root_.Fin 5->Nat
abbrev Q5.e(q:Q5)(i:_root_.Fin 5)(k:Str):af×Obj:=(q.a i,tR k k "" (q.t i) (q.u i) (q.v i))
abbrev Q5.led(q:Q5):List (af×aq):=nc ([q.e 0 ⟨#[99]⟩,q.e 1 ⟨#[104]⟩,q.e 2 ⟨#[108]⟩,q.e 3 ⟨#[110]⟩,q.e 4 ⟨#[115]⟩])
abbrev Jg(w:aj)(G:TG)(a:AT)(ta:Nat)(tag:Str)(t:ab)(q:SQ)(Q:Q5)(H:List DE)(Z:Nat)(Y:List ag)(J:Nat):List (af×aq):=(q.PD,cD w H Z)::(Q.led++[(q.AL,aA Y J),(a.at_,cD w a.es a.ep),(q.L,tW w a.at_ ta tag t q.tk (q.es w) 9)])
abbrev itO(i j:Nat)(w:aj)(a:AT)(V:Nat)(next:aM):aF:= .cons none (Qy V) [i,j] (IT w a V) (Qz w a V) next
def Ro:List Nat:=(dM 637 0x64925924024024002cf3000033c71c71cf3cf3cf3cc1041b8104004004106e041001001041b8104004004106e041001001040b40fedb6d0a8a28c30c30c30c0104188104004004106204100100104188104004004102103f86185d75d79d7407407400acb00000b2aaaaaacb2cb2cb2c04106604100100104198104004004106604100100104198104004004102503f965942861869a69a69a69041059041001001041641040040041059041001001040600fd86185965975960160160029650000258e38e396596596594104178104004004105e04100100104178104004004105e041001001040740fdd75d09a69a8a28a28a288104154104004004105504100100104154104004004101403f51450f3cf40f3c03c03c009e78000079c71c71e79e79e79e04105604100100104158104004004105604100100104158104004004101503f5555424d34db6db6db6db04104f0410010010413c104004004104f041001001040380fce38e2082092080080080025d70000175555555d75d75d75c104138104004004104e04100100104138104004004104e041001001040340fcd34d08c30c51451451450104114104004004104504100100104114104004004100403f104101041081040040040040040fc1042088208209000088209)
def aH9(w:aj)(G:TG)(a:AT)(ta H J:Nat)(tag:Str)(t:ab)(q:SQ)(Q:Q5)(Z:List DE)(Y:List ag):aF:=QE 7 w a.at_ a.es a.ep 5 λ_=>QC 7 w a.at_ a.es a.ep λvw=>itO 0 8 w a (vw 0) λit=>vZ 11 w q.PD Z H ⟨#[99]⟩ (it 9) (.ref (Q.a 0)) λi1=>ik 21 q.AL (Y) (J+0) (.ref (i1 0+3)) λ_=>vZ 18 w q.PD Z H ⟨#[104]⟩ (it 12) (.ref (Q.a 1)) λi2=>ik 28 q.AL (Y++[.ref (i1 0+3)]) (J+1) (.ref (i2 0+3)) λ_=>vZ 25 w q.PD Z H ⟨#[108]⟩ (it 11) (.ref (Q.a 2)) λi3=>ik 35 q.AL (Y++[.ref (i1 0+3)]++[.ref (i2 0+3)]) (J+2) (.ref (i3 0+3)) λ_=>vZ 32 w q.PD Z H ⟨#[110]⟩ (it 8) (.ref (Q.a 3)) λi4=>ik 42 q.AL (Y++[.ref (i1 0+3)]++[.ref (i2 0+3)]++[.ref (i3 0+3)]) (J+3) (.ref (i4 0+3)) λ_=>vZ 39 w q.PD Z H ⟨#[115]⟩ (it 10) (.ref (Q.a 4)) λH=>ik 49 q.AL (Y++[.ref (i1 0+3)]++[.ref (i2 0+3)]++[.ref (i3 0+3)]++[.ref (i4 0+3)]) (J+4) (.ref (H 0+3)) λ_=> .nil
def aIa(w:aj)(G:TG)(a:AT)(ta Z J:Nat)(tag:Str)(t:ab)(q:SQ)(Q:Q5)(H:List DE)(Y:List ag)(sz tb:Nat)(σ:Xs):=(aI w 0 0 none 500).S [] σ ⟨Jg w G a ta tag t q Q H Z Y J,sz,tb,Ro,aH9 w G a ta Z J tag t q Q H Y⟩ (aV ((fB.drop 8).take 1) (jS q.L)) fin
abbrev yg(a:AT)(Q:Q5)(x:_root_.Fin 5->Nat):List (af×aq):=[(x 0,lM ⟨#[99]⟩ (Q.u 0) (.str a.c a.tc)),(x 1,lM ⟨#[104]⟩ (Q.u 1) (.str a.h a.th)),(x 2,lM ⟨#[108]⟩ (Q.u 2) (.str a.l a.tl)),(x 3,lM ⟨#[110]⟩ (Q.u 3) (.str a.n a.tn)),(x 4,lM ⟨#[115]⟩ (Q.u 4) (.str a.s a.ts))]
abbrev scX(H:Xs):_root_.Fin 5->Nat:=nc (λi=>H (2*i.val+3) 0+3)
abbrev Rp(w:aj)(a:AT)(Q:Q5)(y z m:Nat):List DictEntry:=nc ([⟨aS w.params "k", .str "k" y, .str ⟨#[115]⟩ z⟩,⟨aS w.params "v", .str "v" (y+1), .str a.s a.ts⟩,⟨aS w.params "attr_qname", .str "attr_qname" m, .str ⟨#[115]⟩ (Q.t 4)⟩,⟨aS w.params "attr_name", .str "attr_name" (m+1), .str ⟨#[115]⟩ (Q.u 4)⟩,⟨aS w.params "uri", .str "uri" (m+2), .str "" (Q.v 4)⟩])
abbrev Jh(w:aj)(G:TG)(a:AT)(ta:Nat)(tag:Str)(t:ab)(q:SQ)(Q:Q5)(H:List DE)(Z:Nat)(Y:List ag)(J:Nat)(x:_root_.Fin 5->Nat)(y z m:Nat):List (af×aq):=yg a Q x++((q.PD,cD w H Z)::(Q.led++[(q.AL,aA (Y++[aN (x 0)]++[aN (x 1)]++[aN (x 2)]++[aN (x 3)]++[aN (x 4)]) (J+5)),(a.at_,cD w a.es a.ep),(q.L,tW w a.at_ ta tag t q.tk (q.es w++Rp w a Q y z m) 14)]))
theorem aIb(w:aj)(G:TG)(a:AT)(ta pe Y:Nat)(tag:Str)(t:ab)(q:SQ)(Q:Q5)(J:List DE)(Z:List ag)(sz tb:Nat)(H:Xs):Ends [30,23,16,9,2,45,46,47,48,49,50,51,52,53] (aIa w G a ta pe Y tag t q Q J Z sz tb H) (.ok .next,(Jh w G a ta tag t q Q J pe Z Y (scX H) (H 2 1) (H 2 10) (H 3 1+1)).map some,H 12 0+2,H 12 1):=by kernel_rfl
theorem Rt{h:aw}{a:af}{c:ag}{d:Option af}{H:Array XO}(e:h.get? a=some ⟨c,d, .dict H ep,sl⟩)(Y:nsOk ⟨c,d, .dict H ep,sl⟩=true):h.Ns a (Md H):=by
 refine⟨_,H,ep,e,rfl,λx H=>?_,λz=>rfl⟩;have:=aSd.mp Y x H;induction J:x.key with
 |str n t=>exact⟨n,t,rfl⟩|_=>simp only[J]at this;injection this
theorem ij.trans{a b c:aw}(h:ij a b)(h':ij b c):ij a c:=λz o e=>(h z o e).elim λJ H=>h' z J H
abbrev Ji:PySem.Expr:= .Set [.Name "tag" (uc fB[1]? 4), .Starred (.Name "attrs" (uc fB[1]? 5)) (uc fB[1]? 2)] 0 (uc fB[1]? 1)
abbrev Ru:Stmt:=Stmt.Assign [.Name "qnames" (uc fB[1]? 3)] Ji (uc fB[1]? 0)
theorem aIc(L:Nat):exec Ru (jS L)=(do
  Gl (uc fB[1]? 0)
  let v <-fx Ji (jS L)
  Gl (uc fB[1]? 3)
  bindName (jS L) "qnames" v
  pure .next):=exec_Assign_Name _ "qnames" _ Ji _ rfl
theorem Rv(w:aj)(a:AT)(ta:Nat)(tag:Str)(t:ab)(tk:Nat):nsOk (tW w a.at_ ta tag t tk [] 4)=true:=by kernel_rfl
theorem begun(hA:A.handled=none){h:aw}(X:aK w h){G:TG}{a:AT}{S:SX}{tag:Str}{L:Nat}(SR:ay True h ak (yc w G a S ta tag t L tk) s)(kj:s.toks=tk+4)(d9:h.get? a.at_=some (cD w a.es a.ep))(yh:(a.at_==ic)=false)(hQ:∀s' S0 oS kq,f7 w ((["n","c","s","l","h"]:List Str).foldl gM [tag]) oS->ay True h ak ((S0,oS)::[(G.tg,dW 150 G.td),(G.td,fk w (.ref S.wm) G.b G.rs G.rn G.dl G.ds G.ns G.pm G.ps G.ti G.ep G.kt)]++I4 w G a ta tag t L tk S0 kq) s'->ij s.heap s'.heap->L< s'.heap.objs.size->aG (av w) A (aV (fB.drop 2) (jS L)) Q E s'):aG (av w) A (aV fB (jS L)) Q E s:=by
 have Y:aG (av w) A (aV (fB.take 1++(Ru::fB.drop 2)) (jS L)) Q E s:=by
  refine da (wp_run SR X hA 0 0 300 (dN 14 0x40084000040000024) [0,1,2,3,4] .nil (λj=>True.intro) nofun (a8 _) (by decide) _ _ _ _ (λσ=>kj▸Q0.1 ..) λj s1 H j j G1=>?_);refine mV (rR (aIc ..) ?_);have hd:=zb.mpr ⟨_,H.h.keep _ _ d9,vY w a.es a.ep (by simp only[qH];decide+kernel)⟩;refine BR hd.dictAt λep' hda=>?_;have jo:=H.h.at_ _ (aB (aB (aB (aB az))));refine au (pC (au ?_));refine aHn (x:=tag) (tx:=t) (λa o e=>H.h.keep _ _ (X a o e)) (by kernel_rfl) rfl hA hda yh rfl (λs' Q' J hq=>?_) (λs' Q' J hq=>?_) λh' tQ o J ho hS=>?_;·exact XD (XE (by kernel_rfl) (by kernel_rfl) (Rt (J _ _ jo) (Rv ..)) (by kernel_rfl) hq) (by decide+kernel)
  ·exact XD (XE (by kernel_rfl) (by kernel_rfl) (Rt (J _ _ jo) (Rv ..)) (by kernel_rfl) hq) (by decide+kernel)
  ·have low:=H.h.low;have S2:ay True h ak ((s1.heap.objs.size,o)::yc w G a S ta tag t L tk) { s1 with heap:=h',toks:=tQ }:=by
    refine⟨⟨λp hp=>?_,ci.mpr ⟨λhm=>?_,H.h.nd⟩,λb Z e=>J _ _ (H.h.keep b Z e),λp hp=>?_⟩,H.os,H.gens, .inl True.intro⟩
    ·rcases a9.mp hp with rfl|hp
     ·exact ho
     ·exact J _ _ (H.h.at_ p hp)
    ·exact aO (bq.mp hm) λp hp e=>absurd e (du (low p hp))
    ·rcases a9.mp hp with rfl|hp
     ·induction z:h.get? s1.heap.objs.size with
      |none=>rfl|some o'=>exact absurd (dH (H.h.keep _ _ z)) (jH _)
     ·exact H.h.off p hp
   refine au (pC ?_);refine pz (wp_run S2 X hA 0 0 300 [6,6] [0,1,2,3,4,5] .nil (λj=>True.intro) nofun (a8 _) (by decide) (Q:=λf s'=>f=dk.next/\aG (av w) A (aV (fB.drop 2) (jS L)) Q E s') _ _ _ _ (λσ=>Q0.2 w G a S ta tag t L tk s1.heap.objs.size _ _ o ⟨0,0,0,0⟩ σ) λj s3 S3 j j G3=>⟨rfl,?_⟩) (λf s' hf=>?_) λj j e=>e;·exact hQ s3 _ o _ (by simpa [fY]using hS) S3 (ij.trans G1.live (ij.trans (λb Z e=>⟨Z,J b Z e⟩) G3.live)) (S3.h.low _ (aB (aB (aB (aB (aB az))))))
   ·obtain⟨rfl,hf⟩:=hf;exact hf
 exact Y
abbrev cV(l:af)(i:Nat):Obj:=nc (⟨.type "list_iterator",none, .fields #[.ref l, .int i 0],#[]⟩)
abbrev jU(i:Nat):Obj:=nc (⟨.type "list_iterator",none, .fields #[.none, .int i 0],#[]⟩)
section
variable {l:af}{i e:Nat}{Q:Option ag->am->Prop}
theorem Jj{x:ag}(H:s.heap.get? I=some (cV l i))(Y:s.heap.get? l=some (listOf vs.toArray e))(hx:vs[i]?=some x)(Z:∀h',h'.get? I=some (cV l (i+1))->lb I s.heap h'->Q (some x) { s with heap:=h' }):aG (aR prog w) A (y9 (.ref I)) Q E s:=by
 have J:s.heap.IsListIter I l i:=⟨_,H,rfl,rfl⟩
 refine au (uQ (wV J.typeIs wW
  (qz wW J.typeIs MA ?_ (MB _))));show aG _ _ (BY _ 0>>=_) ..;refine au (jb H rfl (x:= .ref l) rfl ?_);refine au (jb H rfl (x:= .int i 0) rfl ?_);refine au (wU Y rfl ?_);simp only[wX,Ms,hx];refine au (sr H rfl (wY 1) (aH ⟨x,rfl,aH (Z _ ?_ (ia ..))⟩));exact nM _ H rfl
theorem Jk(Z:A.handled=none)(H:s.heap.get? I=some (cV l i))(Y:s.heap.get? l=some (listOf vs.toArray e))(hx:vs[i]?=none)(hQ:∀h',h'.get? I=some (jU i)->y8 I s.heap h'->Q none { s with heap:=h' }):aG (aR prog w) A (y9 (.ref I)) Q E s:=by
 have J:s.heap.IsListIter I l i:=⟨_,H,rfl,rfl⟩
 refine au (uQ (wV J.typeIs wW
  (qz wW J.typeIs MA ?_ (MB _))));show aG _ _ (BY _ 0>>=_) ..;refine au (jb H rfl (x:= .ref l) rfl ?_);refine au (jb H rfl (x:= .int i 0) rfl ?_);refine au (wU Y rfl ?_);simp only[wX,Ms,hx];refine au (qy (au (sr H rfl (Nat.zero_lt_succ 1) ?_)));have h1:(s.heap.update I (qA (·.setIfInBounds 0 ag.none))).get? I=some _:=nM _ H rfl;refine au (au (kb ?_ (by size_fits)));refine au (jd (a:=ag.none) (by first|rfl|(rfl)) ?_);refine kb ?_ (by size_fits);refine au (F9 ?_);refine rR (show A.in1.handled=none from Z) (au (aH (Ga ?_)));refine au (mT ⟨_,gY _ rfl,rfl⟩ Gc ?_);exact aH (hQ _ (cZ _ (cZ _ h1)) (((ia ..).extBut.push _).push _))
end
def uf:PySem.Expr:=xE (xE (pE (pB fB[13]? 0)[0]? 0) 1) 1
def yi:PySem.Expr:=xE uf 0
def nr:List PySem.Expr:=eE yi
def rr:PySem.Expr:=xE uf 1
def Jl:Scope:=(eL uf).2.2
abbrev AV(L C:af):Env:=Yk Jl [] C (jS L)
abbrev Jm(L I D C:af):Code:= .compStart uf 0 (.ref I) (.ref D) (AV L C)
abbrev mF:Obj:=nc (⟨.type "dict",none, .dict #[] 0,#[]⟩)
abbrev D9(w:aj)(k:Str)(J:ab)(v:Str)(H:ab)(m:Nat):Obj:=nc (⟨.type "dict",none, .dict (cE [⟨aS w.params "k", .str "k" m, .str k J⟩,⟨aS w.params "v", .str "v" (m+1), .str v H⟩]) 2,#[]⟩)
def posOf(e:Option cY):Pos:=nc ((e.getD default).pos)
def valOf(e:Option cY):PySem.Expr:=xE (e.getD default) 0
def Jn(e:Option cY):Nat:=eK (e.getD default)
theorem aId:yi= .JoinedStr [.Constant (.str " ") (Jn nr[0]?) (posOf nr[0]?), .FormattedValue (valOf nr[1]?) (-1) none (posOf nr[1]?), .Constant (.str "=\"") (Jn nr[2]?) (posOf nr[2]?), .FormattedValue (valOf nr[3]?) (-1) none (posOf nr[3]?), .Constant (.str "\"") (Jn nr[4]?) (posOf nr[4]?)] (posOf (some yi)):=by kernel_rfl
abbrev iC(v:Str):Str:=⟨(qg v.cps.toList).toArray⟩
abbrev Rx(v:Str)(H:ab)(next:aM):aF:= .cons none (gF 168 [.str v H]) [] [] (λe=>⟨.ok (.ret (.str (iC v) (e 2))),[],[],e 0,e 1⟩) next
def Ry(w:aj)(C L m:Nat)(k v:Str)(Y J:ab)(H:List Nat)(x:cY)(Z:aF)(sz tk:Nat)(σ:Xs):=(aI w 0 3 none 300).S [] σ ⟨[(C,D9 w k Y v J m)],sz,tk,H,Z⟩ (fx x (AV L C)) fin
theorem aIe(w:aj)(C L m:Nat)(k v:Str)(H J:ab)(sz tk:Nat)(Y:Xs):Ends [0] (Ry w C L m k v H J [1] (valOf nr[1]?) .nil sz tk Y) (.ok (.str k H),[(C,D9 w k H v J m)].map some,sz,tk):=by kernel_rfl
section
variable {x x':af×aq}{a:af}{o:aq}{rest:List (af×aq)}
theorem aIf(H:ay True aQ ak (x::rest) s)(J:aQ.get? a=some o):ay True (gZ s.heap [x.1,a]) ak [x,(a,o)] s:=by
 have Y:x.1≠a:=λq=>by have:=H.h.off x az;replace this:=J▸(q▸this);injection this
 refine⟨⟨λp hp=>?_,?_,λb Z e=>y6 _ e,λp hp=>?_⟩,H.os,H.gens, .inl True.intro⟩
 ·rcases a9.mp hp with rfl|hp
  ·exact H.h.at_ _ az
  ·exact rR (bI.mp hp) (H.h.keep _ _ J)
 ·exact ci.mpr ⟨λh=>Y (bI.mp h),ci.mpr ⟨bi,bN⟩⟩
 ·rcases a9.mp hp with rfl|hp
  ·exact y7 _ az
  ·exact rR (bI.mp hp) (y7 _ (aB az))
theorem Rz(H:ay True aQ ak (x::rest) s)(ha:aQ.get? a=some o)(Z:x'.1=x.1)(J:ay True (gZ s.heap [x.1,a]) ak [x',(a,o)] s'):ay True aQ ak (x'::rest) s':=by
 have nd:=H.h.nd;have st:∀b Y,s.heap.get? b=some Y->b≠x.1->b≠a->s'.heap.get? b=some Y:=λb Y e n1 n2=>J.h.keep _ _ (kd _ e λhm=>by
  rcases a9.mp hm with q|hm
  ·exact n1 q
  ·exact n2 (bI.mp hm));refine⟨⟨λp hp=>?_,?_,λb Y e=>?_,λp hp=>?_⟩,J.os,J.gens, .inl True.intro⟩
 ·rcases a9.mp hp with rfl|hp
  ·exact J.h.at_ _ az
  ·refine st _ _ (H.h.at_ p (aB hp)) (λq=>?_) λq=>?_
   ·refine(ci.mp nd).1 ?_;show x.1∈_;exact rL q (b6 hp)
   ·have:=H.h.off p (aB hp);replace this:=ha▸(q▸this);injection this
 ·exact rR iJ (rR Z nd)
 ·by_cases q:b=a;·subst q;replace e:=ha▸e;injection e with e;subst e;exact J.h.at_ _ (aB az)
  ·refine st _ _ (H.h.keep _ _ e) (λq=>?_) q;have:=H.h.off x az;replace this:=e▸(q▸this);injection this
 ·rcases a9.mp hp with rfl|hp
  ·exact rR Z (H.h.off x az)
  ·exact H.h.off p (aB hp)
end
structure FT where
 a:Nat
 k:Str
 kt:ab
 v:Str
 vt:ab
abbrev FT.o(p:FT):Obj:=lM p.k p.kt (.str p.v p.vt)
abbrev FT.c(p:FT)(w:aj)(m:Nat):Obj:=D9 w p.k p.kt p.v p.vt m
variable {c:Int}
abbrev fJ(p:FT):Str:=pF++" "++p.k++"=\""++iC p.v++"\""
def RA(w:aj)(C L:Nat)(p:FT)(o:aq)(sz tk:Nat)(H:Xs):=(aI w 0 0 none 300).S [] H ⟨[(C,o),(p.a,p.o)],sz,tk,(dN 40 0x21084084230840100421184200802108c210040108040f8842), .nil⟩ (pD rr (AV L C) (.ref p.a)) fin
def loR(w:aj)(I a:Nat)(o:aq)(sz tk:Nat)(H:Xs):=(aI w 0 0 none 300).S [] H ⟨[(I,o)],sz,tk,[1], .nil⟩ (su rr (.ref I) (.ref a)) fin
theorem RB:(∀(w:aj)(C L:Nat)(p:FT)(sz tk:Nat)(H:Xs),Ends [3,4] (RA w C L p mF sz tk H) (.ok (),[(C,p.c w tk),(p.a,p.o)].map some,sz+3,tk+2))/\(∀(w:aj)(C L:Nat)(p q:FT)(m sz tk:Nat)(H:Xs),Ends [3,4] (RA w C L p (q.c w m) sz tk H) (.ok (),[(C,p.c w m),(p.a,p.o)].map some,sz+3,tk+2))/\(∀(w:aj)(I a l i:Nat)(sz tk:Nat)(H:Xs),Ends [0] (loR w I a (cV l i) sz tk H) (.ok (),[(I,cV l i)].map some,sz,tk)):=by and_intros<;>intros<;>kernel_rfl
theorem ug(c:Nat)(z:List Nat)(J:z.length<=6):∀l:List Nat,(cU c z l).length<=6*l.length
 |[]=>a8 _|x::l=>by
  have H:=ug c z J l;have e:cU c z (x::l)=_++cU c z l:=rfl;simp only[e,bQ,eH];split;·exact b7 [lE Y0 6,lE Y1 (.m 6 Y2)] (lE (Y0+Y1) (.m 6 (Y2+1))) rfl J H
  ·exact aT [lE Y0 (.m 6 Y1)] (lE (1+Y0) (.m 6 (Y1+1))) rfl H
theorem aIg(v:Str)(h:v.length<=100):(iC v).length<=4665600:=by refine aE (ug _ _ (dh rfl) _) (aE (dT 6 (ug _ _ (dh rfl) _)) ?_);refine aE (dT 6 (dT 6 (ug _ _ (dh rfl) _))) (aE (dT 6 (dT 6 (dT 6 (ug _ _ (dh rfl) _)))) ?_);refine aE (dT 6 (dT 6 (dT 6 (dT 6 (ug _ _ (dh rfl) _))))) (aE (dT 6 (dT 6 (dT 6 (dT 6 (dT 6 (ug _ _ (dh rfl) _)))))) ?_);exact aE (dT 6 (dT 6 (dT 6 (dT 6 (dT 6 (dT 6 h)))))) (dh rfl)
theorem aIh(w:aj)(C L m:Nat)(k v:Str)(Y J:ab)(sz tk:Nat)(H:Xs):Ends [0] (Ry w C L m k v Y J [0,1,0,2] (valOf nr[3]?) (Rx v J λ_=> .nil) sz tk H) (.ok (.str (iC v) (H 0 2)),[(C,D9 w k Y v J m)].map some,H 0 0,H 0 1):=by kernel_rfl
structure aIi(k:KX)(w:aj)(aQ:aw):Prop where
 ok:k.Ok w
 X:aK w aQ
 st:∀b o,k.aa.get? b=some o->aQ.get? b=some o
 ns:∃m,aQ.Ns k.L m
 L:k.aa.objs.size<=k.L
 n:k.dp+3< bk
 U:k.un+123< dP
section
variable {k:KX}{C m:Nat}{p:FT}
theorem yj{led:List (af×aq)}(S:ay True aQ ak led s):ay True aQ ak led { s with toks:=tk }:=⟨S.h,S.os,S.gens,S.same⟩
theorem aIj{Q:ag->am->Prop}(f:aIi k w aQ)(SR:ay True aQ ak [(C,p.c w m)] s)(Y:p.k.length<=100)(hv:p.v.length<=100)(h:∀s' t,ay True aQ ak [(C,p.c w m)] s'->Q (.str (fJ p) t) s'):aG (av w) k.bE (fx yi (AV k.L C)) Q E s:=by
 have Z:=aIg p.v hv;have e0:(" ":Str).length=1:=by decide+kernel
 have e1:("=\"":Str).length=2:=by decide+kernel
 have e2:("\"":Str).length=1:=by decide+kernel
 have e3:(pF:Str).length=0:=by decide+kernel
 have z1:(pF++(" ":Str)).length=1:=by rw[mW,e3,e0]
 have z2:(pF++(" ":Str)++p.k).length=1+p.k.length:=by rw[mW,z1]
 have z3:(pF++(" ":Str)++p.k++("=\"":Str)).length=1+p.k.length+2:=by rw[mW,z2,e1]
 have z4:(pF++(" ":Str)++p.k++("=\"":Str)++iC p.v).length=1+p.k.length+2+(iC p.v).length:=by rw[mW,z3]
 have z5:(fJ p).length=1+p.k.length+2+(iC p.v).length+1:=by rw[mW,z4,e2]
 have H:gz=16777216:=nO;have z6:(fJ p).length<=16777216:=by rw[z5];exact aT [lE Y0 100,lE Y1 4665600] (lE (1+Y0+2+Y1+1) 16777216) rfl Y Z
 rw[aId];refine JoinedStr_many (Gn ?_);refine Yl ⟨by rw[z1,H];decide,?_⟩;refine Gn (aU8 ?_);refine wp_run (yj SR) f.X rfl 0 3 300 [1] [0] .nil (λ_=>True.intro) nofun (fr:=none) (U:=k.un+3) (a8 _) (by decide) (λ_=> .str p.k p.kt) (λ_=>[(C,p.c w m)]) _ _ (λJ=>aIe w C k.L m p.k p.v p.kt p.vt _ _ J) λJ s2 S2 _ _ _=>?_
 refine aU9 (λt2 DN=>⟨by rw[z2,H];exact bu [lE Y0 100] (lE (1+Y0) 16777216) rfl Y,?_⟩) (H▸aE Y (by decide));refine Gn ?_;refine Yl ⟨by rw[z3,H];exact bu [lE Y0 100] (lE (1+Y0+2) 16777216) rfl Y,?_⟩;refine Gn (aU8 ?_);refine wp_run (yj (tk:=_) (yj (tk:=DN) S2)) f.X rfl 0 3 300 [0,1,0,2] [0] (Rx p.v p.vt λ_=> .nil) (λ_=>⟨rfl,bN,?_,λ_ _ _=>True.intro⟩) nofun (fr:=none) (U:=k.un+3) (a8 _) (by decide) (λJ=> .str (iC p.v) (J 0 2)) (λ_=>[(C,p.c w m)]) _ _ (λJ=>aIh w C k.L m p.k p.v p.kt p.vt _ _ J) λJ J S3 _ _ _=>?_
 ·have J:=f.U;exact Q8 true f.X (f.ok.T.nolimit.keeps f.st) rfl (aE (yW (by decide) _) (cR f.n)) p.v hv p.vt
 refine aU9 (λJ J=>⟨by rw[z4,H];exact aT [lE Y0 100,lE Y1 4665600] (lE (1+Y0+2+Y1) 16777216) rfl Y Z,?_⟩) (H▸aE Z (by decide));refine Gn ?_;show aG _ _ (mkText "\"") _ _ _;refine Yl ⟨by rw[H];exact z6,?_⟩;refine joinParts_nil ?_ ?_;·exact h _ _ (yj (tk:=_) (yj (tk:=_) (yj (tk:=J) S3)))
 ·rw[H];exact z6
end
def RC(e:cY):List PySem.Expr:=eE e
def RD(e:cY):Nat:=eK e
def Ea(e:cY):Pos:=nc (e.pos)
def RE:PySem.Expr:=xE uf 2
theorem aIk:uf= .ListComp yi [⟨.Tuple (RC rr) (RD rr) (Ea rr),RE,[],0⟩] Jl (Ea uf):=by kernel_rfl
theorem aIl{a:List ag}(h:SV a ks)(x:Str)(t:ab):SV (a++[.str x t]) (ks++[x]):=by
 induction h with
 |nil=>exact .cons .nil|cons _ ih=>exact .cons ih
abbrev Jo(I H D C Y:Nat)(J:List FT):List (af×aq):=[(C,mF),(I,cV H 0),(D,aA [] 0),(H,aA (J.map λp=>aN p.a) Y)]
def RF(w:aj)(I J D C Y:Nat)(H:List FT)(z:FT):(Nat->Nat)->Out:=λx=>⟨.ok .next,[(C,z.c w (x 2)),(I,jU H.length),(D,listOf (cE ((H.map fJ).mapIdx λi s=>ag.str s (x (i+3)))) H.length),(J,listOf (H.map λp=>aN p.a).toArray Y)],[],x 0,x 1⟩
theorem RG:(∀(w:aj)(C I D a l i:Nat)(H Y:aq)(sz tk:Nat)(J:Xs),Ends [0,1,2] ((aI w 0 0 none 300).S [] J ⟨[(C,H),(I,cV l i),(D,Y)],sz,tk,[2], .nil⟩ (su rr (.ref I) (.ref a)) fin) (.ok (),[(C,H),(I,cV l i),(D,Y)].map some,sz,tk))/\(∀(w:aj)(C I D:Nat)(H Y:aq)(vs:List ag)(e:Nat)(v:ag)(sz tk:Nat)(J:Xs),Ends [0,1,2] ((aI w 0 0 none 300).S [] J ⟨[(C,H),(I,Y),(D,aA vs e)],sz,tk,[2],ik 2 D vs e v λ_=> .nil⟩ (call (.builtin "list.append") [.ref D,v]) fin) (.ok .none,[(C,H),(I,Y),(D,aA (vs++[v]) (e+1))].map some,J 0 0,J 0 1)):=by and_intros<;>intros<;>kernel_rfl
theorem aIm{k:KX}(st:∀b o,k.aa.get? b=some o->ar.get? b=some o)(ok:k.Ok w)(X:aK w ar)(hL:k.aa.objs.size<=k.L)(hn:k.dp+3< bk)(hU:U+123< dP)(H:List FT)(z:FT)(hz:H.getLast?=some z)(ht:∀p∈H,ar.get? p.a=some p.o)(h0:∀p∈H,k.aa.get? p.a=none)(hk:∀p∈H,p.k.length<=100/\p.v.length<=100)(hlen:H.length<=100)(I Y D C ae:Nat):Told True (av w) k.bE U (some k.L) ar (Jm k.L I D C) (Jo I Y D C ae H) (RF w I Y D C ae H z):=by
 intro u s ak R hu SR jo hR;obtain⟨⟨m,hm⟩,cA⟩:=jo k.L rfl;let k':={ k with un:=u }
 have D3:ay True ar ak ([(C,mF),_,_]++[(Y,aA (H.map λp=>aN p.a) ae)]) s:=SR;refine cI (kF D3) λS bZ aZ=>?_;have RH:=bZ _ az;generalize Jp:gZ s.heap _=aQ at S RH aZ;have ng:∃m,aQ.Ns k.L m:=by refine mX hm λoL es ep hl r=>⟨m,oL,es,ep,Jp▸kd _ hl λhq=>?_,r⟩;obtain⟨p,J,e⟩:=bq.mp hq;exact cA p (bL [_] J) e
 have aIn:∀b o,s.heap.get? b=some o->(∀p∈Jo I Y D C ae H,p.1≠b)->aQ.get? b=some o:=λb o e nb=>Jp▸kd _ e λhq=>by obtain⟨p,J,e⟩:=bq.mp hq;exact nb p (bL [_] J) e
 have hCI:Y≠I:=λq=>by have nd:=SR.h.nd;simp only[iJ,wT,ci,a9,bi,or_false,not_or]at nd;exact nd.2.1.2 q.symm
 have X2:aK w aQ:=λa o e=>aZ _ _ (X a o e);have lG:∀s1 c out,SV out (H.map fJ)->(∃m,c=z.c w m)->ay True aQ ak [(C,c),(I,jU H.length),(D,aA out H.length)] s1->R (.ok .next) s1:=by rintro s1 c out sv ⟨mm,rfl⟩ S1;obtain⟨g,rfl⟩:=Qr sv;have SB:=q6 D3 (Jp▸S1);exact hR (λi=>match i with|0=>s1.heap.objs.size|1=>s1.toks|2=>mm|i+3=>g i) s1 rfl rfl rfl (λp J=>absurd J bi) SB λb o e nb=>S1.h.keep _ _ (aIn b o e nb)
 have loop:eC (av w) k'.bE (.compLoop (.ListComp yi [⟨.Tuple (RC rr) (RD rr) (Ea rr),RE,[],0⟩] Jl (Ea uf)) 0 (.ref I) (.ref D) (AV k.L C)) R s:=by
  refine LCp.codeAny_compLoop_pair (λn s'=>∃i c out,n=H.length+1 - i/\i<=H.length/\SV out ((H.take i).map fJ)/\ay True aQ ak [(C,c),(I,cV Y i),(D,aA out i)] s'/\((i=0/\c=mF)\/∃q m,i≠0/\H[i - 1]?=some q/\c=q.c w m)) ?_ _
   ⟨0,mF,[],rfl,fZ _, .nil,S, .inl ⟨rfl,rfl⟩⟩;rintro n s' ⟨i,c,out,rfl,hi,sv,S',hc⟩;have RI:=S'.h.keep _ _ RH;by_cases bp:i< H.length
  ·have J:=gD bp;generalize oz:H[i]=p at J;have lD:=oz▸uW bp;refine d7 (hk p lD) λoF oO=>Jj (S'.h.at_ _ (aB az)) RI (by rw[dL,J];rfl) λh' e sb=>?_;refine wp_run (q7 (pre:=[(C,c)]) S' e sb.extBut) X2 rfl 0 0 300 [2] [0,1,2] .nil (λj=>True.intro) nofun (a8 _) (by decide) _ _ _ _ (λσ=>RG.1 ..) λj s2 S2 j j j=>?_
   have B:=aIf S2 (aZ _ _ (ht p lD));have asg:∀(Q:Unit->am->Prop)(E:ag->am->Prop),(∀m Z,ay True aQ ak [(C,p.c w m),(I,cV Y (i+1)),(D,aA out i)] Z->Q () Z)->aG _ k'.bE _ Q E s2:=λQ E hq=>by
    have XB:(K w.params).In (gZ s2.heap [C,p.a]):=λa o e=>by
     have e2:=X2 a o e;refine kd _ (S2.h.keep _ _ e2) λhm=>?_;rcases a9.mp hm with q|hm
     ·have:=S2.h.off _ az;simp only[<-q,e2]at this;injection this
     ·have z0:=ok.X a o e;simp only[bI.mp hm,h0 p lD]at z0;injection z0
    rcases hc with ⟨v,rfl⟩|⟨q,m,v,v,rfl⟩
    ·exact wp_run B XB rfl 0 0 300 _ [3,4] .nil (λj=>True.intro) nofun (a8 _) (by decide) _ _ _ _ (λσ=>RB.1 w C k.L ..) λj Z S3 j j j=>hq _ Z (Rz S2 (aZ _ _ (ht p lD)) rfl S3)
    ·exact wp_run B XB rfl 0 0 300 _ [3,4] .nil (λj=>True.intro) nofun (a8 _) (by decide) _ _ _ _ (λσ=>RB.2.1 ..) λj Z S3 j j j=>hq _ Z (Rz S2 (aZ _ _ (ht p lD)) rfl S3)
   refine asg _ _ λm Z S3=>?_;have RJ:ay True aQ ak ([(C,p.c w m)]++[(I,cV Y _),_]) Z:=S3;refine cI (kF RJ) λS4 v Z=>?_;refine aIj (⟨(⟨ok.B,ok.X,ok.T,ok.C⟩),λa o e=>Z _ _ (X2 a o e),λb o e=>Z _ _ (aZ _ _ (st b o e)),(M8 ng λm oL es ep hl r=>⟨m,oL,es,ep,Z _ _ hl,r⟩),hL,hn,b7 [lL (Y2+123) Y1,lE Y0 Y2] (lL (Y0+123) Y1) rfl hU hu⟩) S4 oF oO λZ t Z=>wp_run (q6 RJ Z) X2 rfl 0 0 300 [2] [0,1,2] (ik 2 D out i _ λj=> .nil) (λj=>lr (rR (sv.len ..) (rR (dA ..) (rR (w4 ..) (b7 [lE Y1 100,lE Y2 Y1,eQ Y0 Y2] (lE Y0 1000) rfl hlen hi (r5 (hi)))))) λj j=>True.intro) nofun (a8 _) (by decide) _ _ _ _ (λσ=>RG.2 ..) λj Z S7 j j j=>⟨H.length+1 - (i+1),lq [eQ (Y0+(Y2+1)) (Y3+1),eQ (Y1+Y2) (Y3+1)] (lL Y0 Y1) [1,-1] 1 rfl (bX (sj hi)) (bX (Xb hi)),i+1,_,_,rfl,bp,?_,S7, .inr ⟨p,m,Nat.succ_ne_zero _,J,rfl⟩⟩
   simp only[Go,J,bM];exact aIl sv _ _
  ·obtain rfl:i=H.length:=c8 hi (dw.mp bp);refine Jk rfl (S'.h.at_ _ (aB az)) RI (by rw[dL,uT (a8 _)];rfl) λh' e sb=>?_;refine lG _ c out (by rw[B5]at sv;exact sv) ?_ (q7 (pre:=[(C,c)]) S' e sb);rcases hc with ⟨h0,v⟩|⟨q,m,h0,hq,rfl⟩
   ·replace hz:=(XZ.mp h0)▸hz;injection hz
   ·replace hz:=hq▸((aSg)▸hz)
    cases hz;exact⟨m,rfl⟩
 unfold Jm;exact aIk▸aVa loop ((aTo rfl I Y hCI _).self 0 _ _ _ ⟨⟨_,SR.h.at_ _ (aB az),rfl,rfl⟩,⟨_,SR.h.at_ _ (aB (aB (aB az))),rfl,_,rfl⟩⟩ loop)
theorem Jr(a:AT):(a.es.map (·.k)).Nodup:=by simp only[qH];decide+kernel
theorem aIo(hA:A.handled=none){h:aw}(X:aK w h){G:TG}{a:AT}{pe ae:Nat}{tag:Str}{q:SQ}{Q:Q5}{H:List DE}{Z:List ag}{R:List (af×aq)}(SR:ay True h ak (Jg w G a ta tag t q Q H pe Z ae++R) s)(J:(H.map (·.k)).Nodup)(v0:g6 (fY H) ⟨#[99]⟩=some (.ref (Q.a 0)))(v1:g6 (fY H) ⟨#[104]⟩=some (.ref (Q.a 1)))(v2:g6 (fY H) ⟨#[108]⟩=some (.ref (Q.a 2)))(v3:g6 (fY H) ⟨#[110]⟩=some (.ref (Q.a 3)))(v4:g6 (fY H) ⟨#[115]⟩=some (.ref (Q.a 4)))(Y:Z.length<=900)(yh:(a.at_==ic)=false){Q':dk->am->Prop}(hQ:∀s' x y z m,ay True h ak (Jh w G a ta tag t q Q H pe Z ae x y z m++R) s'->ij s.heap s'.heap->Q' .next s'):aG (av w) A (aV ((fB.drop 8).take 1) (jS q.L)) Q' E s:=by
 refine cI (kF SR) λS v H=>?_;have X3:aK w _:=λb o e=>H _ _ (X b o e);refine wp_run S X3 hA 0 0 500 Ro [30,23,16,9,2,45,46,47,48,49,50,51,52,53] _ (λj=>?_) nofun (U:=A.units) (a8 _) (by decide) _ _ _ _ (λH=>aIb ..) λH s' S' j j G'=>?_
 ·refine aGv (Jr a) yh rfl (by decide) λj j=>aGr (Jr a) yh λH j=>⟨rfl,by decide,aGp X3 hA a _,λit j j=>?_⟩;refine xV J v0 λH j=>lr (aE Y (by decide)) λj j=>xV J v1 λH j=>lr (rR bQ (bu [lE Y0 900] (lE (Y0+1) 1000) rfl Y)) λj j=>xV J v2 λH j=>lr (by simp only[bQ,MT];exact bu [lE Y0 900] (lE (Y0+1+1) 1000) rfl Y) λj j=>xV J v3 λH j=>lr (by simp only[bQ,MT];exact bu [lE Y0 900] (lE (Y0+1+1+1) 1000) rfl Y) λj j=>xV J v4 λH j=>lr (by simp only[bQ,MT];exact bu [lE Y0 900] (lE (Y0+1+1+1+1) 1000) rfl Y) λj j=>True.intro
 ·exact hQ s' _ _ _ _ (q6 SR S') G'.live
structure yk where
 qt:Nat
 z:Str
 y:Str
 x:Str
 t0:ab
 t1:ab
 t2:ab
 f1:Nat
 f2:Nat
 f3:Nat
abbrev Jt(w:aj)(G:TG)(a:AT)(S:SX)(ta:Nat)(tag:Str)(t:ab)(q:SQ)(Q:Q5)(r:yk)(H:List DE)(Z:Nat)(Y:List ag)(J:Nat):List (af×aq):=[(q.PD,cD w H Z),(r.qt,tR r.z r.y r.x r.t0 r.t1 r.t2),(q.AL,listOf Y.toArray J),(a.at_,cD w a.es a.ep),(G.ps,listOf (S.cv++[dX false]).toArray S.dC),(S.wm,fX S.wl),(S.wl,listOf S.wv.toArray S.we),(G.td,fk w (.ref S.wm) G.b G.rs G.rn G.dl G.ds G.ns G.pm G.ps G.ti G.ep G.kt),(G.tg,dW 150 G.td),(G.ns,listOf (G.aL.map λl=>aN l.a).toArray G.ei),(q.L+1+1,nj (some (.ref q.cm))),(q.L+1,nj (some (.ref G.tg))),(q.L,tW w a.at_ ta tag t q.tk (q.es w++Rp w a Q r.f1 r.f2 r.f3) 14)]
abbrev RK:Str:=nc ("{http://www.w3.org/XML/1998/namespace}space")
abbrev RL(i D:Nat)(vs:List ag)(e:Nat)(t:ab)(J:Str)(next:aM):aF:= .cons (some 0) (bC "str.join" [.str "" t, .ref D]) [i] [(D,aA vs e)] (λx=>⟨.ok (.ret (.str J (x 2))),[(D,aA vs e)],[],x 0,x 1⟩) next
abbrev fcO(ix:List Nat)(w:aj)(L I H D C Y:Nat)(J:List FT)(z:FT)(next:aM):aF:= .cons none (Jm L I D C) ix (Jo I H D C Y J) (RF w I H D C Y J z) next
abbrev RM(H:List FT)(x:Nat->Nat):List Value:=(H.map fJ).mapIdx λi s=>ag.str s (x (i+3))
def RN:List Nat:=(dN 164 0x135ad6ac0c6000060000031eb5ac0c0000c0300060000031f01294a481301294a48122084210844100c1f18dad10c6d11ce7300c20080200842104216b5ad6a009480004800002582008a528008025200012000009634a5295004a400024000012c6b4442108d)
def aIp(w:aj)(G:TG)(a:AT)(S:SX)(H ae n tb:Nat)(tag:Str)(t:ab)(q:SQ)(r:yk)(Z:List DE)(Y:List FT)(z:FT)(J:Str):aF:=QD 3 w a.at_ a.es a.ep RK tb .none λd=>xY 4 G.ps S.cv (.bool false) S.dC (d 1+1+4) λl=>ik 4 G.ps (S.cv++[dX false]) S.dC (.bool false) λp=>
  vZ 0 w q.PD Z H tag t (.ref r.qt) λi=>cP "<" r.z ("<"++r.z) (p 1+2) r.t0 λZ=>rk 6 S.wl S.wv S.we (.str ("<"++r.z) (Z 2)) λH=>vm 2 q.AL (Y.map λp=>aN p.a) ae (n+1) λH=>fcO [0,2,1,5] w q.L (H 0) q.AL (H 0+1) (H 0+2) ae Y z λf=>RL 1 (H 0+1) (RM Y f) Y.length (H 1) J λj=>
  rk 9 S.wl (S.wv++[.str ("<"++r.z) (Z 2)]) (S.we+1) (.str J (j 2)) λH=>rk 9 S.wl (S.wv++[.str ("<"++r.z) (Z 2)]++[.str J (j 2)]) (S.we+2) (.str ">" (H 1)) λH=>ik 13 G.ns (G.aL.map λl=>aN l.a) G.ei (.ref (H 0)) λn=> .nil
def aIq(w:aj)(G:TG)(a:AT)(S:SX)(ta H Z n:Nat)(tag:Str)(t:ab)(q:SQ)(Q:Q5)(r:yk)(pd:List DE)(Y:List FT)(z:FT)(J:Str)(sz tb:Nat)(σ:Xs):=(aI w 0 0 (some q.L) 500).S [] σ ⟨Jt w G a S ta tag t q Q r pd H (Y.map λp=>aN p.a) Z,sz,tb,RN,aIp w G a S H Z n tb tag t q r pd Y z J⟩ (aV (fB.drop 9) (jS q.L)) fin
abbrev Eb(w:aj)(G:TG)(a:AT)(S:SX)(z J:Str)(t1 t2 Y H:Nat):List (af×aq):=[(H,aA [] 0),(a.at_,cD w a.es a.ep),(G.ps,aA (S.cv++[dX false]++[dX false]) (S.dC+1)),(S.wm,fX S.wl),(S.wl,aA (S.wv++[ag.str ("<"++z) t1]++[ag.str J t2]++[ag.str ">" Y]) (S.we+3)),(G.td,fk w (.ref S.wm) G.b true G.rn G.dl G.ds G.ns G.pm G.ps G.ti G.ep G.kt),(G.tg,dW 150 G.td),(G.ns,aA ((G.aL.map λl=>aN l.a)++[aN H]) (G.ei+1))]
theorem aIr(w:aj)(G:TG)(a:AT)(S:SX)(ta Y ae n:Nat)(tag:Str)(t:ab)(q:SQ)(Q:Q5)(r:yk)(pd:List DE)(Z:List FT)(z:FT)(J:Str)(sz tb:Nat)(H:Xs):Ends [0,7,8,9,10,11,12,13] (aIq w G a S ta Y ae n tag t q Q r pd Z z J sz tb H) (.ok .next,(Eb w G a S r.z J (H 4 2) (H 8 2) (H 9 1) (H 10 0)).map some,H 11 0,H 11 1):=by kernel_rfl
section
variable {h:aw}
theorem RO{i:Nat}{l:af}{y:ag}{e:Nat}{next:aM}(k:∀x lv,(next x).Ok ao (av w) A U fr h lv):(xY i l vs y e t next).Ok ao (av w) A U fr h lv:=nX (λH z z=>AG l vs y e t) λx z z=>k x _
theorem AX{i:Nat}{l:af}{e:Nat}{next:aM}(H:vs.length=k)(J:k<=1001)(c:∀x lv,(next x).Ok ao (av w) A U fr h lv):(vm i l vs e k next).Ok ao (av w) A U fr h lv:=nX (λY z z=>NI l vs e k H J) λx z z=>c x _
theorem aIs(l:List Str)(f:Nat->Nat):(l.mapIdx λi s=>(s,f (i+3))).map (·.1)=l:=by apply jG;intro i;refine rR (dL) (rR (gA) ?_);induction l[i]?<;>rfl
theorem aIt(l:List Str)(f:Nat->Nat):(l.mapIdx λi s=>ag.str s (f (i+3)))=pI (l.mapIdx λi s=>(s,f (i+3))):=by apply jG;intro i;unfold pI;simp only[dL,gA,gA];induction l[i]?<;>rfl
open PySem.Builtin.Str in
noncomputable def Ec(l:List Str):Bool:=tooLong (l.toArray.foldl (· +·.length+("":Str).length) 0)
open PySem.Builtin.Str in
noncomputable def mG(l:List Str):Str:=glued "" l
theorem aIu{i D:Nat}{H:List FT}{f:Nat->Nat}{e:Nat}{next:aM}(h2:2<=H.length)(Z:Ec (H.map fJ)=false)(hz:(mG (H.map fJ)).length<=gz)(c:∀x lv,(next x).Ok ao (av w) A U fr h lv):(RL i D (RM H f) e t (mG (H.map fJ)) next).Ok ao (av w) A U fr h lv:=by
 refine nX (λY z z=>?_) λx z z=>c x _;have J:=aIs (H.map fJ) f;have j:=Jc (ao:=ao) (w:=w) (A:=Y) (U:=Y.units) (fr:=none) (aa:=h) (D:=D) (e:=e) (t:=t) (rR (Gp ..) (rR (dA ..) h2)) (J▸Z) (by exact rR J hz);replace j:=aIt .. ▸(J .. ▸j)
 exact j
end
theorem no_space(a:AT):(g6 (fY a.es) RK).getD .none= .none:=by kernel_rfl
structure Ed(ps:List FT)(n:Nat)(z:FT):Prop where
 len:ps.length=n+1
 n1:1<=n
 n9:n<=9
 last:ps.getLast?=some z
 sz:∀p∈ps,p.k.length<=100/\p.v.length<=100
 tl:Ec (ps.map fJ)=false
 gl:(mG (ps.map fJ)).length<=gz
theorem aIv{k:KX}(ok:k.Ok w){h:aw}(X:aK w h)(RP:∀b o,k.aa.get? b=some o->h.get? b=some o)(hL:k.aa.objs.size<=k.L)(hn:k.dp+3< bk)(hU:k.un+123< dP){G:TG}{a:AT}{S:SX}{pe ae:Nat}{tag:Str}{q:SQ}{Q:Q5}{r:yk}{Y:List DE}{H:List FT}{z:FT}{R:List (af×aq)}(hq:q.L=k.L)(SR:ay True h ak (Jt w G a S ta tag t q Q r Y pe (H.map λp=>aN p.a) ae++R) s)(nd:(Y.map (·.k)).Nodup)(vt:g6 (fY Y) tag=some (.ref r.qt))(yh:(a.at_==ic)=false)(J:Ed H n z)(hR:∀p∈H,(p.a,p.o)∈R)(oO:S.cv.length<=900)(Z:S.wv.length<=900)(rt:G.aL.length<=900)(hrz:r.z.length<=100){Q':dk->am->Prop}(hQ:∀s' t1 t2 t3 nl,ay True h ak (Eb w G a S r.z (mG (H.map fJ)) t1 t2 t3 nl++R) s'->ij s.heap s'.heap->Q' .next s'):aG (av w) k.bE (aV (fB.drop 9) (jS q.L)) Q' E s:=by
 refine cI (kF SR) λS1 bZ st=>?_;have X3:aK w _:=λb o e=>st _ _ (X b o e);have hn0:∀p∈H,k.aa.get? p.a=none:=λp iL=>by
  induction e:k.aa.get? p.a with
  |none=>rfl|some o=>have:=SR.h.off _ (bD _ (hR p iL));replace this:=(RP _ _ e)▸this;injection this
 have lz:("<":Str).length=1:=by decide+kernel
 have hs:=nO;have hl:=J.len;have RQ:=J.n9;refine wp_run S1 X3 rfl 0 0 500 RN [0,7,8,9,10,11,12,13] _ (λv=>?_) nofun (U:=k.un) (a8 _) (by decide) _ (λσ=>Eb w G a S r.z (mG (H.map fJ)) ..) _ _ (λσ=>aIr w G a S ta pe ae n tag t q Q r Y H z _ _ _ σ) λσ s' S' v v G'=>?_
 ·refine aGt (Jr a) yh (no_space a) λd v=>RO λl v=>lr (rR bQ (bu [lE Y0 900] (lE (Y0+1) 1000) rfl oO)) λp v=>xV nd vt λi v=>nZ rfl (by omega) λY v=>v7 (bu [lE Y0 900] (lE Y0 1000) rfl Z) λY v=>AX (rR (dA ..) (rR (hl ..) rfl)) (iH RQ (by decide)) λY v=>⟨rfl,by decide,?_,λf v v=>?_⟩;·exact rR hq (aIm (λb o e=>st b o (RP b o e)) ok X3 hL hn hU H z J.last (λp iL=>bZ (p.a,p.o) (hR p iL)) hn0 J.sz (aT [eQ Y0 (Y1+1),lE Y1 9] (lE Y0 100) rfl hl RQ) _ _ _ _ _)
  ·exact aIu (fz [eQ Y0 (Y1+1),lE 1 Y1] (lE 2 Y0) [-1,1] 1 rfl hl J.n1) J.tl J.gl λj v=>v7 (rR bQ (bu [lE Y0 900] (lE (Y0+1) 1000) rfl Z)) λH v=>v7 (by simp only[bQ,MT];exact bu [lE Y0 900] (lE (Y0+1+1) 1000) rfl Z) λH v=>lr (rR (dA ..) (bu [lE Y0 900] (lE Y0 1000) rfl rt)) λv v=>True.intro
 ·exact hQ s' _ _ _ _ (q6 SR S') G'.live
def ru:FuncData:=match u8.1.data with
 | .func f=>f|_=>default
abbrev stQ:Str:=nc ("C14NWriterTarget._start")
def Ee:Scope:=nc (ru.scope)
theorem aIw(w:aj):(K w.params).lookup 126=some ⟨u8.1.cls,u8.1.dict, .func ru,u8.1.slots⟩:=by kernel_rfl
abbrev RR(G:TG)(a:AT)(ta:Nat)(tag:Str)(t:ab):List (Str×ag):=nc ([("self", .ref G.tg),("tag", .str tag t),("attrs", .ref a.at_),("new_namespaces", .ref ta),("qname_text", .none)])
abbrev fS(k v:Str):Str:=pF++" "++k++"=\""++iC v++"\""
def nt(a:AT):List Str:=[fS ⟨#[99]⟩ a.c,fS ⟨#[104]⟩ a.h,fS ⟨#[108]⟩ a.l,fS ⟨#[110]⟩ a.n,fS ⟨#[115]⟩ a.s]
abbrev rx(x:Nat):Str:=nc (("xmlns:":Str)++(⟨#[x]⟩:Str))
def wc(κ x:Nat)(a:AT):List Str:=match κ with
 |2=>fS (rx x) (bv x)::nt a|_=>nt a
def zS(κ x:Nat):Str:=match κ with
 |0=>cS|_=>iv x
def wf(a:AT)(Q:Q5)(x:_root_.Fin 5->Nat):List FT:=nc ([⟨x 0,⟨#[99]⟩,Q.u 0,a.c,a.tc⟩,⟨x 1,⟨#[104]⟩,Q.u 1,a.h,a.th⟩,⟨x 2,⟨#[108]⟩,Q.u 2,a.l,a.tl⟩,⟨x 3,⟨#[110]⟩,Q.u 3,a.n,a.tn⟩,⟨x 4,⟨#[115]⟩,Q.u 4,a.s,a.ts⟩])
structure qi(a:AT):Prop where
 sys:(a.at_==ic)=false
 n:a.n.length<=30
 c:a.c.length<=30
 s:a.s.length<=30
 l:a.l.length<=30
 h:a.h.length<=30
theorem aIx:fB.drop 2=(fB.drop 2).take 6++((fB.drop 8).take 1++fB.drop 9):=by kernel_rfl
theorem aIy(v:Str)(h:v.length<=30):(iC v).length<=1399680:=by show(cE _).size<=_;have f:∀_(z:Str),z.cps.toList.length<=6->∀{l:List Nat}{n:Nat},l.length<=n->(cU ..).length<=6*n:=λc z J l n H=>aE (ug c _ J l) ((λh=>dT 6 h) H);exact aE (f 13 _ (dh rfl) (f 10 _ (dh rfl) (f 9 _ (dh rfl) (f 34 _ (dh rfl) (f 60 _ (dh rfl) (f 38 _ (dh rfl) h)))))) (dh rfl)
theorem yl(k v:Str)(H:k.length<=30)(hv:v.length<=30):(fS k v).length<=1400000:=by
 have J:(" ":Str).length=1:=by decide+kernel
 have Y:("=\"":Str).length=2:=by decide+kernel
 have e2:("\"":Str).length=1:=by decide+kernel
 have Z:(pF:Str).length=0:=by decide+kernel
 simp only[mW,mW,mW,mW,mW,J,Y,e2,Z];exact aT [lE Y0 30,lE Y1 1399680] (lE (0+1+Y0+2+Y1+1) 1400000) rfl H (aIy v hv)
theorem Ju(B:Nat):∀(l:List Str)(H:Nat),(∀s∈l,s.length<=B)->l.foldl (λa s=>a+s.length+("":Str).length) H<=H+l.length*B
 |[],H,_=>by simp
 |s::l,H,h=>by
  have e:("":Str).length=0:=by decide+kernel
  simp only[Gq,eH,aVb,FM];exact nB [_,_,_,_,_] [lE Y0 (Y1+Y4+0+Y2),lE Y4 Y3] (lE Y0 (Y1+(Y2+Y3))) rfl (Ju B l _ λx H=>h x (aB H)) (h s az)
theorem Ef(B:Nat):∀(l:List Str),(∀s∈l,s.length<=B)->(l.map (·.length)).sum<=l.length*B
 |[],_=>by simp
 |s::l,h=>by simp only[iJ,aVc,eH,aVb,FM];exact qN [lE Y1 Y2,lE Y0 Y3] (lE (Y0+Y1) (Y2+Y3)) rfl (Ef B l λx H=>h x (aB H)) (h s az)
theorem RS{l:List Str}(H:l.length<=6)(h:∀s∈l,s.length<=1400000):Ec l=false/\(mG l).length<=sizeLine:=by
 have H:=nO;constructor
 ·unfold Ec sA;have:=Ju 1400000 l 0 h;exact rR (Ym ..) (decide_eq_false (by omega))
 ·unfold mG;have e:("":Str).length=0:=by decide+kernel
  have:=Ef 1400000 l h;refine rR (Gr ..) (rR e ?_);omega
theorem Jw{a:AT}(h:qi a):∀s∈nt a,s.length<=1400000:=λs hs=>by
 have H:∀y:Nat,(⟨#[y]⟩:Str).length<=30:=λy=>by show 1<=30;decide
 rcases a9.mp hs with rfl|hs
 ·exact yl _ _ (H _) h.c
 rcases a9.mp hs with rfl|hs
 ·exact yl _ _ (H _) h.h
 rcases a9.mp hs with rfl|hs
 ·exact yl _ _ (H _) h.l
 rcases a9.mp hs with rfl|hs
 ·exact yl _ _ (H _) h.n
 exact bI.mp hs▸yl _ _ (H _) h.s
theorem RU(x:Nat):(rx x).length<=30:=by
 rw[mW];have e:("xmlns:":Str).length=6:=by decide+kernel
 show 6+1<=30;decide
theorem aIz{a:AT}(h:qi a)(κ x:Nat):∀s∈wc κ x a,s.length<=1400000:=λs hs=>by
 unfold wc at hs;split at hs
 ·rcases a9.mp hs with rfl|hs
  ·exact yl _ _ (RU x) (by show 5<=30;decide)
  ·exact Jw h s hs
 ·exact Jw h s hs
theorem Eg{a:AT}(h:qi a)(Q:Q5)(x:_root_.Fin 5->Nat):Ed (wf a Q x) 4 ⟨x 4,⟨#[115]⟩,Q.u 4,a.s,a.ts⟩:=by
 have e:(wf a Q x).map fJ=nt a:=rfl;have j:=RS (dh rfl) (Jw h);have H:∀y:Nat,(⟨#[y]⟩:Str).length<=100:=λy=>by show 1<=100;decide
 refine⟨rfl,by decide,by decide,rfl,λp hp=>?_,e▸j.1,e▸j.2⟩;rcases a9.mp hp with rfl|hp
 ·exact⟨H _,aE h.c (by decide)⟩
 rcases a9.mp hp with rfl|hp
 ·exact⟨H _,aE h.h (by decide)⟩
 rcases a9.mp hp with rfl|hp
 ·exact⟨H _,aE h.l (by decide)⟩
 rcases a9.mp hp with rfl|hp
 ·exact⟨H _,aE h.n (by decide)⟩
 exact bI.mp hp▸⟨H _,aE h.s (by decide)⟩
theorem RW{a:AT}(h:qi a)(Q:Q5)(x:_root_.Fin 5->Nat)(y b c d:Nat):Ed (⟨b,rx y,c,bv y,d⟩::wf a Q x) 5 ⟨x 4,⟨#[115]⟩,Q.u 4,a.s,a.ts⟩:=by
 have e:((⟨b,rx y,c,bv y,d⟩:FT)::wf a Q x).map fJ=wc 2 y a:=rfl;have j:=RS (dh rfl) (aIz h 2 y);refine⟨rfl,by decide,by decide,rfl,λp hp=>?_,e▸j.1,e▸j.2⟩;rcases a9.mp hp with rfl|hp
 ·exact⟨aE (RU y) (by decide),by show 5<=100;decide⟩
 ·exact(Eg h Q x).sz p hp
theorem aI0{a:AT}{Q:Q5}{x:_root_.Fin 5->Nat}{p:FT}(h:p∈wf a Q x):(p.a,p.o)∈yg a Q x:=by
 rcases a9.mp h with rfl|h
 ·exact az
 rcases a9.mp h with rfl|h
 ·exact aB az
 rcases a9.mp h with rfl|h
 ·exact aB (aB az)
 rcases a9.mp h with rfl|h
 ·exact aB (aB (aB az))
 exact bI.mp h▸aB (aB (aB (aB az)))
theorem Jx{x:Nat}(H:x∈dR)(t0 t1 t2 Z t4 t5 a0 a1 a2 a3 Y J:Nat):g6 (fY [⟨⟨#[99]⟩,t0, .ref a0⟩,⟨⟨#[104]⟩,t1, .ref a1⟩,⟨⟨#[108]⟩,t2, .ref a2⟩,⟨⟨#[110]⟩,Z, .ref a3⟩,⟨⟨#[115]⟩,t4, .ref Y⟩,⟨iu x,t5, .ref J⟩]) (iu x)=some (.ref J):=by unfold dR at H;simp only[a9,bi,or_false]at H;rcases H with rfl|rfl|rfl|rfl|rfl|rfl<;>kernel_rfl
theorem Jy(x:Nat):(iv x).length<=100:=by
 rw[mW,mW,mW];have H:(":":Str).length=1:=by decide+kernel
 have H:(pF:Str).length=0:=by decide+kernel
 show 0+1+1+1<=100;decide
noncomputable def bn(H:List Str)(y:Nat->Nat):List Value:=H.mapIdx λi s=>ag.str s (y (100+i))
structure ax where
 f:Option (Nat×Nat)
 c:Nat
 x:Nat
def ax.o(κ:ax):Obj:=match κ.f with
 |none=>jI #[]|some p=>iz (p.1+5)
def ax.o'(κ:ax)(y:Nat->Nat):Obj:=match κ.f with
 |none=>iz (y 6+5)|some p=>iz (p.1+5)
def ax.tag(κ:ax):Str:=match κ.c with
 |0=>cS|_=>iu κ.x
variable {tag:Str}
def ax.ws(κ:ax)(a:AT):List Str:=["<"++zS κ.c κ.x,mG (wc κ.c κ.x a),">"]
def ax.aX(κ:ax)(y:Nat->Nat):List Value:=nc (match κ.c with
 |2=>[aN (y 8)]|_=>[])
variable {aX:List ag}
def ax.lO(κ:ax):Nat:=nc (match κ.c with
 |2=>1|_=>0)
def ax.ex(κ:ax)(y:Nat->Nat):List (af×aq):=(match κ.f with
 |none=>[(y 6+5,lK (y 6) (y 7))]|some _=>[])++match κ.c with
 |2=>[(y 8,⟨.type "tuple",none, .seq #[.str (bv κ.x) (y 9), .str ⟨#[κ.x]⟩ (y 10)] 0,#[]⟩)]|_=>[]
def ax.lx(κ:ax):List (af×aq):=match κ.f with
 |none=>[]|some p=>[(p.1+5,lK p.1 p.2)]
abbrev Eh(κ:ax)(w:aj)(G:TG)(a:AT)(S:SX)(ta aP:Nat):List (af×aq):=(123,κ.o)::QZ w G a S ta aP
abbrev Ei(κ:ax)(w:aj)(G:TG)(a:AT)(S:SX)(ta aP:Nat)(y:Nat->Nat):List (af×aq):=[(123,κ.o' y),(ta,aA (κ.aX y) (aP+κ.lO)),(G.tg,dW 150 G.td),(G.td,fk w (.ref S.wm) G.b true G.rn G.dl G.ds G.ns G.pm G.ps G.ti G.ep G.kt),(G.ds,aA ((G.cT.map λl=>aN l.a)++[aN ta]) G.dep),(G.ns,aA ((G.aL.map λl=>aN l.a)++[aN (y 2)]) (G.ei+1)),(a.at_,cD w a.es a.ep),(S.wm,fX S.wl),(S.wl,aA (S.wv++bn (κ.ws a) y) (S.we+3)),(G.ps,aA (S.cv++[dX false]++[dX false]) (S.dC+1))]
def ax.V(κ:ax):Prop:=κ.c=0\/(κ.c=1/\κ.f≠none)\/κ.c=2
@[elab_as_elim] theorem nu{P:ax->Prop}{κ:ax}(h:κ.V)(a:∀x,P ⟨none,0,x⟩)(b:∀x,P ⟨none,2,x⟩)(c:∀p x,P ⟨some p,0,x⟩)(d:∀p x,P ⟨some p,1,x⟩)(e:∀p x,P ⟨some p,2,x⟩):P κ:=by
 obtain⟨f,k,x⟩:=κ;rcases h with rfl|⟨rfl,h⟩|rfl<;>cases f
 ·exact a x
 ·exact c _ x
 ·exact absurd rfl h
 ·exact d _ x
 ·exact b x
 ·exact e _ x
noncomputable def ax.q1(κ:ax)(sz:Nat):Nat:=match κ.f with
 |none=>sz+2|some p=>p.1
noncomputable def ax.q2(κ:ax)(tb:Nat):Nat:=match κ.f with
 |none=>tb+4|some p=>p.2
def ax.sk(κ:ax):List Str:=match κ.c with
 |0=>DI|_=>DH κ.x
variable {sk:List Str}
noncomputable def ax.l(κ:ax):Nat:=match κ.f with
 |none=>8|some _=>2
def ax.ix(κ:ax):List Nat:=nc (match κ.f with
 |none=>[9,0,1,8]|some _=>[3,0,5,2])
variable {ix:List Nat}
noncomputable def ax.i(κ:ax):Nat:=match κ.f with
 |none=>15|some _=>10
variable {i:Nat}
def ax.s0(κ:ax):List Nat:=nc (match κ.f with
 |none=>[3,4,5,6,7,8,9,10,11,12,0,1,2]|some _=>[3,4,5,6,7,8,9,10,11,12,13,0,1,2])
noncomputable def ax.m(κ:ax):Nat:=match κ.c with
 |0=>5|_=>6
variable {m:Int}
def ax.al(κ:ax)(H:Xs):List Value:=nc (match κ.c with
 |2=>[.ref (H 6 0+8)]|_=>[])
def ax.ae(κ:ax):Nat:=nc (match κ.c with
 |2=>3|_=>0)
def ax.ti(κ:ax)(H:Xs):List Value:=nc (match κ.c with
 |2=>[.ref (H 6 6)]|_=>[])
def ax.a2(κ:ax):Nat:=nc (match κ.c with
 |2=>3|_=>2)
noncomputable def ax.a4(κ:ax):Nat:=match κ.c with
 |2=>10|_=>4
def ax.a5(κ:ax):Nat:=nc (match κ.c with
 |2=>13|_=>3)
def ax.a6(κ:ax):Nat:=nc (match κ.c with
 |2=>11|_=>5)
def ax.pd(κ:ax)(H:Xs):List DE:=[⟨⟨#[99]⟩,H 0 4, .ref (H 1 2)⟩,⟨⟨#[104]⟩,H 0 5, .ref (H 2 2)⟩,⟨⟨#[108]⟩,H 0 6, .ref (H 3 2)⟩,⟨⟨#[110]⟩,H 0 7, .ref (H 4 2)⟩,⟨⟨#[115]⟩,H 0 8, .ref (H 5 2)⟩]++match κ.c with
 |0=>[]|_=>[⟨iu κ.x,H 0 9, .ref (H 6 2)⟩]
def ax.xr(κ:ax)(H:Xs):List (af×aq):=match κ.c with
 |2=>[DW κ.x (H 6),(H 6 0+8,lM (rx κ.x) (H 6 1+9) (.str (bv κ.x) (H 6 7)))]|_=>[]
def ax.IF(κ:ax)(H:Xs):List (af×aq):=match κ.c with
 |0=>[]|1=>[oK (iv κ.x) cS (bv κ.x) (H 6)]|_=>[oK (iv κ.x) cS (bv κ.x) (H 6),DW κ.x (H 6),(H 6 0+8,lM (rx κ.x) (H 6 1+9) (.str (bv κ.x) (H 6 7)))]
def ax.r(κ:ax)(H:Xs)(y z m:Nat):yk:=match κ.c with
 |0=>⟨H 1 2,⟨#[99]⟩,⟨#[99]⟩,"",H 1 3,H 1 4,H 1 5,y,z,m⟩|_=>⟨H 6 2,iv κ.x,cS,bv κ.x,H 6 3,H 6 4,H 6 5,y,z,m⟩
variable {r:UInt64}
def ax.ps(κ:ax)(a:AT)(Q:Q5)(x:_root_.Fin 5->Nat)(H:Xs):List FT:=(match κ.c with
 |2=>[⟨H 6 0+8,rx κ.x,H 6 1+9,bv κ.x,H 6 7⟩]|_=>[])++wf a Q x
abbrev kQ(H:Xs):Q5:=nc (⟨λi=>H (i.val+1) 2,λi=>H (i.val+1) 3,λi=>H (i.val+1) 4,λi=>H (i.val+1) 5⟩)
def ax.eA(κ:ax):List Nat:=match κ.f,κ.c with
 |none,0=>(dM 226 0x8e35c05c05c05d78882088a20482092080080080071c71c003f0900004057451451c72071c01c01c0186186000fc23c000f11c10410618718600600600514514003f08e0003836c30c3145185140140140104104000fc234000d09a0820841051040040040030c30c003f08c0003016410410c31030c00c00c000100103f04108000028a28401000038e00000000018014500000000014000000538f3c600514000014000000538f3cf)|none,_=>(dM 361 0xa28a28820820800800820822d1c71c71c7b6d0471e01c700700700618600600400010000010410410104120104004004104804100100104120104004004100703f1c71c30c37030c00c00c000101903f65991901901901966428a2a490128a2ca280280280249249000fc244001119e1861882092080080080071c71c003f0900004057451451c72071c01c01c0186186000fc23c000f11c10410618718600600600514514003f08e0003836c30c3145185140140140104104000fc234000d09a0820841051040040040030c30c003f08c0003016410410c31030c00c00c000100103f04108000028a28401000038e00000000018014500000000014000000538f3c600514000014000000538f3cf)|some _,0=>(dN 223 0x7bd20481204a5d4211de85084a1004010039ce7003e25000a2e0a529ce839c0701c06318c007c4900124b9084318e6300c0300a529400f89000207618c65298a501405010842001f11c0038aa210884290802008018c63003e2300060d02108c6418c0300c0008020f842200004044007bc0000000380c600000000c0000067c207018c0000c0000067c210)|some _,1=>(dM 250 0x7df4c04c04c04d378924979e04924a24900900900820820003f08b0002c66461862082482002002001c71c7000fc228000a1581451471c81c700700700618618003f0890002445c41041861c6180180180145145000fc22000080d60c30c514614500500500410410003f0870001c25420821041441001001000c30c3000fc21800060540410430c40c3003003000040040fc10420000040110003cf0000000001c01860000000001800000063d04070061800001800000063d0410)|some _,_=>(dM 358 0x28a28a208208200200208208a071c71c71e8a011c76c71c01c01c01861801801000040000041041040410480410010010412010400400410480410010010401c0fc71c70c30d70c3003003000040500fd451f5005005005147ca28a7df04a28b28a00a00a00924924003f08b0002c66461862082482002002001c71c7000fc228000a1581451471c81c700700700618618003f0890002445c41041861c6180180180145145000fc22000080d60c30c514614500500500410410003f0870001c25420821041441001001000c30c3000fc21800060540410430c40c3003003000040040fc10420000040110003cf0000000001c01860000000001800000063d04070061800001800000063d0410)
def ax.eB(κ:ax):List Nat:=match κ.f,κ.c with
 |none,0=>(dM 233 0x238d70170170175e22082228812082482002002001c71c7000fc240001015d1451471c81c700700700618618003f08f0003c47041041861c6180180180145145000fc238000e0db0c30c514614500500500410410003f08d0003426820821041441001001000c30c3000fc230000c0590410430c40c300300300300303f0c300100103f04108000028a28401000038e00000000018014500000000014000000538f3c600514000014000000538f3cf)|none,_=>(dM 375 0xa28a28820820800800820822d1c71c71c7b6d0471e01c700700700618600600400010000010410410104120104004004104804100100104120104004004100703f1c71c30c37030c00c00c00c00c0fc30c0040640fd966464064064065990a28a92404a28b28a00a00a00924924003f0910004467861862082482002002001c71c7000fc240001015d1451471c81c700700700618618003f08f0003c47041041861c6180180180145145000fc238000e0db0c30c514614500500500410410003f08d0003426820821041441001001000c30c3000fc230000c0590410430c40c300300300300303f0c300100103f04108000028a28401000038e00000000018014500000000014000000538f3c600514000014000000538f3cf)|some _,0=>(dN 230 0x3de9024090252ea108ef428425080200801ce73801f1280051705294e741ce0380e0318c6003e24800925c84218c73180601805294a007c4800103b0c63294c5280a02808421000f88e001c5510844214840100400c631801f11800306810846320c601806018060f8c6008020f842200004044007bc0000000380c600000000c0000067c207018c0000c0000067c210)|some _,1=>(dM 257 0x1f7d30130130134de24925e781249289240240240208208000fc22c000b1991861882092080080080071c71c003f08a0002856051451c72071c01c01c0186186000fc224000911710410618718600600600514514003f0880002035830c3145185140140140104104000fc21c00070950820841051040040040030c30c003f0860001815010410c31030c00c00c00c00c0fc30c0040040fc10420000040110003cf0000000001c01860000000001800000063d04070061800001800000063d0410)|some _,_=>(dM 372 0x28a28a208208200200208208a071c71c71e8a011c76c71c01c01c01861801801000040000041041040410480410010010412010400400410480410010010401c0fc71c70c30d70c300300300300303f0c300101403f5147d401401401451f28a29f7c128a2ca280280280249249000fc22c000b1991861882092080080080071c71c003f08a0002856051451c72071c01c01c0186186000fc224000911710410618718600600600514514003f0880002035830c3145185140140140104104000fc21c00070950820841051040040040030c30c003f0860001815010410c31030c00c00c00c00c0fc30c0040040fc10420000040110003cf0000000001c01860000000001800000063d04070061800001800000063d0410)
def ax.s2(κ:ax):List Nat:=nc (match κ.f,κ.c with
 |none,0=>[9,7,6,5,4,3,0,22,13,23,24,25,26,27,28,29,30,31,32,33,34]|none,_=>[21,19,18,17,16,15,13,14,4,9,34,25,35,36,37,38,39,40,41,42,43,44,45,46]|some _,0=>[9,7,6,5,4,3,0,16,17,18,19,20,21,22,23,24,25,26,27,28,29]|some _,1=>[10,8,7,6,5,4,3,0,17,18,19,20,21,22,23,24,25,26,27,28,29,30]|some _,_=>[21,19,18,17,16,15,13,14,4,9,28,29,30,31,32,33,34,35,36,37,38,39,40,41])
def ax.s8(κ:ax):List Nat:=nc (match κ.f,κ.c with
 |none,0=>[5,6,11,12,23,21,22,18,17,20,24,25,13,0,1,2,3,4,14,15,16,19]|none,_=>[5,26,11,12,23,21,22,18,17,20,24,25,13,0,1,2,3,4,27,28,14,15,16,19]|some _,0=>[5,6,11,12,23,21,22,18,17,20,24,25,13,0,1,2,3,4,14,15,16,19]|some _,1=>[5,26,11,12,23,21,22,18,17,20,24,25,13,0,1,2,3,4,14,15,16,19]|some _,_=>[5,26,11,12,23,21,22,18,17,20,24,25,13,0,1,2,3,4,27,28,14,15,16,19])
def ax.s9(κ:ax):List Nat:=nc (match κ.f,κ.c with
 |none,0=>[0,14,13,15,6,5,16,7,1,3,4,2]|none,_=>[0,16,13,15,17,6,5,18,7,1,3,4,2]|some _,0=>[0,13,15,6,5,16,7,1,3,4,2,14]|some _,1=>[0,13,15,6,5,16,7,1,3,4,2,14]|some _,_=>[0,13,15,17,6,5,18,7,1,3,4,2,16])
def ax.so(κ:ax)(J:Nat)(H:aq)(sz tb:Nat):List (af×aq):=[(J,H),(sz+κ.l,t7 (κ.q1 sz+5)),(κ.q1 sz+5,lK (κ.q1 sz) (κ.q2 tb)),(sz,eD)]
variable {so:aq}
section
variable (κ:ax)(w:aj)(G:TG)(a:AT)(S:SX)(ta aP:Nat)(t:ab)
def ax.o6(s:Nat->Nat):aF:=match κ.c with
 |0=> .nil|1=>qoO (κ.i+5) w (gW G S.wm) ta aP κ.x (s 9) λ_=> .nil|_=>qnO (κ.i+5) w (gW G S.wm) ta aP κ.x (s 9) λ_=> .nil
def ax.os(H:Nat)(J:aq)(sz tb:Nat):aF:= .cons none (IP H (sz+κ.l)) κ.ix (κ.so H J sz tb) (Qp κ.sk (κ.so H J sz tb)) λs=>AJ κ.i w (gW G S.wm) ta aP 99 (s 4) λ_=>AJ (κ.i+1) w (gW G S.wm) ta aP 104 (s 5) λ_=>AJ (κ.i+2) w (gW G S.wm) ta aP 108 (s 6) λ_=>AJ (κ.i+3) w (gW G S.wm) ta aP 110 (s 7) λ_=>AJ (κ.i+4) w (gW G S.wm) ta aP 115 (s 8) λ_=>κ.o6 w G S ta aP s
abbrev ax.led(L tk H Y:Nat)(J:aq):List (af×aq):=(H,J)::(123,κ.o)::(κ.lx++(QZ w G a S ta aP++I4 w G a ta κ.tag t L tk H Y))
def ax.run(L tk J Y:Nat)(H:aq)(sz tb:Nat)(Z:Xs):=(Mine.Internal.run ⟨⟨Rw.prog,w.params⟩,K w.params,2,0,some L⟩ 500).S [] Z ⟨κ.led w G a S ta aP t L tk J Y H,sz,tb,evW w κ.eA κ.eB,κ.os w G S ta aP J H sz tb⟩ (aV ((fB.drop 2).take 6) (jS L)) fin
def ax.sq(L tk Y J sz tb:Nat)(H:Xs):SQ:=nc (⟨L,tk,Y,J,sz,tb,tb+2,H 0 0+1,H κ.m 1+1,H κ.m 0+κ.a2,H κ.m 1+κ.a4,sz+1⟩)
def ax.end(L tk Y J sz tb:Nat)(H:Xs):List (af×aq):=(κ.sq L tk Y J sz tb H).led w G a S ta (κ.ti H) (aP+κ.lO) κ.tag t (κ.pd H) κ.m (κ.al H) κ.ae ((kQ H).led++κ.IF H) [(123,iz (κ.q1 sz+5)),(κ.q1 sz+5,lK (κ.q1 sz) (κ.q2 tb))]
abbrev ax.bE:List (af×aq):=Eh κ w G a S ta aP++κ.lx
abbrev ax.P(y:Nat->Nat):List (af×aq):=Ei κ w G a S ta aP y++κ.lx
end
variable {led:List (af×aq)}
section
variable {κ:ax}(h:κ.V)(w:aj)(G:TG)(a:AT)(S:SX)(ta aP:Nat)(t:ab)(L' tk:Nat)(σ:Xs)
include h
theorem ax.b0:Ends (fH (κ.bE w G a S ta aP).length) ((Mine.Internal.run ⟨⟨Rw.prog,w.params⟩,K w.params,0,0,none⟩ 400).S [] σ ⟨κ.bE w G a S ta aP,L',tk,[0], .nil⟩ (ma ru (Do G a ta κ.tag t)) fin) (.ok (RR G a ta κ.tag t),(κ.bE w G a S ta aP).map some,L',tk):=by refine nu h ?_ ?_ ?_ ?_ ?_<;>intros<;>kernel_rfl
theorem ax.n0:Ends κ.s0 ((Mine.Internal.run ⟨⟨Rw.prog,w.params⟩,K w.params,0,0,none⟩ 400).S [] σ ⟨κ.bE w G a S ta aP,L',tk,[2,2,3,3,3,3,3,3,3,3], .nil⟩ (md ru.scope ru.globals ru.closure (RR G a ta κ.tag t) (ru.qualname++".<locals>.") (some 126) ru.code none ru.builtins) fin) (.ok (sy stQ ⟨.function,Ee.names,Ee.isGenerator,Ee.isCoroutine,Ee.more⟩ L' 126 (.ref 125) [("parse_qname",L'+1+1),("self",L'+1)]),(κ.bE w G a S ta aP++aEh w a.at_ ta κ.tag t G.tg L' tk).map some,L'+3,tk+4):=by refine nu h ?_ ?_ ?_ ?_ ?_<;>intros<;>kernel_rfl
theorem ax.b1(L J H:Nat)(Y:aq)(sz tb:Nat):Ends κ.s2 (κ.run w G a S ta aP t L tk J H Y sz tb σ) (.ok .next,(κ.end w G a S ta aP t L tk J H sz tb σ).map some,σ κ.m 0+κ.a5,σ κ.m 1+κ.a6):=by revert w;refine byRow2 "comprehension-iter-twice" (λw=>?_) (λw=>?_)<;>refine nu h ?_ ?_ ?_ ?_ ?_<;>intros<;>kernel_rfl
omit h
theorem ax.ixs(h:κ.V):κ.s0.Nodup/\κ.s2.Nodup/\κ.s8.Nodup/\κ.s9.Nodup/\κ.ix.Nodup:=by refine nu h ?_ ?_ ?_ ?_ ?_<;>intros<;>exact of_decide_eq_true (by kernel_rfl)
end
section
variable {κ:ax}(h:κ.V)(hx:κ.c≠0->κ.x∈dR)
include h hx
theorem ax.skk:((["n","c","s","l","h"]:List Str).foldl gM [κ.tag]).Perm κ.sk/\DF oG κ.sk κ.m/\AE κ.sk=true:=by
 revert hx;refine nu h ?_ ?_ ?_ ?_ ?_;·exact λz z=>⟨Ql,qf.sort Qk rfl (.inl rfl),Qo⟩
 ·exact λx hx=>have hx:=hx nofun;⟨IL hx,qf.sort (IK hx) rfl (.inr rfl),IN hx⟩
 ·exact λz z z=>⟨Ql,qf.sort Qk rfl (.inl rfl),Qo⟩
 ·exact λp x hx=>have hx:=hx nofun;⟨IL hx,qf.sort (IK hx) rfl (.inr rfl),IN hx⟩
 ·exact λp x hx=>have hx:=hx nofun;⟨IL hx,qf.sort (IK hx) rfl (.inr rfl),IN hx⟩
theorem ax.RX(H:Xs)(y z m:Nat):((κ.pd H).map (·.k)).Nodup/\g6 (fY (κ.pd H)) κ.tag=some (.ref (κ.r H y z m).qt):=by
 have g:κ.c≠0->(([⟨#[99]⟩,⟨#[104]⟩,⟨#[108]⟩,⟨#[110]⟩,⟨#[115]⟩,iu κ.x]:List Str)).Nodup:=λn=>by have:=hx n;unfold dR at this;simp only[a9,bi,or_false]at this;rcases this with e|e|e|e|e|e<;>refine rR e ?_<;>decide+kernel
 revert hx g;refine nu h ?_ ?_ ?_ ?_ ?_;·exact λj j j=>⟨by show aVd [(⟨#[99]⟩:Str),⟨#[104]⟩,⟨#[108]⟩,⟨#[110]⟩,⟨#[115]⟩];decide+kernel,rfl⟩
 ·exact λx hx g=>⟨g nofun,Jx (hx nofun) ..⟩
 ·exact λj j j j=>⟨by show aVd [(⟨#[99]⟩:Str),⟨#[104]⟩,⟨#[108]⟩,⟨#[110]⟩,⟨#[115]⟩];decide+kernel,rfl⟩
 ·exact λp x hx g=>⟨g nofun,Jx (hx nofun) ..⟩
 ·exact λp x hx g=>⟨g nofun,Jx (hx nofun) ..⟩
end
section
variable {κ:ax}(h:κ.V){G:TG}{a:AT}{S:SX}{σ:Xs}
include h
theorem ax.psk(H:qi a)(Q:Q5)(x:_root_.Fin 5->Nat):∃n,Ed (κ.ps a Q x σ) n ⟨x 4,⟨#[115]⟩,Q.u 4,a.s,a.ts⟩:=by
 refine nu h ?_ ?_ ?_ ?_ ?_;·exact λz=>⟨_,Eg H Q x⟩
 ·exact λz=>⟨_,RW H ..⟩
 ·exact λz z=>⟨_,Eg H Q x⟩
 ·exact λz z=>⟨_,Eg H Q x⟩
 ·exact λz z=>⟨_,RW H ..⟩
theorem ax.psm(Q:Q5)(x:_root_.Fin 5->Nat)(R:List (af×aq)):∀p∈κ.ps a Q x σ,(p.a,p.o)∈yg a Q x++(κ.xr σ++R):=by
 have m:∀p∈wf ..,∀R,_∈yg a Q x++R:=λp hp R=>bL _ (aI0 hp);refine nu h ?_ ?_ ?_ ?_ ?_;·exact λz p hp=>m p hp _
 ·intro H p hp;rcases a9.mp hp with rfl|hp
  ·exact bD _ (aB az)
  ·exact m p hp _
 ·exact λz z p hp=>m p hp _
 ·exact λz z p hp=>m p hp _
 ·intro q H p hp;rcases a9.mp hp with rfl|hp
  ·exact bD _ (aB az)
  ·exact m p hp _
theorem ax.psj(Q:Q5)(x:_root_.Fin 5->Nat)(y z m:Nat):(κ.ps a Q x σ).map fJ=wc κ.c κ.x a/\(κ.r σ y z m).z=zS κ.c κ.x/\(κ.r σ y z m).z.length<=100:=by
 refine nu h ?_ ?_ ?_ ?_ ?_;·exact λj=>⟨rfl,rfl,dh rfl⟩
 ·exact λj=>⟨rfl,rfl,Jy _⟩
 ·exact λj j=>⟨rfl,rfl,dh rfl⟩
 ·exact λj j=>⟨rfl,rfl,Jy _⟩
 ·exact λj j=>⟨rfl,rfl,Jy _⟩
abbrev kD(G:TG)(ta e:Nat)(J:List ag)(H Y:Nat):List (af×aq):=[(123,iz (H+5)),(H+5,lK H Y),(ta,aA J e),(G.ds,aA ((G.cT.map λl=>aN l.a)++[aN ta]) G.dep)]
theorem ax.e8(tag:Str)(q:SQ)(Q:Q5)(hQ:Q=kQ σ)(Z:List DE)(n:Nat)(x:_root_.Fin 5->Nat)(y z m H Y e:Nat)(J:List ag)(C:List (af×aq))(hC:C=[(123,iz (H+5)),(H+5,lK H Y),(ta,listOf J.toArray e),(G.tg,dW 150 G.td),(G.td,fk w (.ref S.wm) G.b G.rs G.rn G.dl G.ds G.ns G.pm G.ps G.ti G.ep G.kt),(G.ds,listOf ((G.cT.map λl=>aN l.a)++[aN ta]).toArray G.dep),(G.ns,listOf (G.aL.map λl=>aN l.a).toArray G.ei),(S.wm,fX S.wl),(S.wl,listOf S.wv.toArray S.we),(G.ps,listOf (S.cv++[dX false]).toArray S.dC),(q.L+1+1,nj (some (.ref q.cm))),(q.L+1,nj (some (.ref G.tg)))]):pick (Jh w G a ta tag t q Q Z n (κ.al σ) κ.ae x y z m++(C++κ.IF σ)) κ.s8=(Jt w G a S ta tag t q Q (κ.r σ y z m) Z n ((κ.ps a Q x σ).map λp=>aN p.a) (κ.ae+5)++(yg a Q x++(κ.xr σ++kD G ta e J H Y))).map some:=by subst hQ hC;refine nu h ?_ ?_ ?_ ?_ ?_<;>intros<;>rfl
abbrev kY(sz tk H Y Z:Nat)(σ:Xs)(t1 t2 J:Nat):Nat->Nat:=nc (λi=>match i with
 |0=>sz|1=>tk|2=>H|6=>Y|7=>Z|8=>σ 6 6|9=>σ 6 7|10=>σ 6 8|100=>t1|101=>t2|_=>J)
theorem ax.e9(Q:Q5)(x:_root_.Fin 5->Nat)(z J:Str)(t1 t2 Y sz tk H Z q2 e:Nat)(hq:κ.f=none\/κ.f=some (Z,q2)):pick (Eb w G a S z J t1 t2 Y H++(yg a Q x++(κ.xr σ++kD G ta e (κ.ti σ) Z q2))) κ.s9=(((H,aA [] 0)::κ.ex (kY sz tk H Z q2 σ t1 t2 Y))++([(123,κ.o' (kY sz tk H Z q2 σ t1 t2 Y)),(ta,aA (κ.aX (kY sz tk H Z q2 σ t1 t2 Y)) e),(G.tg,dW 150 G.td),(G.td,fk w (.ref S.wm) G.b true G.rn G.dl G.ds G.ns G.pm G.ps G.ti G.ep G.kt),(G.ds,aA ((G.cT.map λl=>aN l.a)++[aN ta]) G.dep),(G.ns,aA ((G.aL.map λl=>aN l.a)++[aN H]) (G.ei+1)),(a.at_,cD w a.es a.ep),(S.wm,fX S.wl),(S.wl,aA (S.wv++[ag.str ("<"++z) t1]++[ag.str J t2]++[ag.str ">" Y]) (S.we+3)),(G.ps,aA (S.cv++[dX false]++[dX false]) (S.dC+1))]++κ.lx)).map some:=by revert hq;refine nu h ?_ ?_ ?_ ?_ ?_<;>intros<;>first|rfl|(rename_i hq;rcases hq with hq|hq<;>cases hq;rfl)
theorem ax.aI1:(κ.al σ).length<=900:=by refine nu h ?_ ?_ ?_ ?_ ?_<;>intros<;>exact dh rfl
omit h
theorem ax.ixl(κ:ax):κ.ix.length=4:=by obtain⟨_|p,c,x⟩:=κ<;>rfl
theorem ax.q_f(κ:ax)(sz tb:Nat):κ.f=none\/κ.f=some (κ.q1 sz,κ.q2 tb):=by
 obtain⟨_|p,c,x⟩:=κ;·exact .inl rfl
 ·exact .inr rfl
end
def ry:FuncData:=match u7.1.data with
 | .func f=>f|_=>default
abbrev Ej:List Stmt:=bodyOf u7.1
abbrev RY(L:af):Env:=mB u7.1 120 L
abbrev fO(G:TG):TG:=nc ({ G with dep:=G.dep+1 })
abbrev nw(w:aj)(G:TG)(a:AT)(S:SX)(tb:List (af×aq))(J:List ag)(H:Nat):List (af×aq):=tb++[(G.tg,dW 150 G.td),(G.td,fk w (.ref S.wm) G.b G.rs G.rn G.dl G.ds G.ns G.pm G.ps G.ti G.ep G.kt),(G.ds,listOf (G.cT.map λl=>aN l.a).toArray G.dep),(G.ns,listOf (G.aL.map λl=>aN l.a).toArray G.ei),(G.dl,listOf J.toArray H),(a.at_,cD w a.es a.ep),(S.wm,fX S.wl),(S.wl,listOf S.wv.toArray S.we),(G.ps,listOf (S.cv++[dX false]).toArray S.dC)]
abbrev Jz(w:aj)(G:TG)(a:AT)(tag:Str)(t:ab)(L tk:Nat):List (af×aq):=nc ([(L,⟨.type "frame",none, .dict (cE [⟨aS w.params "self", .str "self" tk, .ref G.tg⟩,⟨aS w.params "tag", .str "tag" (tk+1), .str tag t⟩,⟨aS w.params "attrs", .str "attrs" (tk+2), .ref a.at_⟩]) 3,#[]⟩)])
abbrev ym(G:TG)(a:AT)(tag:Str)(t:ab):Args:=nc (⟨[.ref G.tg, .str tag t, .ref a.at_],[]⟩)
abbrev RZ(ix:List Nat)(w:aj)(G:TG)(S:SX)(x:Str)(t:ab)(H:Nat)(next:aM):aF:= .cons none (gF 106 [.ref G.tg]) ix (oN w G S x t H) (wb w G S x H) next
theorem aI2{c:bB}{Y Z:List (af×aq)}{fc H:(Nat->Nat)->Out}(h:nV w c n Y fc)(J:Y.Perm Z)(e:∀x,∃y,(fc x).res=(H y).res/\(fc x).sz=(H y).sz/\(fc x).tk=(H y).tk/\(fc x).new.Perm (H y).new/\(fc x).post.Perm (H y).post):nV w c n Z H:=by intro k m news s R H F N Y dj Z hu hb hR;exact h k m news s R H F (λp H=>N p ((J.append_right news).mem_iff.mp H)) (((J.map (·.1)).nodup_iff).mpr Y) (λq Y p H=>dj q Y p (J.mem_iff.mp H)) Z hu hb λx s' h1 h2 h3 h4 F' N' mo hf hl=>M2 (e x) λy e1 e2 e3 Z e5=>e1▸hR y s' (h1.trans e2) (h2.trans e3) h3 h4 F' (λp H=>N' p ((Z.append (e5.append_right news)).mem_iff.mpr H)) (((Z.map (·.1)).nodup_iff).mp mo) (λp H q Y=>hf p (Z.mem_iff.mpr H) q ((J.append_right news).mem_iff.mpr Y)) hl
noncomputable def mH(n:Nat)(H J Y:Nat->Nat):Nat->Nat:=λi=>if i< 100 then H i else if i< 100+n then J i else Y (i - n)
theorem yn(a:List Str)(y:Nat->Nat):(bn a y).length=a.length:=by exact rR Gp rfl
theorem uh(a b:List Str)(Y H J:Nat->Nat):bn (a++b) (mH a.length Y H J)=bn a H++bn b J:=by
 unfold bn mH;refine rR List.mapIdx_append (congr (congrArg _ ?_) ?_)
 ·refine jG λi=>?_;simp only[gA,gA];induction z:a[i]? with
  |none=>rfl|some s=>have:i< a.length:=(se.mp z).1;exact rR (if_neg (dw.mpr (fF ..))) (rR (if_pos (WV this _)) rfl)
 ·refine jG λi=>?_;simp only[gA,gA];induction z:b[i]? with
  |none=>rfl|some s=>exact rR (if_neg (dw.mpr (fF ..))) (rR (if_neg (by exact dw.mpr (aT [] (lE (100+Y0) (100+(Y1+Y0))) rfl))) (rR (show 100+_ - a.length=100+i by exact c8 (b7 [eQ (Y0+Y2) (100+(Y1+Y2))] (lE Y0 (100+Y1)) rfl (bX (aT [] (lE Y0 (100+(Y1+Y0))) rfl))) (cz [eQ (Y1+Y2) (100+(Y0+Y2))] (lE (100+Y0) Y1) [-1] 1 rfl (bX (aT [] (lE Y0 (100+(Y1+Y0))) rfl)))) rfl))
theorem AY{A l':List (af×aq)}(H:ay True aa ak (A++led) s)(Y:ix.Nodup)(e:pick led ix=l'.map some):ay True aa ak (A++l') s:=by
 refine lN H (ix:=fH A.length++ix.map (· +A.length)) ?_ ?_
 ·rw[fi];refine⟨uY,aXi _ (λa b(h:a≠b)=>(Nat.lt_or_gt_of_ne h).elim (λH=>du (aVe H _)) (λH=>jc (aVe H _))) Y,λx Z y H e=>?_⟩;refine aO (bq.mp H) λi j J=>?_;subst J;have:=aSj.mp Z;exact jH 0 (cz [eQ Y0 (Y1+Y2),lL Y0 Y2] (lL 0 0) [-1,1] 0 rfl e this)
 ·show qH _ _=_;simp only[bM,bM,BO];refine congr (congrArg _ ?_) ?_
  ·refine jG λi=>?_;simp only[dL,dL];by_cases h:i< A.length;·simp only[Xh h,gD h,Gj,Gj,aUj h,gD h]
   ·rw[uT (Xi▸aT [lE Y0 Y1] (lE Y0 Y1) rfl (dw.mp h)),uT (by exact aT [lE Y0 Y1] (lE Y0 Y1) rfl (dw.mp h))];rfl
  ·refine rL e (WU λi z=>?_);show _[i+A.length]?=_;rw[aUk (dF ..),Nat.add_sub_cancel]
def oP(b:Bool)(xs:Str):List Str:=match (iY b xs).cps.toList with
 |[]=>[]|_=>[wa (iY b xs)]
structure ax.Ok(κ:ax)(G:TG)(wm:Nat):Prop where
 g:(κ.c=0)\/(κ.c=1/\κ.f≠none/\(gW G wm).Tag κ.x/\∃e∈G.ents,e.u=bv κ.x)\/(κ.c=2/\(gW G wm).Tag κ.x/\∀e∈G.ents,e.u≠bv κ.x)
def JA(κ:ax)(w:aj)(G:TG)(a:AT)(S:SX)(ta aP:Nat):(Nat->Nat)->Out:=λy=>⟨.ok (.ret .none),Ei κ w G a S ta aP y++(G.ro++κ.lx),(y 2,aA [] 0)::κ.ex y,y 0,y 1⟩
theorem aI3(κ:ax)(a:AT)(S:SX)(t1 t2 H:Nat)(y:Nat->Nat)(Y:y 100=t1)(J:y 101=t2)(Z:y 102=H):S.wv++[ag.str ("<"++zS κ.c κ.x) t1]++[ag.str (mG (wc κ.c κ.x a)) t2]++[ag.str ">" H]=S.wv++bn (κ.ws a) y:=by subst Y J Z;refine rR (bH ..) (rR (bH ..) ?_);rfl
theorem R3(X l R:List α):((X++l)++R).Perm (X++(R++l)):=bH X l R▸jL.append_left X
theorem aI4(p:α)(F e Z:List α):(p::((F++e)++Z)).Perm (e++(p::(F++Z))):=rR (bH ..) (List.perm_append_comm_assoc (p::F) e Z)
theorem wg(i:Nat):[i,i+1,i+2,i+3,i+4].Nodup:=Yn (n:=5)
theorem ax.Ok.v{κ:ax}{G:TG}(h:κ.Ok G wm):κ.V:=h.g.imp id (.imp (λh=>⟨h.1,h.2.1⟩) And.left)
theorem ax.Ok.let{κ:ax}{G:TG}(h:κ.Ok G wm)(n:κ.c≠0):κ.x∈dR:=by
 rcases h.g with e|⟨z,z,g,z⟩|⟨z,g,z⟩
 ·exact absurd e n
 ·exact g.hx
 ·exact g.hx
theorem ax.Ok.o6{κ:ax}{G:TG}{S:SX}(h:κ.Ok G S.wm){k:KX}(Z:k.Ok w)(r:ua k ar (gW G S.wm))(Y:U+240< dP)(g:(gW G S.wm).Ok ta [])(s:Nat->Nat)(lv:List af):(κ.o6 w G S ta aP s).Ok True (av w) k.bE U (some k.L) ar lv:=by
 obtain⟨f,c,x⟩:=κ;rcases h.g with rfl|⟨rfl,j,J,H⟩|⟨rfl,J,H⟩
 ·trivial
 ·exact⟨rfl,wg _,QY Z r Y g J H,λz z z=>True.intro⟩
 ·exact⟨rfl,wg _,aHl Z r Y g J H,λz z z=>True.intro⟩
theorem aI5(X l N:List α):((X++l)++N).Perm (l++(X++N)):=rL (bH ..) (jL.append_right N)
theorem JB{X l B C:List (af×aq)}(J:ay True aa ak X s)(p:X.Perm (l++led))(H:ix.Nodup)(e:pick led ix=(B++C).map some):ay True aa ak (B++(C++l)) s:=bj (AY (bj J p) H e) (bH B C l▸jL)
theorem aI6(w:aj)(κ:ax)(G:TG)(a:AT)(S:SX)(ta aP:Nat)(t:ab)(g:(gW G S.wm).Ok ta [])(gk:κ.Ok G S.wm)(ha:qi a)(oO:S.cv.length<=900)(fp:S.wv.length<=900)(rt:G.aL.length<=900):nV w (.call (.ref 126) (Do G a ta κ.tag t)) 8 (Eh κ w G a S ta aP++(G.ro++κ.lx)) (JA κ w G a S ta aP):=by
 have V:=gk.v;refine qI (ax.ixs V) λnd0 qO AZ nd9 ndi=>aI2 (fc:=λy=>⟨.ok _,κ.P w G a S ta aP y++G.ro,_::κ.ex y,y 0,y 1⟩) (yd _ (aIw w) rfl rfl (body:=fB) (by kernel_rfl) (by kernel_rfl) _ [0] (ax.b0 V w G a S ta aP t) _ 3 4 [2,2,3,3,3,3,3,3,3,3] _ nd0 (ax.n0 V w G a S ta aP t) (λ_=>rfl) (λ_=>rfl) ?_) (R3 ..) λy=>⟨y,rfl,rfl,rfl, .refl _,R3 ..⟩;intro k tk s ak Q' E ar H hL bz jv aZ bZ f6 SR hz ht dm;have X1:aK w ar:=λb o e=>aZ _ _ (H.X b o e);have S1:=JB (B:=yc ..) (C:=[(123,κ.o),_,_,_,_,_,_,_]) SR (aI5 ..) (ix:=[2,3,10,11,12,0,1,4,5,6,7,8,9]) (by decide) rfl;refine cI (kF S1) λSB hrb gr=>begun rfl (λb o e=>gr _ _ (X1 b o e)) SB ht (hrb (a.at_,cD ..) (bL _ (aB (aB (aB (aB az)))))) ha.sys λY S0 oS kq hS S2 JC DG=>?_;have S4:ay True ar ak (κ.led ..) Y:=bj (JB (B:=[]) (C:=_::_::_) (q6 S1 S2) (by exact rL (bH ..) jL) (ix:=[0,6,7,1,2,8,9,10,11,12,13,3,4,5]) (by decide) rfl) ((jL.cons _).cons _);have ny:ua k ar (gW G S.wm):=⟨aZ,bZ,f6,hL,aT [lL (Y0+8) (Y1+1)] (lL (Y0+6) Y1) rfl bz⟩
 have Z:=aT [lL (Y0+(.m 40 8)) (Y1+3)] (lL (Y0+240) Y1) rfl jv;refine cI (ax.skk V gk.let) λsp so ss=>rR aIx (da ?_);refine wp_run S4 X1 rfl 2 0 500 _ κ.s2 _ (λ_=>?_) (λ_=>⟨H.T.nolimit.keeps aZ,aT [lL (Y0+8) (Y1+1)] (lE (Y0+2) Y1) rfl bz⟩) (U:=k.un) (a8 _) qO _ _ _ _ (λσ=>ax.b1 V ..) λσ s5 S5 _ _ G5=>?_;·exact⟨κ.ixl,ndi,aGj H hL (aT [lL (Y0+8) (Y1+1)] (lE (Y0+1) Y1) rfl bz) (aT [lL (Y0+(.m 40 8)) (Y1+3)] (lL (Y0+3) Y1) rfl jv) aZ hS sp so ss (b7 [lE Y0 Y2,lL Y2 Y1] (lE Y0 Y1) rfl hL DG),λs _ _=>⟨rfl,wg _,x9 H ny Z g 99 (by decide),λq1 _ _=>⟨rfl,wg _,x9 H ny Z g 104 (by decide),λq2 _ _=>⟨rfl,wg _,x9 H ny Z g 108 (by decide),λq3 _ _=>⟨rfl,wg _,x9 H ny Z g 110 (by decide),λq4 _ _=>⟨rfl,wg _,x9 H ny Z g 115 (by decide),λq5 _ _=>gk.o6 H ny Z g s _⟩⟩⟩⟩⟩⟩
 obtain⟨q,hq⟩:∃q,q=κ.sq k.L tk S0 kq Y.heap.objs.size Y.toks σ:=⟨_,rfl⟩
 have qL:q.L=k.L:=congrArg SQ.L hq;unfold ax.end at S5;rw[<-hq]at S5;obtain⟨Q,J⟩:∃Q,Q=kQ σ:=⟨_,rfl⟩
 rw[<-J]at S5;obtain⟨pn,_⟩:=ax.RX V gk.let σ 0 0 0;show aG _ _ (aV (_++_) (jS k.L)) _ _ _;refine da (rL qL ?_);refine aIo rfl X1 (JB (B:=Jg w G a ta κ.tag t q Q _ κ.m _ κ.ae) (C:=[(123,iz _),_,_,_,_,_,_,_,_,_,_,_]) S5 (aI4 ..) (ix:=[0,1,2,3,4,5,6,14,20,7,8,9,10,11,12,13,15,16,17,18,19]) (by decide) rfl) pn (by refine rR J ?_;rfl) (by refine rR J ?_;rfl) (by refine rR J ?_;rfl) (by refine rR J ?_;rfl) (by refine rR J ?_;rfl) (ax.aI1 V) ha.sys λZ xx y1 z1 m1 S7 JD=>?_;obtain⟨n,pok⟩:=ax.psk V ha Q xx;refine cI (ax.psj V (a:=a) Q xx ..) λpj rz Z=>aIv H X1 aZ hL (aT [lL (Y0+8) (Y1+1)] (lL (Y0+3) Y1) rfl bz) (aT [lL (Y0+(.m 40 8)) (Y1+3)] (lL (Y0+123) Y1) rfl jv) qL (lN S7 AZ (ax.e8 V κ.tag q Q J _ κ.m xx y1 z1 m1 _ _ _ _ _ rfl)) pn (ax.RX V gk.let ..).2 ha.sys pok (ax.psm V Q xx _) oO fp rt Z λH t1 t2 J nl S9 Z=>?_;rw[rz,pj]at S9;have yo:=lN S9 nd9 (ax.e9 V Q xx _ _ t1 t2 J H.heap.objs.size H.toks nl _ _ _ (κ.q_f Y.heap.objs.size Y.toks));refine dm (kY H.heap.objs.size H.toks nl (κ.q1 Y.heap.objs.size) (κ.q2 Y.toks) σ t1 t2 J) .next H rfl rfl rfl ?_ (ij.trans JC (ij.trans G5.live (ij.trans JD Z)));rw[(aI3 κ a S t1 t2 J (kY H.heap.objs.size H.toks nl _ _ σ t1 t2 J) rfl rfl rfl)]at yo;exact yo
theorem R4(w:aj):(K w.params).lookup 120=some ⟨u7.1.cls,u7.1.dict, .func ry,u7.1.slots⟩:=by kernel_rfl
abbrev srQ:Str:=nc ("C14NWriterTarget.start")
def Ek:Scope:=nc (ry.scope)
abbrev R5(G:TG)(a:AT)(tag:Str)(t:ab):List (Str×ag):=nc ([("self", .ref G.tg),("tag", .str tag t),("attrs", .ref a.at_)])
theorem R6(y:Str)(t:ab):(qh y t).length<=1:=by
 unfold qh;split;·exact fZ _
 ·exact a8 _
theorem aI7{G:TG}(g:(gW (fO G) wm).Ok ta aX):(gW (fO { G with rs:=true }) wm).Ok ta aX:=⟨g.hy,g.jr,g.jR,g.mE,g.oz,g.hz,g.tV,g.ra,g.rb,g.rf,g.rh⟩
theorem R7{G:TG}{x:Nat}(g:(gW (fO G) wm).Tag x):(gW (fO { G with rs:=true }) wm).Tag x:=⟨g.hx,g.ni,g.fW,g.hex⟩
abbrev R8(κ:ax)(w:aj)(G:TG)(a:AT)(S:SX)(t:ab)(ta:Nat)(out:Nat->SX->(Nat->Nat)->Out):aF:= .cons none (.call (.ref 126) (Do G a ta κ.tag t)) [1,0,2,3,4,5,7,8,9,10] (Eh κ w G a S ta 0) (λy=>⟨.ok (.ret .none),(out ta S y).post,(out ta S y).new,(out ta S y).sz,(out ta S y).tk⟩) λ_=> .nil
abbrev SX.fl(S:SX)(b:Bool)(xs:Str)(y:Nat):SX:={ S with wv:=S.wv++qh (iY b xs) y,we:=S.we+AS (iY b xs) }
def R9(κ:ax)(w:aj)(G:TG)(a:AT)(S:SX)(t:ab)(sz:Nat)(out:Nat->SX->(Nat->Nat)->Out):aF:=ik 4 G.ds (G.cT.map λl=>aN l.a) G.dep (.ref sz) λH=>R8 κ w (fO G) a S t sz out
def Sc(κ:ax)(w:aj)(G:TG)(a:AT)(S:SX)(t u:ab)(xs:Str)(H:Nat)(out:Nat->SX->(Nat->Nat)->Out):aF:=RZ [1,2,5,9,7,8] w { G with rs:=true } S xs u H λH=>ik 4 G.ds (G.cT.map λl=>aN l.a) G.dep (.ref (H 0)) λJ=>R8 κ w (fO { G with rs:=true }) a (S.fl G.b xs (H 2)) t (H 0) out
def Sd:List Nat:=(dN 93 0x20318c20c0000060000600006c2006300003000001b04c294a52006300003000001b18c300c0300c618042000020000012c6010800008000004b)
def Se:List Nat:=(dN 111 0x80c630830000018000180001b08018c0000c000006c130a52948018c0000c000006c630401880000040000400004b300c0300c618042000020000012c6010800008000004b)
abbrev Sf(κ:ax)(w:aj)(G:TG)(a:AT)(S:SX)(t:ab)(H ta L tk J:Nat):List (af×aq):=(ta,listOf ([]:List ag).toArray 0)::(nw w G a S [(123,κ.o)] [] H).set 3 (G.ds,listOf ((G.cT.map λl=>aN l.a)++[aN ta]).toArray (G.dep+1))++[(L,⟨.type "frame",none, .dict (cE [⟨aS w.params "self", .str "self" tk, .ref G.tg⟩,⟨aS w.params "tag", .str "tag" (tk+1), .str κ.tag t⟩,⟨aS w.params "attrs", .str "attrs" (tk+2), .ref a.at_⟩,⟨aS w.params "new_namespaces", .str "new_namespaces" J, .ref ta⟩]) 4,#[]⟩)]
section
variable (κ:ax)(w:aj)(G:TG)(a:AT)(S:SX)(t u:ab)(xs:Str)(de:Nat)(out:Nat->SX->(Nat->Nat)->Out)(L tk:Nat)
end
def El(c:Prop)[Decidable c](o:Out):Out:=if c then o else { o with new:=[(0,aA [] 0),(0,aA [] 0)] }
theorem JE{c:Prop}[Decidable c]{o:Out}(h:c):El c o=o:=if_pos h
theorem Sh{c:Prop}[Decidable c]{o:Out}{l:List (af×aq)}(H:ay True aa ak ((El c o).new++l) s):c:=by
 by_cases h:c;·exact h
 ·unfold El at H;rw[if_neg h]at H;exact absurd H.h.nd (λH=>(ci.mp H).1 az)
theorem Si(b:Bool)(xs:Str)(t:ab):qh (iY b xs) t=bn (oP b xs) (λ_=>t):=by unfold qh oP;cases (iY b xs).cps.toList<;>rfl
abbrev A4(κ:ax)(w:aj)(G:TG)(a:AT)(S:SX)(H:List Str)(ta:Nat)(y:Nat->Nat):List (af×aq):=[(123,κ.o' y),(G.tg,dW 150 G.td),(G.td,fk w (.ref S.wm) G.b true G.rn G.dl G.ds G.ns G.pm G.ps G.ti G.ep G.kt),(G.ds,aA ((G.cT.map λl=>aN l.a)++[aN ta]) (G.dep+1)),(G.ns,aA ((G.aL.map λl=>aN l.a)++[aN (y 2)]) (G.ei+1)),(G.dl,aA [] (y 13)),(a.at_,cD w a.es a.ep),(S.wm,fX S.wl),(S.wl,aA (S.wv++bn (H++κ.ws a) y) (y 14)),(G.ps,aA (S.cv++[dX false]++[dX false]) (S.dC+1))]
abbrev Sj(κ:ax)(w:aj)(G:TG)(a:AT)(S:SX)(H:List Str):(Nat->Nat)->Out:=λy=>⟨.ok (.ret .none),A4 κ w G a S H (G.ds+1+y 11) y++(G.ro++κ.lx),(y 2,aA [] 0)::(κ.ex y++[(G.ds+1+y 11,aA (κ.aX y) (0+κ.lO))]),y 0,y 1⟩
abbrev mI(κ:ax)(w:aj)(G:TG)(a:AT)(ta:Nat)(S:SX)(y:Nat->Nat):Out:=El (G.ds< ta) ⟨.ok (.ret .none),Ei κ w (fO G) a S ta 0 y,(JA κ w (fO G) a S ta 0 y).new,y 0,y 1⟩
theorem aI8{κ:ax}{G:TG}(g:κ.Ok (fO G) wm):κ.Ok (fO { G with rs:=true }) wm:=by
 obtain⟨g⟩:=g;refine⟨?_⟩;rcases g with h|⟨J,Z,Y,H⟩|⟨J,Y,H⟩
 ·exact .inl h
 ·exact .inr (.inl ⟨J,Z,R7 Y,H⟩)
 ·exact .inr (.inr ⟨J,R7 Y,H⟩)
theorem yp:(∀(κ:ax)(w:aj)G a S t de out L tk(sz tb:Nat)(H:Xs),bA ((aI w 0 0 (some L) 500).S [] H ⟨nw w G a S [(123,κ.o)] [] de++Jz w G a κ.tag t L tk,sz,tb,Sd,R9 κ w G a S t sz out⟩ (aV Ej (RY L)) fin) (.ok .next,(out sz S (H 1)).new++putAll (Sf κ w G a S t de sz L tk (tb+4)) [1,0,2,3,4,5,7,8,9,10] (out sz S (H 1)).post,(out sz S (H 1)).sz,(out sz S (H 1)).tk))/\(∀(κ:ax)(w:aj)(G:TG)a(S:SX)t u xs de out L tk(sz tb:Nat)(H:Xs),bA ((aI w 0 0 (some L) 500).S [] H ⟨nw w { G with rs:=true } a S [(123,κ.o)] [ag.str xs u] de++Jz w G a κ.tag t L tk,sz,tb,Se,Sc κ w G a S t u xs de out⟩ (aV Ej (RY L)) fin) (.ok .next,(out (H 0 0) (S.fl G.b xs (H 0 2)) (H 2)).new++putAll (Sf κ w { G with rs:=true } a (S.fl G.b xs (H 0 2)) t (de+1) (H 0 0) L tk (H 0 1)) [1,0,2,3,4,5,7,8,9,10] (out (H 0 0) (S.fl G.b xs (H 0 2)) (H 2)).post,(out (H 0 0) (S.fl G.b xs (H 0 2)) (H 2)).sz,(out (H 0 0) (S.fl G.b xs (H 0 2)) (H 2)).tk))/\(∀(κ:ax)(w:aj)G a S t de L tk(J:List ag)(H:Xs),Ends [1,2,3,4,5,6,7,8,9,10,0] ((aI w 0 0 none 400).S [] H ⟨nw w G a S [(123,κ.o)] J de,L,tk,[1,1,1,1,1,1], .nil⟩ (md ry.scope ry.globals ry.closure (R5 G a κ.tag t) (ry.qualname++".<locals>.") (some 120) ry.code none ry.builtins) fin) (.ok (sy srQ ⟨.function,Ek.names,Ek.isGenerator,Ek.isCoroutine,Ek.more⟩ L 120 (.ref 119) []),(nw w G a S [(123,κ.o)] J de++Jz w G a κ.tag t L tk).map some,L+1,tk+3))/\(∀(κ:ax)(w:aj)G a S t de L tk(J:List ag)(H:Xs),Ends (fH (nw w G a S [(123,κ.o)] J de).length) ((aI w 0 0 none 400).S [] H ⟨nw w G a S [(123,κ.o)] J de,L,tk,[], .nil⟩ (ma ry (ym G a κ.tag t)) fin) (.ok (R5 G a κ.tag t),(nw w G a S [(123,κ.o)] J de).map some,L,tk)):=by and_intros<;>intros<;>kernel_rfl
section
variable (κ:ax)(w:aj)(G:TG)(a:AT)(S:SX)(t u:ab)(xs:Str)(de:Nat)
theorem Sk{k:KX}(ok:k.Ok w)(hL:k.aa.objs.size<=k.L)(hn:k.dp+8< bk)(hU:U+320< dP)(aZ:∀b o,k.aa.get? b=some o->ar.get? b=some o)(bZ:∀p∈G.ro++κ.lx,ar.get? p.1=some p.2/\p.1≠k.L/\k.aa.get? p.1=none)(f6:((G.ro++κ.lx).map (·.1)).Nodup)(H:G.ds< ta)(g:∀ta,G.ds< ta->(gW (fO G) S.wm).Ok ta [])(Z:κ.Ok (fO G) S.wm)(ha:qi a)(oO:S.cv.length<=900)(Y:S.wv.length<=900)(J:G.aL.length<=900):Told True (av w) k.bE U (some k.L) ar (.call (.ref 126) (Do (fO G) a ta κ.tag t)) (Eh κ w (fO G) a S ta 0) (λy=>⟨.ok (.ret .none),(mI κ w G a ta S y).post,(mI κ w G a ta S y).new,(mI κ w G a ta S y).sz,(mI κ w G a ta S y).tk⟩):=by
 have e:(λy=>(⟨.ok _,(mI ..).post,(mI ..).new,(mI ..).sz,(mI ..).tk⟩:Out))=λy=>⟨.ok (.ret .none),Ei κ w (fO G) a S ta 0 y,(JA κ w (fO G) a S ta 0 y).new,y 0,y 1⟩:=funext λy=>by unfold mI;exact rR (JE H) rfl
 exact rR e (q8 (aI6 w κ _ a S ta 0 t (g _ H) Z ha oO Y J) ok hL hn hU aZ (.refl _) bZ f6 (λz=>⟨rfl,rfl,rfl,rfl, .refl _⟩) (λz=>rfl))
def yS(x:Nat->Nat)(ta de we:Nat):Nat->Nat:=nc (λi=>match i with
 |11=>ta|13=>de|14=>we|i=>x i)
theorem aI9(g:∀ta,G.ds< ta->(gW (fO G) S.wm).Ok ta [])(gk:κ.Ok (fO G) S.wm)(ha:qi a)(mD:G.cT.length<=900)(oO:S.cv.length<=900)(fp:S.wv.length<=890)(rt:G.aL.length<=900):nV w (.call (.ref 120) (ym G a κ.tag t)) 10 (nw w G a S [(123,κ.o)] [] de++(G.ro++κ.lx)) (Sj κ w G a S []):=by
 refine yd _ (R4 w) rfl rfl (body:=Ej) (by kernel_rfl) (by kernel_rfl) _ [] (λL tk=>yp.2.2.2 κ w G a S t de L tk []) _ 1 3 [1,1,1,1,1,1] _ (by decide) (λL tk=>yp.2.2.1 κ w G a S t de L tk []) (λj=>rfl) (λj=>rfl) ?_;intro k tk s ak Q' E ar ok hL bz jv aZ bZ f6 SR hz ht dm;refine gK SR (λb o e=>aZ _ _ (ok.X b o e)) rfl 0 0 500 Sd (R9 κ w G a S t s.heap.objs.size (mI κ w G a)) (λlow=>?_) nofun (a8 _) _ _ _ _ (λY=>yp.1 ..) λY s' H Z J G'=>?_
 ·exact lr (rR (dA ..) (aE mD (by decide))) λap j=>⟨rfl,by decide,Sk κ w G a S t ok hL (aT [lL (Y0+10) (Y1+1)] (lL (Y0+8) Y1) rfl bz) (aT [lL (Y0+(.m 40 10)) (Y1+3)] (lL (Y0+320) Y1) rfl jv) aZ bZ f6 (low _ (aB (aB (aB az)))) g gk ha oO (bu [lE Y0 890] (lE Y0 900) rfl fp) rt,λj j j=>True.intro⟩
 ·have hc:=Sh H;obtain⟨z,oi⟩:∃z,s.heap.objs.size=G.ds+1+z:=⟨s.heap.objs.size - (G.ds+1),c8 (cz [eQ (Y2+(Y1+1)) Y0] (lE Y0 (Y1+1+Y2)) [-1] 1 rfl (bX (aT [lL Y0 Y1] (lE (Y0+1) Y1) rfl hc))) (b7 [eQ (Y1+(Y0+1)) Y2] (lE (Y0+1+Y1) Y2) rfl (bX (aT [lL Y0 Y1] (lE (Y0+1) Y1) rfl hc)))⟩
  unfold mI at H Z J;rw[JE hc]at H Z J;have S2:=AY H (ix:=[0,1,2,3,4,5,6,7,8,9,10]) (l':=_::A4 κ w G a S [] s.heap.objs.size (yS (Y 1) z de _)) (by decide) rfl;rw[oi]at S2;refine dm (yS (Y 1) z de (S.we+3)) .next s' rfl Z J ?_ G'.live;exact rR sn (rR (bH ..) S2)
theorem aJa(g:∀ta,G.ds< ta->(gW (fO G) S.wm).Ok ta [])(gk:κ.Ok (fO G) S.wm)(ha:qi a)(hx:xs.length<=100)(hy:(iY G.b xs).length<=100)(mD:G.cT.length<=900)(oO:S.cv.length<=900)(fp:S.wv.length<=890)(rt:G.aL.length<=900):nV w (.call (.ref 120) (ym G a κ.tag t)) 10 (nw w { G with rs:=true } a S [(123,κ.o)] [ag.str xs u] de++(G.ro++κ.lx)) (Sj κ w G a S (oP G.b xs)):=by
 refine yd _ (R4 w) rfl rfl (body:=Ej) (by kernel_rfl) (by kernel_rfl) _ [] (λL tk=>yp.2.2.2 κ w { G with rs:=true } a S t de L tk [ag.str xs u]) _ 1 3 [1,1,1,1,1,1] _ (by decide) (λL tk=>yp.2.2.1 κ w { G with rs:=true } a S t de L tk [ag.str xs u]) (λj=>rfl) (λj=>rfl) ?_;intro k tk s ak Q' E ar Z hL bz jv aZ bZ f6 SR hz ht dm;have hl:∀y,(S.fl ..).wv.length<=900:=λy=>by rw[bQ];have:=R6 (iY G.b xs) y;exact aT [lE Y0 890,lE Y1 1] (lE (Y0+Y1) 900) rfl fp this
 refine gK SR (λb o e=>aZ _ _ (Z.X b o e)) rfl 0 0 500 Se (Sc κ w G a S t u xs de (mI κ w { G with rs:=true } a)) (λlow=>?_) nofun (a8 _) _ _ _ _ (λH=>yp.2.1 ..) λH s' J gG Y G'=>?_
 ·exact⟨rfl,by decide,q8 (Rn w { G with rs:=true } S xs u de hx hy (aE fp (by decide))) Z hL (aT [lL (Y0+10) (Y1+1)] (lL (Y0+5) Y1) rfl bz) (aT [lL (Y0+(Ax.m 40 10)) (Y1+3)] (lL (Y0+(Ax.m 40 5)) Y1) rfl jv) aZ (by rw[dQ]) (λj h=>absurd h bi) bN (λj=>⟨rfl,rfl,rfl,rfl,by rw[dQ]⟩) (λj=>rfl),λfl hxx j=>lr (rR (dA ..) (aE mD (by decide))) λap j=>⟨rfl,by decide,Sk κ w { G with rs:=true } a _ t Z hL (aT [lL (Y0+10) (Y1+1)] (lL (Y0+8) Y1) rfl bz) (aT [lL (Y0+(.m 40 10)) (Y1+3)] (lL (Y0+320) Y1) rfl jv) aZ bZ f6 (hxx G.ds (bL _ (aB (aB (aB az))))).1 (λta h=>aI7 (g ta h)) (aI8 gk) ha oO (hl _) rt,λj j j=>True.intro⟩⟩
 ·have hc:=Sh J;obtain⟨z,oi⟩:∃z,H 0 0=G.ds+1+z:=⟨H 0 0 - (G.ds+1),by have:G.ds< H 0 0:=hc;exact c8 (cz [eQ (Y2+(Y1+1)) Y0] (lE Y0 (Y1+1+Y2)) [-1] 1 rfl (bX (aT [lL Y0 Y1] (lE (Y0+1) Y1) rfl this))) (b7 [eQ (Y1+(Y0+1)) Y2] (lE (Y0+1+Y1) Y2) rfl (bX (aT [lL Y0 Y1] (lE (Y0+1) Y1) rfl this)))⟩
  unfold mI at J gG Y;rw[JE hc]at J gG Y;let y:=mH (oP G.b xs).length (yS (H 2) z (de+1) (S.we+AS (iY G.b xs)+3)) (λj=>H 0 2) (H 2);have Z:S.wv++qh (iY G.b xs) (H 0 2)++bn (κ.ws a) (H 2)=S.wv++bn (oP G.b xs++κ.ws a) y:=by rw[uh,<-Si,bH]
  have H:=AY J (ix:=[0,1,2,3,4,5,6,7,8,9,10]) (l':=_::(A4 κ w G a S _ _ y)) (by decide) (by unfold A4;refine rL Z ?_;rfl);simp only[oi]at H;refine dm y .next s' rfl gG Y ?_ G'.live;simp only[sn,bH];exact H
end
def rA:FuncData:=match u9.1.data with
 | .func f=>f|_=>default
abbrev Sn:List Stmt:=bodyOf u9.1
abbrev enE(L:af):Env:=mB u9.1 133 L
structure EX where
 ta:Nat
 aX:List ag
 aP:Nat
 A5:List ag
 wi:List ag
 na:Nat
abbrev yq(w:aj)(G:TG)(S:SX)(x:EX):List (af×aq):=[(x.ta,listOf x.aX.toArray x.aP),(G.tg,dW 150 G.td),(G.td,fk w (.ref S.wm) G.b true G.rn G.dl G.ds G.ns G.pm G.ps G.ti G.ep G.kt),(G.ds,listOf (x.A5++[aN x.ta]).toArray G.dep),(G.ns,listOf (x.wi++[aN x.na]).toArray G.ei)]
abbrev ui(w:aj)(G:TG)(S:SX)(x:EX)(J:List ag)(H:Nat):List (af×aq):=yq w G S x++[(G.dl,listOf J.toArray H),(G.ps,listOf (S.cv++[dX false]).toArray S.dC),(S.wm,fX S.wl),(S.wl,listOf S.wv.toArray S.we)]
abbrev So(w:aj)(G:TG)(tag:Str)(t:ab)(L tk:Nat):List (af×aq):=nc ([(L,⟨.type "frame",none, .dict (cE [⟨aS w.params "self", .str "self" tk, .ref G.tg⟩,⟨aS w.params "tag", .str "tag" (tk+1), .str tag t⟩]) 2,#[]⟩)])
abbrev enQ(ix:List Nat)(w:aj)(G:TG)(S:SX)(x:EX)(tag:Str)(t:ab)(z y v:Str)(next:aM):aF:= .cons none (oJ G tag t) ix (yq w G S x) (λe=>⟨.ok (.ret (.ref (e 2))),yq w G S x,[oK z y v e],e 0,e 1⟩) next
abbrev Sp(k:Int)(t u:ab)(b:Bool)(next:aM):aF:=cK "int.__eq__" [.int k t, .int 1 u] (λ_=> .bool b) next
theorem aJb(w:aj):(K w.params).lookup 133=some ⟨u9.1.cls,u9.1.dict, .func rA,u9.1.slots⟩:=by kernel_rfl
abbrev aJc:Str:=nc ("C14NWriterTarget.end")
def Em:Scope:=nc (rA.scope)
abbrev Sq(G:TG)(tag:Str)(t:ab):List (Str×ag):=nc ([("self", .ref G.tg),("tag", .str tag t)])
def A6(w:aj)(n:Nat):Nat:=nc (match w.params.followText "fstring-hands-on-the-str" with
 |true=>n+3|false=>n+2)
theorem Sr{G:TG}(g:(gW G wm).Ok ta aX):(gW { G with rs:=true } wm).Ok ta aX:=⟨g.hy,g.jr,g.jR,g.mE,g.oz,g.hz,g.tV,g.ra,g.rb,g.rf,g.rh⟩
theorem aJd{G:TG}{x:Nat}(g:(gW G wm).Tag x):(gW { G with rs:=true } wm).Tag x:=⟨g.hx,g.ni,g.fW,g.hex⟩
theorem aJe{k:Int}{b:Bool}{next:aM}(H:(k==1)=b)(c:bJ next ao w A U fr aa):(Sp k t u b next).Ok ao (av w) A U fr aa lv:=dY (λz=>eM (r:=λz=> .bool b) slot_int_eq aVf (args_int_eq _ _) (PySem.gives_int_eq k 1 t u) (λs=>jJ ..) λQ s h=>by exact rR H (h 0 s.toks)) λe z=>c e lv
def oQ(c x:Nat):Str:=match c with
 |0=>cS|_=>iv x
def rB(c x:Nat):Str:=match c with
 |0=>cS|_=>iu x
def Ss(c x:Nat):Str:=match c with
 |0=>""|_=>bv x
abbrev JF(w:aj)(G:TG)(S:SX)(e:EX)(c x k:Nat)(b:Bool)(t:ab):aF:=enQ [0,1,2,3,4] w G S e (rB c x) t (oQ c x) cS (Ss c x) λq=>rk 9 S.wl S.wv S.we (.str ("</"++oQ c x++">") (A6 w (q 1))) λa=>xi 7 G.ps S.cv (.bool false) S.dC λp=>vm 7 G.ps S.cv (S.dC+1) k λH=>Sp k (H 2) (H 1) b λH=>xi 4 G.ds e.A5 (.ref e.ta) G.dep λ_=>xi 5 G.ns e.wi (.ref e.na) G.ei λ_=> .nil
def Su(w:aj)(G:TG)(S:SX)(e:EX)(c x k:Nat)(b:Bool)(t u:ab)(xs:Str)(H:Nat)(p:Nat):aF:=match p with
 |0=>JF w G S e c x k b t|_=>RZ [1,2,5,6,7,8] w { G with rs:=true } S xs u H λH=>JF w G (S.fl G.b xs (H 2)) e c x k b t
def wj(xs:Str)(u:ab)(p:Nat):List Value:=nc (match p with
 |0=>[]|_=>[ag.str xs u])
def aJf(p:Nat):List Nat:=(dN 51 0x1000010000128c0300c03186010800008000004a0006010800008000004a)++((match p with
 |0=>[]|_=>(dN 18 0x800008000094200c40))++(dN 146 0x2318c62006300003000001ac02294a52006300003000001ac84200600006018003000001ac5f1008018c0000c000006b000484210400c6000060000035894a5240900401004211014310000008000080000943008400004000002))
def uj(p:Nat):Nat:=nc (match p with
 |0=>0|_=>1)
noncomputable def ul(G:TG)(S:SX)(xs:Str)(p:Nat)(f:Nat):SX:=match p with
 |0=>S|_=>S.fl G.b xs f
def JG(H p:Nat):Nat:=nc (match p with
 |0=>H|_=>H+1)
abbrev JH(w:aj)(G:TG)(S:SX)(e:EX)(c x:Nat)(b:Bool)(H J:Nat):List (af×aq):=[(e.ta,listOf e.aX.toArray e.aP),(G.tg,dW 150 G.td),(G.td,fk w (.ref S.wm) G.b true b G.dl G.ds G.ns G.pm G.ps G.ti G.ep G.kt),(G.ds,listOf e.A5.toArray (G.dep+1)),(G.ns,listOf e.wi.toArray (G.ei+1)),(G.dl,listOf ([]:List ag).toArray H),(G.ps,listOf S.cv.toArray (S.dC+1)),(S.wm,fX S.wl),(S.wl,listOf (S.wv++[ag.str ("</"++oQ c x++">") J]).toArray (S.we+1))]
section
variable (w:aj)(G:TG)(S:SX)(e:EX)(c x k:Nat)(b:Bool)(xs:Str)(t u:ab)(de p:Nat)(hc:c=0\/c=1)(hp:p=0\/p=1)
include hc hp
theorem aJg(L tk sz tb:Nat)(H:Xs):Ends [1,2,3,4,5,6,7,8,9] ((aI w 0 0 (some L) 500).S [] H ⟨ui w G S e (wj xs u p) de++So w G (rB c x) t L tk,sz,tb,aJf p,Su w G S e c x k b t u xs de p⟩ (aV Sn (enE L)) fin) (.ok .next,(JH w G (ul G S xs p (H 0 2)) e c x b (JG de p) (A6 w (H (uj p) 1))).map some,H (uj p+6) 0,H (uj p+6) 1):=by rcases hc with rfl|rfl<;>rcases hp with rfl|rfl<;>(revert w;refine byRow2 "fstring-hands-on-the-str" (λw=>?_) (λw=>?_)<;>kernel_rfl)
theorem aJh(H tk:Nat)(J:Xs):Ends [1,2,3,4,5,6,7,8,9,0] ((aI w 0 0 none 400).S [] J ⟨ui w G S e (wj xs u p) de,H,tk,[1,1,1,1], .nil⟩ (md rA.scope rA.globals rA.closure (Sq G (rB c x) t) (rA.qualname++".<locals>.") (some 133) rA.code none rA.builtins) fin) (.ok (sy aJc ⟨.function,Em.names,Em.isGenerator,Em.isCoroutine,Em.more⟩ H 133 (.ref 132) []),(ui w G S e (wj xs u p) de++So w G (rB c x) t H tk).map some,H+1,tk+2):=by kernel_rfl
theorem aJi(H tk:Nat)(J:Xs):Ends (fH (ui w G S e (wj xs u p) de).length) ((aI w 0 0 none 400).S [] J ⟨ui w G S e (wj xs u p) de,H,tk,[], .nil⟩ (ma rA ⟨[.ref G.tg, .str (rB c x) t],[]⟩) fin) (.ok (Sq G (rB c x) t),(ui w G S e (wj xs u p) de).map some,H,tk):=by kernel_rfl
end
def yr(b:Bool)(xs:Str)(p:Nat):List Str:=match p with
 |0=>[]|_=>oP b xs
abbrev En(w:aj)(G:TG)(S:SX)(e:EX)(c x:Nat)(b:Bool)(H:List Str)(y:Nat->Nat):List (af×aq):=[(e.ta,listOf e.aX.toArray e.aP),(G.tg,dW 150 G.td),(G.td,fk w (.ref S.wm) G.b true b G.dl G.ds G.ns G.pm G.ps G.ti G.ep G.kt),(G.ds,listOf e.A5.toArray (G.dep+1)),(G.ns,listOf e.wi.toArray (G.ei+1)),(G.dl,listOf ([]:List ag).toArray (y 13)),(G.ps,listOf S.cv.toArray (S.dC+1)),(S.wm,fX S.wl),(S.wl,listOf (S.wv++bn (H++["</"++oQ c x++">"]) y).toArray (y 14))]
abbrev aJj(w:aj)(G:TG)(S:SX)(e:EX)(c x:Nat)(b:Bool)(H:List Str):(Nat->Nat)->Out:=λy=>⟨.ok (.ret .none),En w G S e c x b H y++G.ro,[],y 0,y 1⟩
abbrev Sv(G:TG)(tag:Str)(t:ab):Code:=nc (.call (.ref 133) ⟨[.ref G.tg, .str tag t],[]⟩)
theorem aJk{G:TG}{S:SX}{xs:Str}{p:Nat}(h:S.wv.length<=890):(ul G S xs p f).wv.length<=1000:=by
 unfold ul;split;·exact aE h (dF ..)
 ·simp only[bQ];have:=R6 (iY G.b xs) f;exact aT [lE Y0 890,lE Y1 1] (lE (Y0+Y1) 1000) rfl h this
theorem aJl(G:TG)(S:SX)(xs:Str)(p f:Nat):(ul G S xs p f).wv=S.wv++bn (yr G.b xs p) (λ_=>f):=by
 unfold ul yr;split
 ·show S.wv=S.wv++[]
  rw[dQ]
 ·show S.wv++qh _ _=_;rw[Si]
theorem ent(w:aj)(G:TG)(S:SX)(e:EX)(c x k:Nat)(b:Bool)(xs:Str)(t u:ab)(J p:Nat)(hc:c=0\/(c=1/\(gW G S.wm).Tag x/\∃e∈G.ents,e.u=bv x))(Z:p=0\/p=1)(g:(gW G S.wm).Ok e.ta e.aX)(hx:xs.length<=100)(hy:(iY G.b xs).length<=100)(vP:e.A5=G.cT.map λl=>aN l.a)(ng:e.wi++[aN e.na]=G.aL.map λl=>aN l.a)(aJm:e.wi.length<=1000)(mD:G.cT.length<=900)(hk:S.cv.length=k)(Sw:k<=900)(hb:(((k:Int)==1)=b))(fp:S.wv.length<=890):nV w (Sv G (rB c x) t) 9 (ui w G S e (wj xs u p) J++G.ro) (aJj w G S e c x b (yr G.b xs p)):=by
 have A7:=hc.imp id And.left;refine yd _ (aJb w) rfl rfl (body:=Sn) (by kernel_rfl) (by kernel_rfl) _ [] (aJi w G S e c x xs t u J p A7 Z) _ 1 2 [1,1,1,1] _ (by decide) (aJh w G S e c x xs t u J p A7 Z) (λz=>rfl) (λz=>rfl) ?_;intro k0 tk s ak Q' E ar H hL bz jv aZ bZ f6 SR hz ht dm;have Sx:(gW { G with rs:=true } S.wm).p1 w e.ta e.aX e.aP=yq w G S e:=by show [_,_,_,_,_]=_;exact rL vP (rL ng rfl)
 have ny:ua k0 ar (gW { G with rs:=true } S.wm):=⟨aZ,bZ,f6,hL,aT [lL (Y0+9) (Y1+1)] (lL (Y0+6) Y1) rfl bz⟩
 have qt:Told True (av w) k0.bE k0.un (some k0.L) ar (oJ G (rB c x) t) (yq w G S e) (λq=>⟨.ok (.ret (.ref (q 2))),yq w G S e,[oK (oQ c x) cS (Ss c x) q],q 0,q 1⟩):=by
  rcases hc with rfl|⟨rfl,gx,Iv⟩
  ·exact Sx▸x9 H ny (aT [lL (Y0+(.m 40 9)) (Y1+3)] (lL (Y0+240) Y1) rfl jv) (Sr g) 99 (by decide)
  ·exact Sx▸QY H ny (aT [lL (Y0+(.m 40 9)) (Y1+3)] (lL (Y0+240) Y1) rfl jv) (Sr g) (aJd gx) Iv
 have rest:∀(Y:SX)lv,Y.wm=S.wm->Y.cv=S.cv->Y.wv.length<=1000->(JF w G Y e c x k b t).Ok True _ k0.bE k0.un _ ar lv:=λY lv e1 e2 hw=>by refine⟨rfl,by decide,(show Told True (av w) k0.bE k0.un _ ar _ _ _ from ?_),λq z z=>v7 hw λz z=>nX (λA' z z=>xh _ _ _ _ (e2▸aT [eQ Y0 Y1,lE Y1 900] (lE Y0 1000) rfl hk Sw)) λz z z=>AX (e2▸hk) (bu [lE Y0 900] (lE Y0 1001) rfl Sw) λln z=>aJe hb λz z=>nX (λA' z z=>xh _ _ _ _ (rR (vP ..) (rR (dA ..) (aE mD (dF ..))))) λz z z=>nX (λA' z z=>xh _ _ _ _ aJm) λz z z=>True.intro⟩;show Told True _ k0.bE k0.un _ ar _ ((e.ta,_)::_::_::_) (λq=>⟨_,_::_::_::_,_,_,_⟩);exact rR e1 qt
 have oks:∀lv,(Su w G S e c x k b t u xs J p).Ok True (av w) k0.bE k0.un (some k0.L) ar lv:=λlv=>by
  rcases Z with rfl|rfl
  ·exact rest S lv rfl rfl (bu [lE Y0 890] (lE Y0 1000) rfl fp)
  ·exact⟨rfl,by decide,q8 (Rn w { G with rs:=true } S xs u J hx hy (bu [lE Y0 890] (lE Y0 900) rfl fp)) H hL (aT [lL (Y0+9) (Y1+1)] (lL (Y0+5) Y1) rfl bz) (aT [lL (Y0+(Ax.m 40 9)) (Y1+3)] (lL (Y0+(Ax.m 40 5)) Y1) rfl jv) aZ (by rw[dQ]) (λz h=>absurd h bi) bN (λz=>⟨rfl,rfl,rfl,rfl,by rw[dQ]⟩) (λz=>rfl),λfl z z=>rest _ _ rfl rfl (aJk (p:=1) fp)⟩
 refine wp_run SR (λb o e=>aZ _ _ (H.X b o e)) rfl 0 0 500 _ [1,2,3,4,5,6,7,8,9] _ (λz=>oks _) nofun (a8 _) (by decide) _ _ _ _ (λH=>aJg w G S e c x k b xs t u J p A7 Z k0.L tk _ _ H) λH s' Y gG jT G'=>?_
 let y:=mH (yr G.b xs p).length (λi=>match i with|0=>H (uj p+6) 0|1=>H (uj p+6) 1|13=>JG J p|_=>(ul G S xs p (H 0 2)).we+1) (λz=>H 0 2) (λz=>A6 w (H (uj p) 1));have ey:(ul G S xs p (H 0 2)).wv++[ag.str ("</"++oQ c x++">") (A6 w (H (uj p) 1))]=S.wv++bn (yr G.b xs p++["</"++oQ c x++">"]) y:=by rw[aJl,uh,bH];rfl
 have e3:JH w G (ul G S xs p (H 0 2)) e c x b (JG J p) (A6 w (H (uj p) 1))=En w G S e c x b (yr G.b xs p) y:=by unfold JH En;refine rL ey ?_;rcases Z with rfl|rfl<;>rfl
 exact dm y .next s' rfl gG jT (e3▸Y) G'.live
abbrev TG.dict(G:TG)(w:aj):Obj:=fk w G.wr G.b G.rs G.rn G.dl G.ds G.ns G.pm G.ps G.ti G.ep G.kt
abbrev wn(G:TG)(w:aj)(J:List ag)(H:Nat):List (af×aq):=[(G.tg,dW 150 G.td),(G.td,G.dict w),(G.dl,aA J H)]
abbrev JI(G:TG)(x:Str)(t:ab):Code:=nc (.call (.ref 97) ⟨[.ref G.tg, .str x t],[]⟩)
abbrev um(G:TG)(w:aj)(H:Nat)(J:List ag)(ne:Nat)(Z:List ag)(Y:Nat):List (af×aq):=[(G.tg,dW 150 G.td),(G.td,G.dict w),(G.dl,aA [] Y),(G.ns,aA (Z++[aN H]) G.ei),(H,aA J ne)]
abbrev JJ(G:TG)(p u:Str)(t t2:ab):Code:=nc (.call (.ref 113) ⟨[.ref G.tg, .str p t, .str u t2],[]⟩)
def Sy:List Nat:=(dN 42 0x4121084180420000200000104001804200002000001040108421)
def dtR(w:aj)(G:TG)(J:List ag)(H:Nat)(x:Str)(t:ab)(sz tk:Nat)(Y:Xs):=(aI w 2 0 none 500).C [] Y ⟨wn G w J H,sz,tk,Sy,ik 3 G.dl J H (.str x t) λ_=> .nil⟩ (JI G x t) fin
def JK(w:aj)(G:TG)(J:List ag)(H:Nat)(x:Str)(t:ab):(Nat->Nat)->Out:=λe=>⟨.ok (.ret .none),wn G w (J++[.str x t]) (H+1),[],e 0,e 1⟩
theorem aJn(w:aj)(G:TG)(J:List ag)(H:Nat)(x:Str)(t:ab)(sz tk:Nat)(Y:Xs):Ends [1,2,3] (dtR w G J H x t sz tk Y) (bW (JK w G J H x t λi=>Y 0 i)):=by kernel_rfl
theorem aJo(Z:aK w aa)(Y:aa.NoLimit)(G:TG)(H:List ag)(J:Nat)(x:Str)(t:ab)(hz:H.length<=1000):Any ao w aa 2 (JI G x t) (wn G w H J) (JK w G H J x t):=bS Z Y 500 Sy [1,2,3] (λz z=>ik 3 G.dl H J _ λz=> .nil) (by decide) _ (λz=>rfl) (λH H z z z=>lr hz λz z=>True.intro) λsz tk H=>aJn ..
abbrev mJ(w:aj)(o:aq)(G:TG)(S:SX)(J:List ag)(H:Nat):List (af×aq):=[(123,o),(G.tg,dW 150 G.td),(G.td,fk w (.ref S.wm) G.b G.rs G.rn G.dl G.ds G.ns G.pm G.ps G.ti G.ep G.kt),(G.ds,listOf (G.cT.map λl=>aN l.a).toArray G.dep),(G.ns,listOf (G.aL.map λl=>aN l.a).toArray G.ei),(G.dl,listOf J.toArray H),(S.wm,fX S.wl),(S.wl,listOf S.wv.toArray S.we),(G.ps,listOf (S.cv++[dX false]).toArray S.dC)]
abbrev TF.f0(T:TF)(w:aj)(D:DS):Obj:=nc (⟨.type "frame",none, .dict (cE [⟨aS w.params "lexer", .str "lexer" (T.k 0), .ref T.lx⟩,⟨aS w.params "target", .str "target" (T.k 1), .ref T.tg⟩,⟨aS w.params "deep", .str "deep" (T.k 2), .int T.dp T.td⟩,⟨aS w.params "red", .str "red" (T.k 3), .float D.r D.tr⟩,⟨aS w.params "green", .str "green" (T.k 4), .float D.g D.tg⟩,⟨aS w.params "blue", .str "blue" (T.k 5), .float D.b D.tb⟩]) 6,#[]⟩)
abbrev Sz(c:bB)(ix:List Nat)(pre:List (af×aq))(out:(Nat->Nat)->Out)(next:aM):aF:=nc (.cons none c ix pre out next)
abbrev TG.bV(G:TG)(b:Bool)(y:Nat->Nat):TG:=nc ({ G with rs:=true,rn:=b,dep:=y 5,ei:=y 6 })
abbrev SX.bV(S:SX)(H:List Str)(y:Nat->Nat):SX:={ S with wv:=S.wv++bn H y,we:=y 8,dC:=y 9 }
abbrev LX.bV(X:LX)(N:Int)(y:Nat->Nat):LX:={ X with n:=N,tn:=y 3,e1:=y 4 }
abbrev gu(w:aj)(o:aq)(G:TG)(S:SX)(J:List ag)(H:Nat)(X:LX)(l:List (Nat×ab))(Y:List ag)(e2:Nat):List (af×aq):=mJ w o G S J H++X.cC w l Y e2
abbrev jw(w:aj)(T:TF)(G:TG)(X:LX)(D:DS)(H:HS)(f:Nat):List (af×aq):=nc ([(T.L,{ T with tg:=G.tg,lx:=X.lx }.oA w D H f 1)])
abbrev JL(a b:Int)(t u:ab)(r:Bool)(next:aM):aF:=cK "int.__le__" [.int a t, .int b u] (λ_=> .bool r) next
abbrev SC(ix:List Nat)(X:LX)(w:aj)(W:List Nat)(t:ab)(e2:Nat)(next:aM):aF:= .cons (some 2) (pX X) ix (X.im w [.str ⟨W.toArray⟩ t] e2) (zT X w ⟨W.toArray⟩ t none e2) next
abbrev SD(ix:List Nat)(X:LX)(w:aj)(W:List Nat)(t:ab)(e2:Nat)(next:aM):aF:= .cons (some 2) (zR X ⟨W.toArray⟩ t) ix (X.im w [] e2) (zU X w ⟨W.toArray⟩ t none e2) next
def SE(w:aj)(o:aq)(G:TG)(S:SX)(X:LX)(H:List Str)(l:List (Nat×ab))(W:List Nat)(N:Int)(b:Bool):(Nat->Nat)->Out:=λy=>
 ⟨.ok (.ret .none),gu w o (G.bV b y) (S.bV H y) [] (y 7) (X.bV N y) l [.str ⟨W.toArray⟩ (y 22)] (y 10),[],y 0,y 1⟩
abbrev Eo(X:LX)(G:TG)(d:Int)(r g b:UInt64)(t1 t2 H J:ab):Code:=nc (.call (.ref 262) ⟨[.ref X.lx, .ref G.tg, .int d t1, .float r t2, .float g H, .float b J],[]⟩)
abbrev aJp(G:TG)(H:HS):Code:=nc (.call (.ref 133) ⟨[.ref G.tg, .str H.tag H.tt],[]⟩)
abbrev TF.rD(T:TF)(F:List Nat)(a:Nat->Nat):TF:=nc ({ T with nm:=⟨F.toArray⟩,tn:=a 2,k:=λi=>bif bY i.val 6 then a 1 else T.k i })
def SF:List Nat:=(dN 21 0x2528401040000020000200002a)
def JM(w:aj)(T:TF)(X:LX)(D Dv:DS)(l J Z:List (Nat×ab))(W F:List Nat)(H Y:Int)(f e2:Nat):aF:=zV 0 8 { X with lx:=T.lx } w l J e2 F H λa=> .cons (some 10) (qU T.L) [9,0,1,2,3,4,5,6,7,8] (ip (T.rD F a) { X with n:=H,tn:=a 3,e1:=a 4 } w D 0 J [] e2) (iq (T.rD F a) { X with n:=H,tn:=a 3,e1:=a 4 } w Dv W Z Y f e2) λ_=> .nil
theorem aJq(w:aj)(T:TF)(X:LX)(D Dv:DS)(l l1 Y:List (Nat×ab))(W F:List Nat)(Z J:Int)(f:Nat)(hf:f=1\/f=2)(e2 sz tk:Nat)(H:Xs):Ends [0,1,2,3,4,5,6,7,8,9] ((aI w 12 0 none 900).S [] H ⟨LX.cC { X with lx:=T.lx } w l [] e2++[(T.L,T.f0 w D)],sz,tk,SF,JM w T X D Dv l l1 Y W F Z J f e2⟩ (aV (iw.take 2) (kB T.L)) fin) (.ok .next,(LX.cC { X with lx:=T.lx,n:=J,tn:=H 1 3,e1:=H 1 4 } w Y [.str ⟨W.toArray⟩ (H 1 22)] (e2+1)++[(T.L,(T.rD F (H 0)).aJ w (Dv.ext W (H 1)) f)]).map some,H 1 0,H 1 1):=by rcases hf with rfl|rfl<;>kernel_rfl
def SG:List Nat:=(dN 125 0x2004210801f08421003e10842007c2108400f84210801f0005f000000000010000009600000000be000000000020000012c000000017c000000000040000025800002d6a1880000040000400004a)
abbrev oU(T:TF)(H:HS)(U V W:SI)(sz tk:Nat)(a b c:Nat->Nat):AT:=nc (⟨sz,5,T.nm,H.col,U.s,V.s,W.s,T.tn,H.tc,a 2,b 2,c 2,tk,tk+1,tk+2,a 1,b 1⟩)
def JN(w:aj)(T:TF)(H:HS)(G:TG)(S:SX)(o:aq)(J:List ag)(Y:Nat)(U V W:SI)(sz tk:Nat)(out:AT->(Nat->Nat)->Out):aF:=vM H.pu H.tp 1024 (tk+3) U λa=>vM H.lg H.tl 4194304 (a 1+1) V λb=>vM H.hu H.th 64 (b 1+1) W λc=>
 Sz (.call (.ref 120) (ym G (oU T H U V W sz tk a b c) H.tag H.tt)) [1,2,3,4,5,6,0,7,8,9] (nw w G (oU T H U V W sz tk a b c) S [(123,o)] J Y) (λy=>⟨.ok (.ret .none),(out (oU T H U V W sz tk a b c) y).post,(out (oU T H U V W sz tk a b c) y).new,(out (oU T H U V W sz tk a b c) y).sz,(out (oU T H U V W sz tk a b c) y).tk⟩) λ_=> .nil
theorem aJr(w:aj)(T:TF)(X:LX)(D:DS)(H:HS)(G:TG)(S:SX)(o:aq)(f:Nat)(hf:f=1\/f=2)(Z:List ag)(de:Nat)(U V W:SI)(out:AT->(Nat->Nat)->Out)(sz tk:Nat)(J:Xs):bA ((aI w 12 0 (some T.L) 900).S [] J ⟨mJ w o G S Z de++[(T.L,{ T with tg:=G.tg }.oA w D H f 1)],sz,tk,SG,JN w T H G S o Z de U V W sz tk out⟩ (aV ((iw.drop 6).take 1) (kB T.L)) fin) (.ok .next,let Y:=oU T H U V W sz tk (J 2) (J 5) (J 8);(out Y (J 9)).new++putAll ((sz,cD w Y.es Y.ep)::(mJ w o G S Z de++[(T.L,{ T with tg:=G.tg }.oA w D H f 1)])) [1,2,3,4,5,6,0,7,8,9] (out Y (J 9)).post,(out (oU T H U V W sz tk (J 2) (J 5) (J 8)) (J 9)).sz,(out (oU T H U V W sz tk (J 2) (J 5) (J 8)) (J 9)).tk):=by rcases hf with rfl|rfl<;>kernel_rfl
def SH(b:List ck)(i:Nat):List Stmt:=pB b[i]? 0
def SJ(b:List ck)(i:Nat):PySem.Expr:=pE b[i]? 0
abbrev Ep:List Stmt:=SH iw 8
abbrev Er:PySem.Expr:=SJ iw 8
def SL(κ:Nat)(w:aj)(T:TF)(X:LX)(W:List Nat)(d:Int)(t:ab)(e2:Nat):aF:=SC [0,1,2] X w W t e2 λa=>match κ with
 |0=>cB ⟨W.toArray⟩ "" t (a 1+1) true λ_=>SD [0,1,2] X w W t (e2+1) λ_=> .nil|_=>cB ⟨W.toArray⟩ "" t (a 1+1) false λ_=>CZ W t d λi=>JL d T.dp (i 2) T.td true λ_=>SD [0,1,2] X w W t (e2+1) λ_=> .nil
def rkO(w:aj)(T:TF)(o:aq)(G:TG)(S:SX)(J:List ag)(Y:Nat)(X:LX)(l:List (Nat×ab))(W:List Nat)(d:Int)(t:ab)(e2:Nat)(D:DS)(b:Bool)(H:List Str)(l':List (Nat×ab))(Z:List Nat)(N:Int):aF:=SC [9,10,17] X w W t e2 λa=>cB ⟨W.toArray⟩ "" t (a 1+1) false λ_=>CZ W t d λi=>JL d T.dp (i 2) T.td false λ_=>CZ W t d λj=>
 .cons none (Eo X G d D.r D.g D.b (j 2) D.tr D.tg D.tb) (fH 18) (gu w o G S J Y X l [] (e2+1)) (SE w o G S X H l' Z N b) λ_=> .nil
def aJs(κ:Nat):List Nat:=match κ with
 |0=>(dN 42 0x402082000001000010000120be42104010400000200002000024)|_=>(dN 49 0x2010410000008000080000905f2088000be42104010400000200002000024)
def SM:List Nat:=(dN 42 0x409ce62980139805f98a6000bf39cc405a800001400014000153)
def SN(κ:Nat):Nat:=nc (match κ with
 |0=>2|_=>4)
section
variable (w:aj)(T:TF)(o:aq)(G:TG)(S:SX)(dv:List ag)(de:Nat)(X:LX)(l:List (Nat×ab))(W:List Nat)(d:Int)(t:ab)(e2:Nat)(D:DS)(H:HS)(f:Nat)(hf:f=1\/f=2)
include hf
theorem aJt(κ:Nat)(Y:κ=0\/κ=1)(sz tk:Nat)(J:Xs):Ends [0,1,2,3] ((aI w 2 0 none 500).S [] J ⟨X.im w [.str ⟨W.toArray⟩ t] e2++jw w T G X D H f,sz,tk,aJs κ,SL κ w T X W d t e2⟩ (aV Ep (kB T.L)) fin) (.ok .brk,(X.im w [.str ⟨W.toArray⟩ t] (e2+2)++jw w T G X { D with ky:=W,ty:=t } H f).map some,J (SN κ) 0,J (SN κ) 1):=by rcases hf with rfl|rfl<;>rcases Y with rfl|rfl<;>kernel_rfl
theorem aJu(b:Bool)(Y:List Str)(l':List (Nat×ab))(Z:List Nat)(N:Int)(sz tk:Nat)(J:Xs):Ends (fH 19) ((aI w 2 0 (some T.L) 500).S [] J ⟨gu w o G S dv de X l [.str ⟨W.toArray⟩ t] e2++jw w T G X D H f,sz,tk,SM,rkO w T o G S dv de X l W d t e2 D b Y l' Z N⟩ (aV Ep (kB T.L)) fin) (.ok .next,(gu w o (G.bV b (J 5)) (S.bV Y (J 5)) [] (J 5 7) (X.bV N (J 5)) l' [.str ⟨Z.toArray⟩ (J 5 22)] (J 5 10)++jw w T G X { D with ky:=W,ty:=t } H f).map some,J 5 0,J 5 1):=by rcases hf with rfl|rfl<;>kernel_rfl
end
def SO(w:aj)(T:TF)(G:TG)(S:SX)(J:List ag)(H:Nat):aF:= .cons (some 2) (JI G T.nm T.tn) [0,1,2] (wn { G with wr:= .ref S.wm } w J H) (JK w { G with wr:= .ref S.wm } J H T.nm T.tn) λ_=> .nil
abbrev A8(w:aj)(G:TG)(S:SX)(x:EX)(J:List ag)(H:Nat):List (af×aq):=(ui w G S x J H).drop 1
def JO(w:aj)(G:TG)(S:SX)(x:EX)(H:HS)(Y:List ag)(J:Nat)(out:(Nat->Nat)->Out):aF:=Sz (aJp G H) (fH 8) (A8 w G S x Y J) (λy=>⟨.ok (.ret .none),(out y).post,[],(out y).sz,(out y).tk⟩) λ_=> .nil
def SP:List Nat:=(dN 19 0x80410400000200002000024)
def SU:List Nat:=(dN 19 0x80910400000200002000029)
section
variable (w:aj)(T:TF)(G:TG)(S:SX)(dv:List ag)(de:Nat)(X:LX)(D:DS)(H:HS)(f:Nat)(hf:f=1\/f=2)
include hf
theorem aJv(sz tk:Nat)(J:Xs):Ends (fH 4) ((aI w 2 0 none 500).S [] J ⟨wn { G with wr:= .ref S.wm } w dv de++jw w T G X D H f,sz,tk,SP,SO w T G S dv de⟩ (aV ((iw.drop 7).take 1) (kB T.L)) fin) (.ok .next,(wn { G with wr:= .ref S.wm } w (dv++[.str T.nm T.tn]) (de+1)++jw w T G X D H f).map some,J 0 0,J 0 1):=by rcases hf with rfl|rfl<;>kernel_rfl
theorem aJw(x:EX)(out:(Nat->Nat)->Out)(sz tk:Nat)(J:Xs):bA ((aI w 2 0 (some T.L) 500).S [] J ⟨A8 w G S x dv de++jw w T G X D H f,sz,tk,SU,JO w G S x H dv de out⟩ (aV ((iw.drop 9).take 1) (kB T.L)) fin) (.ok .next,putAll (A8 w G S x dv de++jw w T G X D H f) (fH 8) (out (J 0)).post,(out (J 0)).sz,(out (J 0)).tk):=by rcases hf with rfl|rfl<;>kernel_rfl
end
theorem aJx(w:aj)(L:af)(pre:List (af×aq))(sz tk:Nat)(H:Xs):bA ((aI w 0 0 none 300).S [] H ⟨pre,sz,tk,[], .nil⟩ (MR Er (kB L) (fx Er (kB L))) fin) (.ok true,pre,sz,tk):=by kernel_rfl
def roP(b:List ck)(i:Nat):Pos:=(oS b[i]?).pos
theorem aJy:iw=iw.take 2++((iw.drop 2).take 3++((iw.drop 5).take 1++((iw.drop 6).take 1++((iw.drop 7).take 1++([.While Er Ep [] (roP iw 8)]++(iw.drop 9).take 1))))):=by kernel_rfl
structure SI.Ok(V:SI)(x:UInt64)(k:Int):Prop where
 inf:lf (d6 k)=false
 mul:iI x (d6 k)=V.r
 int:∃sg m e,BK V.r= .fin sg m e/\BL sg m e=V.i
 lim:V.i.natAbs.log2< 1920
 txt:gB (toString V.i)=V.s
structure JP(U V W:SI)(D:DS)(J:Str):Prop where
 u:U.Ok D.r 2097152
 v:V.Ok D.g 2097152
 w:W.Ok D.b 2097152
 j:je " " [U.s,V.s,W.s]=J
 tl:sA (([U.s,V.s,W.s]:List Str).toArray.foldl (· +·.length+(" ":Str).length) 0)=false
 jl:J.length<=gz
structure JQ(ao:Prop)(w:aj)(aa:aw)(r g b h l p m:UInt64)(k:Int)(x c:Nat):Prop where
 tri:∀t u x:ab,Any ao w aa 5 (gF 175 [.float r t, .float g u, .float b x]) [] (cQ h l p)
 way:(c=0/\(kW p 0 !=some .eq)=false)\/(c=1/\(kW p 0 !=some .eq)=true/\iI h 4618441417868443648=m/\(∃sg n e,BK m= .fin sg n e/\BL sg n e=k)/\
  (decide (k< -(2 ^ 63:Int))||decide (k>=2 ^ 63))=false/\(pA k ("rygcbm":Str).length).bind (("rygcbm":Str).cps[·]?)=some x)
section
variable {next:aM}
theorem aJz{x:UInt64}{i:Int}(H:lf (d6 i)=false)(h:iI x (d6 i)=r)(k:bJ next ao w A U fr aa):(cK "float.__mul__" [.float x t, .int i u] (λk=> .float r k) next).Ok ao (av w) A U fr aa lv:=by subst h;exact dY (λz=>eM WZ W0 (W3 _ _) (aTa x t i u (by refine rR H ?_;decide)) (λs=>rfl) λQ s k=>k _ _) λe z=>k e lv
theorem SW{x:UInt64}{i:Int}(h:∃J m e,BK x= .fin J m e/\BL J m e=i)(k:bJ next ao w A U fr aa):(zF x i t next).Ok ao (av w) A U fr aa lv:=by refine mX h λJ m e Y H=>?_;subst H;exact dY (λz=>eM aSw aSx (aSy _) (aSz t Y) (λs=>rfl) λQ s k=>k _ _) λe z=>k e lv
theorem SY{i:Int}{s:Str}(H:i.natAbs.log2< 1920)(J:gB (toString i)=s)(k:bJ next ao w A U fr aa):(cK "int.__repr__" [.int i t] (λk=> .str s k) next).Ok ao (av w) A U fr aa lv:=by subst J;exact dY (λz=>eM PySem.F.slot_int_repr PySem.F.entry_int_repr (PySem.F.args_int_repr_1 _) (aVg i t H) (λs=>jJ ..) λQ s k=>⟨int_text_fits H,k _ _⟩) λe z=>k e lv
theorem yt{x:UInt64}{n:Int}{V:SI}(H:V.Ok x n)(k:bJ next ao w A U fr aa):(vM x t n u V next).Ok ao (av w) A U fr aa lv:=aJz H.inf H.mul λz z=>SW H.int λz z=>SY H.lim H.txt λe lv=>k e lv
theorem SZ{r:Bool}(H:decide (a<=b)=r)(k:bJ next ao w A U fr aa):(JL a b t u r next).Ok ao (av w) A U fr aa lv:=dY (λz=>eM (r:=λz=> .bool r) PySem.F.slot_int_le PySem.F.entry_int_le (PySem.F.args_int_le_2 _ _) (gives_int_le a b t u) (λs=>jJ ..) λQ s h=>H▸h 0 s.toks) λe z=>k e lv
theorem A9{s:Str}{i:Int}{x:Nat}(H:(decide (i< -(2 ^ 63:Int))||decide (i>=2 ^ 63))=false)(h:(pA i s.length).bind (s.cps[·]?)=some x)(k:bJ next ao w A U fr aa):(cK "str.__getitem__" [.str s t, .int i u] (λk=> .str ⟨#[x]⟩ k) next).Ok ao (av w) A U fr aa lv:=dY (λj=>eM FY Xj (Xk _ _) (gives_str_getitem s i t u x H h) (λz=>ib ..) λQ s k=>⟨by show 1<=gz;decide+kernel,k _ _⟩) λe j=>k e lv
end
section
theorem aJ0{D:DS}{h l p m:UInt64}{k:Int}{x c:Nat}(H:JQ ao w aa D.r D.g D.b h l p m k x c):(Ak D h l p m k x c).Ok ao (av w) A U none aa lv:=by
 refine zW (H.tri _ _ _) λz z=>?_;rcases H.way with ⟨rfl,a⟩|⟨rfl,a,b,c,d,e⟩
 ·exact NM a λz z=>True.intro
 ·exact NM a λz z=>sS b λz z=>SW c λz z=>A9 d e λz z=>True.intro
theorem aJ1{D:DS}{I V W:SI}{J:Str}(H:JP I V W D J):(Ii D I V W J sz tk).Ok ao (av w) A U none aa lv:=by refine yt H.u λa z=>yt H.v λb z=>yt H.w λc z=>⟨rfl,by decide,λJ z z=>?_,λz z z=>True.intro⟩;have:=Jc (ao:=ao) (w:=w) (A:=J) (U:=J.units) (fr:=none) (aa:=aa) (D:=sz+2) (l:=[(I.s,a 2),(V.s,b 2),(W.s,c 2)]) (e:=3) (t:=tk) (dh rfl) H.tl (H.j▸H.jl);simp only[show(([(I.s,a 2),(V.s,b 2),(W.s,c 2)]:List (Str×ab)).map (·.1))=[I.s,V.s,W.s]from rfl,H.j]at this;exact this
theorem aJ2(XK:aK w aa)(NL:aa.NoLimit){T:TF}{D:DS}{l H Z:List (Nat×ab)}{F:List Nat}{Y J:Int}(rel:fb H l F)(hz:l.length<=1000)(hW:F.length<=1000)(Hz:Y=X.n+(aL l - aL H))(jp:J=Y+(aL H - aL Z))(hd:∀(T:TF)(X:LX),J=X.n+(aL H - aL Z)->Any ao w aa 10 (qU T.L) (ip T X w D 0 H [] e2) (iq T X w Dv W Z J f e2)):(JM w T X D Dv l H Z W F Y J f e2).Ok ao (av w) A U none aa lv:=C3 XK NL (by decide) rel hz hW Hz λa z=>⟨rfl,by decide,hd _ { X with n:=Y,tn:=a 3,e1:=a 4 } jp,λz z z=>True.intro⟩
structure StopW(κ:Nat)(W:List Nat)(d dp:Int):Prop where
 way:(κ=0/\W=[])\/(κ=1/\W≠[]/\W.length<=640/\uR ⟨W.toArray⟩=some d/\d<=dp)
theorem aJ3(Y:aK w aa)(J:aa.NoLimit){κ:Nat}{T:TF}{d:Int}(H:StopW κ W d T.dp):(SL κ w T X W d t e2).Ok ao (av w) A U none aa lv:=by
 refine⟨rfl,by decide,CX Y J _ _ _ none e2,λa z z=>?_⟩;rcases H.way with ⟨rfl,rfl⟩|⟨rfl,h0,h1,Z,h3⟩
 ·exact dB rfl λz z=>⟨rfl,by decide,CY Y J _ _ _ none _,λz z z=>True.intro⟩
 ·refine dB (by induction W with|nil=>exact absurd rfl h0|cons a W=>rfl) λz z=>⟨rfl,bN,C1 Y J W d _ h1 Z,λi z z=>SZ (decide_eq_true h3) λz z=>⟨rfl,by decide,CY Y J _ _ _ none _,λz z z=>True.intro⟩⟩
end
structure fP(G:TG)(S:SX)(xs:List Nat)(k:Nat):Prop where
 ok:∀ta,G.ds< ta->(gW G S.wm).Ok ta []
 tag:∀x∈dR,(gW G S.wm).Tag x
 us:∀x∈dR,(∃e∈G.ents,e.u=bv x) ↔ x∈xs
 ps:∀e∈G.ents,(∃x∈dR,e.u=bv x/\e.p=⟨#[x]⟩)\/e.p="xml"
 hk:S.cv.length=k
 hd:G.cT.length<=10+k
 hn:G.aL.length<=10+k
 hl:G.ents.length<=10+k
def ax.es(κ:ax)(y:Nat->Nat):List NE:=match κ.c with
 |2=>[⟨y 8,bv κ.x,y 9,⟨#[κ.x]⟩,y 10⟩]|_=>[]
def ax.ls(κ:ax)(G:TG)(y:Nat->Nat):LS:=nc (⟨G.ds+1+y 11,0+κ.lO,κ.aX y⟩)
abbrev ax.G2(κ:ax)(G:TG)(y:Nat->Nat):TG:={ G with rs:=true,cT:=G.cT++[κ.ls G y],dep:=G.dep+1,aL:=G.aL++[⟨y 2,0,[]⟩],ei:=G.ei+1,ents:=κ.es y++G.ents }
abbrev ax.G3(κ:ax)(G:TG)(y:Nat->Nat):TG:={ G with rs:=true,dep:=G.dep+1,aL:=G.aL++[⟨y 2,0,[]⟩],ei:=G.ei+1,ents:=κ.es y++G.ents }
abbrev ax.S2(κ:ax)(S:SX)(J:List Str)(H:AT)(y:Nat->Nat):SX:={ S with wv:=S.wv++bn (J++κ.ws H) y,we:=y 14,cv:=S.cv++[dX false],dC:=S.dC+1 }
noncomputable def ax.xs(κ:ax)(xs:List Nat):List Nat:=match κ.c with
 |2=>κ.x::xs|_=>xs
variable {xs:List Nat}
structure ax.Fits(κ:ax)(xs:List Nat):Prop where
 g:(κ.c=0)\/(κ.c=1/\κ.f≠none/\κ.x∈dR/\κ.x∈xs)\/(κ.c=2/\κ.x∈dR/\κ.x ∉ xs)
section
variable {κ:ax}{G:TG}{S:SX}
theorem fP.start(H:fP G S xs k)(ta:Nat)(h:G.ds< ta):(gW (fO G) S.wm).Ok ta []:=by have g:=H.ok ta h;exact⟨g.hy,g.jr,g.jR,g.mE,g.oz,g.hz,g.tV,g.ra,g.rb,g.rf,g.rh⟩
theorem fP.kin(H:fP G S xs k)(F:κ.Fits xs):κ.Ok (fO G) S.wm:=by
 refine⟨?_⟩;have tg:∀x∈dR,(gW (fO G) S.wm).Tag x:=λx Y=>⟨(H.tag x Y).hx,(H.tag x Y).ni,(H.tag x Y).fW,(H.tag x Y).hex⟩;rcases F.g with h|⟨h,h1,J,Z⟩|⟨h,J,Z⟩
 ·exact .inl h
 ·exact .inr (.inl ⟨h,h1,tg _ J,(H.us _ J).mpr Z⟩)
 ·exact .inr (.inr ⟨h,tg _ J,λe Y hu=>Z ((H.us _ J).mp ⟨e,Y,hu⟩)⟩)
theorem JR{x y:Nat}(h:bv x=bv y):x=y:=by have:=congrArg (λs:Str=>s.cps.toList) h;simp only[uO]at this;exact this.2.2.2.2.1
theorem Ta(h:κ.c=2->κ.x∈dR)(y:Nat->Nat):∀e∈κ.es y,κ.c=2/\e.u=bv κ.x/\e.p=⟨#[κ.x]⟩:=λe H=>by
 unfold ax.es at H;split at H
 ·rename_i J;obtain rfl:=bI.mp H;exact⟨J,rfl,rfl⟩
 ·contradiction
theorem Tb(κ:ax)(y:Nat->Nat):κ.aX y=(κ.es y).map hM:=by rcases κ with ⟨f,_|_|_|c,x⟩<;>rfl
theorem fP.Tc(H:fP G S xs k)(hk:k<=100)(F:κ.Fits xs)(y:Nat->Nat)(ta:Nat)(h:G.ds< ta):(gW (κ.G3 G y) S.wm).Ok ta (κ.aX y):=by
 have g:=H.ok ta h;have Z:κ.c=2->κ.x∈dR/\κ.x ∉ xs:=λY=>by
  rcases F.g with h|⟨h,z⟩|⟨z,h2,h3⟩
  ·rw[h]at Y;injection Y
  ·rw[h]at Y;contradiction
  ·exact⟨h2,h3⟩
 have uo:=Ta (λY=>(Z Y).1) y;have J:(κ.es y).length<=1:=by
  unfold ax.es;split;·exact a8 _
  ·exact fZ _
 have hl:=H.hl;refine⟨?_,g.jr,?_,?_,?_,?_,g.tV,?_,?_,?_,g.rh⟩
 ·refine rR (bM ..) (rL (Tb ..) (rL (show _++lJ G.cT.reverse=_ from g.hy ..) ?_));rfl
 ·exact rR bQ (b7 [lE Y2 100,lE Y0 1,lE Y1 (10+Y2)] (lE (Y0+Y1) 1000) rfl hk J hl)
 ·rw[bM,fi];refine⟨?_,g.mE,λa ha b hb e=>?_⟩
  ·unfold ax.es;split;·exact ci.mpr ⟨bi,bN⟩
   ·exact bN
  ·obtain⟨p,hp,rfl⟩:=bq.mp ha;obtain⟨q,hq,rfl⟩:=bq.mp hb;refine cI (uo p hp) λY z e2=>?_;rw[e2]at e;rcases H.ps q hq with ⟨x,z,hu,ir⟩|ir
   ·rw[ir]at e;have ex:κ.x=x:=by have:=congrArg (λs:Str=>s.cps.toList) e;rw[uO]at this;exact this.1
    exact(Z Y).2 ((H.us _ (Z Y).1).mp ⟨q,hq,ex▸hu⟩)
   ·rw[ir]at e;have:=congrArg (λs:Str=>s.cps.size) e;exact absurd this (du (fF ..))
 ·simp only[aUz,show _=false from g.oz,aU0];unfold ax.es;split<;>rfl
 ·exact rR (Tb ..) (rR (dA ..) (aE J (by decide)))
 ·intro e he;rcases cq.mp he with he|he
  ·rw[(uo e he).2.1];intro q;exact absurd (congrArg (λs:Str=>s.cps.size) q) (jc (nB [] [] (lL 0 5) rfl))
  ·exact g.ra e he
 ·exact rR Gd g.rb
 ·intro l hl;rcases cq.mp hl with hl|hl
  ·exact g.rf l hl
  ·exact rR (bI.mp hl) (fZ _)
theorem fP.Td(H:fP G S xs k)(F:κ.Fits xs)(y:Nat->Nat)(x:Nat)(Y:x∈dR):(gW (κ.G3 G y) S.wm).Tag x:=by
 have t:=H.tag x Y;refine⟨Y,λe he J=>?_,t.fW,t.hex⟩;rcases cq.mp he with he|he
 ·unfold ax.es at he;split at he
  ·obtain rfl:=bI.mp he;have:=JR (show bv κ.x=bv x from J);exact rR this rfl
  ·contradiction
 ·exact t.ni e he J
theorem fP.aJ4(H:fP G S xs k)(F:κ.Fits xs)(y:Nat->Nat)(Z:κ.c≠0):∃e∈κ.es y++G.ents,e.u=bv κ.x:=by
 rcases F.g with h|⟨h,h1,J,Y⟩|⟨h,J,Y⟩
 ·exact absurd h Z
 ·exact aO ((H.us _ J).mpr Y) λe H J=>⟨e,bD _ H,J⟩
 ·refine⟨(⟨y 8,bv κ.x,y 9,⟨#[κ.x]⟩,y 10⟩:NE),bL _ ?_,rfl⟩;unfold ax.es;exact h▸az
theorem fP.push(H:fP G S xs k)(hk:k<=100)(F:κ.Fits xs)(y:Nat->Nat)(pw:List Str)(at_:AT):fP (κ.G2 G y) (κ.S2 S pw at_ y) (κ.xs xs) (k+1):=by
 have hx:κ.c=2->κ.x∈dR:=λJ=>by
  rcases F.g with h|⟨h,z⟩|⟨z,h2,h3⟩
  ·replace J:=h▸J;injection J
  ·replace J:=h▸J;contradiction
  ·exact h2
 have Y:(κ.es y).length<=1:=by
  unfold ax.es;split;·exact a8 _
  ·exact fZ _
 have hl:=H.hl;have hd:=H.hd;refine⟨λta h=>?_,λx hx=>?_,λx hl=>?_,λe he=>?_,?_,?_,?_,?_⟩
 ·have g:=H.Tc hk F y ta h;refine⟨?_,?_,g.jR,g.mE,g.oz,fZ _,g.tV,g.ra,g.rb,g.rf,?_⟩;·exact rR Gd g.hy
  ·intro l hl;rcases cq.mp hl with hl|hl
   ·exact g.jr l hl
   ·exact rR (bI.mp hl) g.hz
  ·exact rR bQ (aT [lE Y1 100,lE Y0 (10+Y1)] (lE (Y0+1) 1000) rfl hk hd)
 ·have t:=H.Td F y x hx;exact⟨t.hx,t.ni,t.fW,t.hex⟩
 ·show(∃e∈κ.es y++G.ents,e.u=bv x) ↔ _;have hu:=H.us x hl;unfold ax.es ax.xs;split
  ·constructor
   ·rintro ⟨e,he,Z⟩;rcases cq.mp he with he|he
    ·obtain rfl:=bI.mp he;exact rR (JR (show bv κ.x=bv x from Z)) az
    ·exact aB (hu.mp ⟨e,he,Z⟩)
   ·intro hm;rcases a9.mp hm with rfl|hm
    ·exact⟨_,bL _ az,rfl⟩
    ·exact aO (hu.mpr hm) λe he Z=>⟨e,bD _ he,Z⟩
  ·exact hu
 ·rcases cq.mp he with he|he
  ·exact cI (Ta hx y e he) λJ Z h2=> .inl ⟨κ.x,hx J,Z,h2⟩
  ·exact H.ps e he
 ·refine rR bQ (rR H.hk ?_);rfl
 ·exact rR bQ (sj hd)
 ·exact rR bQ (sj H.hn)
 ·exact rR bQ (b7 [lE Y0 1,lE Y1 (10+Y2)] (lE (Y0+Y1) (10+(Y2+1))) rfl Y hl)
end
theorem aJ5{tg:cY}{l:af}{e:Nat}{uq:List (af×aq)}(hA:A.handled=none)(J:Nat->List (af×aq)->Prop)(h0:J 0 uq)(turn:∀(u:Nat)(ar:aw)(i:Nat)(x:ag)(led:List (af×aq))(s ak:am)(Q:dk->am->Prop)(E:ag->am->Prop),u<=U->(∀b o,aa.get? b=some o->ar.get? b=some o)->vs[i]?=some x->J i led->ay True ar ak ((I,cV l (i+1))::(l,aA vs e)::led) s->(∀ji s',J (i+1) ji->ay True ar ak ((I,cV l (i+1))::(l,aA vs e)::ji) s'->Q .next s')->aG (av w) { A with units:=u } (su tg (.ref I) x) (λ_ s=>aG (av w) { A with units:=u } (pD tg env x) (λ_ s=>aG (av w) { A with units:=u } (aV body env) Q E s) E s) E s)(dm:∀(led:List (af×aq))(s:am),J vs.length led->∃y,led.map (·.1)=uq.map (·.1)/\out y=⟨.ok .next,(I,jU vs.length)::(l,aA vs e)::led,[],s.heap.objs.size,s.toks⟩):Told True (av w) A U fr aa (.forLoop tg (.ref I) body [] env) ((I,cV l 0)::(l,aA vs e)::uq) out:=by
 intro u s ak R hu SR j hR;refine cI (kF (rR (dQ ..) SR)) λSA j aZ=>?_;generalize hh:gZ s.heap _=ar at SA aZ;refine XN (λn s'=>∃i led,n=vs.length - i/\i<=vs.length/\J i led/\ay True ar ak ((I,cV l i)::_::led) s') ?_ _ ⟨0,uq,rfl,fZ _,h0,SA⟩;rintro n s1 ⟨i,led,rfl,hi,hJ,S1⟩;have hI:=S1.h.at_ _ az;have hl:=S1.h.at_ _ (aB az);induction hx:vs[i]? with
 |some x=>have bp:=(se.mp hx).1;refine Jj hI hl hx λh' e1 sb=>?_;have H:=q7 (pre:=[]) S1 e1 sb.extBut;exact turn u ar i x led _ ak _ _ hu aZ hx hJ H λji s' JS S'=>⟨vs.length - (i+1),lq [eQ (Y0+(Y2+1)) Y3,eQ (Y1+Y2) Y3] (lL Y0 Y1) [1,-1] 1 rfl (bX (aT [lL Y0 Y1] (lE (Y0+1) Y1) rfl bp)) (bX (hi)),i+1,ji,rfl,bp,JS,S'⟩|none=>
  obtain rfl:i=vs.length:=c8 hi (aVh.mp hx);refine Jk hA hI hl hx λh' e1 sb=>?_;have H:=q7 (pre:=[]) S1 e1 sb;refine qC (aO (dm led { s1 with heap:=h' } hJ) λy J Y=>?_);have lG:=hR y { s1 with heap:=h' } (rR Y rfl) (rR Y rfl) (by refine rR Y ?_;show I::l::led.map (·.1)=_;refine rR J ?_;rfl) (Y▸λp Z=>absurd Z bi)
   (by
    exact Y▸⟨⟨H.h.at_,H.h.nd,λb o e=>H.h.keep b o (aZ b o e),λp Z=>by
     induction z:aa.get? p.1 with
     |none=>rfl|some o=>have:=H.h.off p Z;replace this:=(aZ _ _ z)▸this;injection this⟩,H.os,H.gens, .inl True.intro⟩)
   (λb o J nb=>H.h.keep b o (hh▸kd _ J λH=>aO (bq.mp H) λp Z e=>nb p Z e));rw[Y]at lG;exact lG
section
theorem Te{l:af}{Z:List ag}{e e':Nat}{f:Array ag->Array ag}{Y:am}{rest:List (af×aq)}(e1:mS f (listOf vs.toArray e)=listOf Z.toArray e')(H:ay ao aa ak ((l,listOf vs.toArray e)::rest) s)(hs:Y={ s with heap:=s.heap.update l (mS f) }):Y.heap.objs.size=s.heap.objs.size/\ay ao aa ak ((l,listOf Z.toArray e')::rest) Y/\sK ((l,listOf vs.toArray e)::rest) s.heap Y.heap:=by subst hs;have J:=H.h.update (i:=0) (f:=λo=>o.mapSeq f) rfl rfl;have sb:lb l s.heap (s.heap.update l λo=>o.mapSeq f):=ia ..;replace J:f4 aa _ _:=J;rw[e1]at J;exact⟨sb.1,⟨J,H.os,H.gens,H.same⟩,λb o H J=>(sb.2 b (J _ az).symm).trans H⟩
theorem aJ6(l m:af)(a b:List ag)(e k:Nat)(hz:a.length+b.length<=100000)(J:0< b.length):Told ao (av w) A U fr aa (bC "list.extend" [.ref l, .ref m]) [(l,listOf a.toArray e),(m,listOf b.toArray k)] (λx=>⟨.ok (.ret .none),[(l,listOf (a++b).toArray (e+1)),(m,listOf b.toArray k)],[],x 0,x 1⟩):=by intro u s ak R hu H z hR;have Y:=H.h.at_ _ az;refine dJ aVi.plain PySem.F.entry_list_extend (aVi.check _ _ _ _ _ _ _ _ ⟨_,Y,rfl⟩ (PySem.F.args_list_extend_2 _ _) ?_);obtain⟨Z,q2,q3⟩:=Te (by exact rR (aXj ..) (rR (if_neg (by simp only[Array.size_append,py,py];intro q;have:=eq_of_beq q;exact jH 0 (fz [lL 0 Y0,eQ (Y1+Y0) Y1] (lL 0 0) [1,1] 0 rfl J this)) ..) (rR (FW ..) rfl))) H rfl;have J:a.toArray.size+b.toArray.size<=sizeLine:=aE hz (by decide+kernel);exact aXk l a.toArray e m b.toArray k (aXl J) (aE (fF _ _) J) (Xb J) _ _ _ _ s ⟨Y,(H.h.at_ _ (aB az)),hR (λi=>bif bY i 0 then s.heap.objs.size else s.toks) _ Z rfl rfl (λp H=>nomatch H) q2 q3⟩
theorem aJ7(l:af)(a:List ag)(e:Nat)(Z:a.length<=1000):Told ao (av w) A U fr aa (bC "list.reverse" [.ref l]) [(l,listOf a.toArray e)] (λx=>⟨.ok (.ret .none),[(l,listOf a.reverse.toArray e)],[],x 0,x 1⟩):=by intro u s ak R Y H z hR;have J:=H.h.at_ _ az;refine dJ aVj.plain PySem.F.entry_list_reverse (aVj.check _ _ _ _ _ _ _ _ ⟨_,J,rfl⟩ (PySem.F.args_list_reverse_1 _) ?_);exact cI (Te (aXm _ _) H rfl) λH q2 Y=>aXn l a.toArray e (aE Z (by decide+kernel)) _ _ _ _ s ⟨J,hR (λi=>bif bY i 0 then s.heap.objs.size else s.toks) _ H rfl rfl (λp H=>nomatch H) q2 Y⟩
end
abbrev Ba(x:Str)(t:ab)(i:Int)(u:ab):Obj:=nc (⟨.type "tuple",none, .seq #[.str x t, .int i u] 0,#[]⟩)
section
variable {x y:Str}{i j:Int}{t' u':ab}{a b:af}
theorem aJ8{P:Fin->am->Prop}(ha:s.heap.get? a=some (Ba x t i u))(Z:s.heap.get? b=some (Ba y t' j u'))(h:P (.done (.ret (.bool (decide (x=y/\i=j))))) s):aG (aR prog w) A (Builtin.«tuple.__eq__» ⟨[.ref a, .ref b],[]⟩) P E s:=by
 show aG _ _ (MK _ _>>=_) ..;refine au (mT ⟨_,Z,rfl⟩ isSubtype_tuple_tuple ?_);refine au (aVk ha rfl ?_);refine au (aVk Z rfl ?_);refine au ?_;have no:¬_->P _ s:=λq=>by rw[decide_eq_false q]at h;exact h
 refine aUa _
  (λrest r s'=>r.1=none/\s'=s/\((rest=[(.str x t, .str y t'),_])\/(rest=[(.int i u, .int j u')]/\x=y)\/(rest=[]/\x=y/\i=j)))
  _ ?_ ?_ _ _ ⟨rfl,rfl, .inl rfl⟩
 ·rintro ⟨Z,Z⟩ rest r s' ⟨hr,rfl,H⟩;rcases H with H|⟨H,Y⟩|⟨H,z⟩
  ·simp only[uO,si]at H;obtain⟨⟨rfl,rfl⟩,rfl⟩:=H;refine au (MM ?_);by_cases J:x=y;·exact rR (decide_eq_true J) (aH ⟨by trivial,by trivial, .inr (.inl ⟨by trivial,J⟩)⟩)
   ·exact rR (decide_eq_false J) (au (aH (aH (aH (no λq=>J q.1)))))
  ·simp only[uO,si]at H;obtain⟨⟨rfl,rfl⟩,rfl⟩:=H;refine au (wpAny_eqBool_int ?_);by_cases J:i=j;·exact rR (show _=true from beq_iff_eq.mpr J) (aH ⟨by trivial,by trivial, .inr (.inr ⟨by trivial,Y,J⟩)⟩)
   ·exact rR (show _=false from beq_false_of_ne J) (au (aH (aH (aH (no λq=>J q.2)))))
  ·injection H
 ·rintro ⟨r1,r2⟩ s' ⟨hr,rfl,H⟩;subst hr;refine aH ?_;rcases H with H|⟨H,z⟩|⟨z,hx,hi⟩
  ·injection H
  ·injection H
  ·rw[decide_eq_true ⟨hx,hi⟩]at h;exact h
theorem aJ9{Q:Bool->am->Prop}(hu:A.units< dP)(H:s.heap.get? a=some (Ba x t i u))(J:s.heap.get? b=some (Ba y t' j u'))(Y:a≠b)(h:Q (decide (x=y/\i=j)) s):aG (aR prog w) A (eqBool (.ref a) (.ref b)) Q E s:=by
 unfold eqBool;try with_reducible refine fV ?_
 refine rR (if_neg (λq=>Y (by have:=eq_of_beq q;injection this))) ?_;have ta:s.TypeIs (.ref a) "tuple":=⟨_,H,rfl⟩
 exact au (wpAny_richCompare_same_room ta (⟨_,J,rfl⟩) aVl
   (qz aVl ta F.entry_tuple_eq (aJ8 H J ⟨_,rfl,nofun,X8 h⟩) (F.args_tuple_eq_2 _ _)) hu)
end
abbrev Bc(H:List af):Obj:=nc (⟨.type "tuple",none, .seq (H.map aN).toArray 0,#[]⟩)
structure Pr where
 a:af
 x:Str
 t:ab
 i:Int
 u:ab
abbrev Pr.e(p:Pr):af×Obj:=(p.a,Ba p.x p.t p.i p.u)
variable {e:Nat}
theorem JT{T:af}{H:List Pr}{p:Pr}{b:Bool}(hU:U+10< dP)(hb:(H.any λq=>decide (q.x=p.x/\q.i=p.i))=b):Told True (av w) A U fr aa (bC "tuple.__contains__" [.ref T, .ref p.a]) ((T,Bc (H.map (·.a)))::p.e::H.map Pr.e) (λx=>⟨.ok (.ret (.bool b)),(T,Bc (H.map (·.a)))::p.e::H.map Pr.e,[],x 0,x 1⟩):=by
 intro u s ak R hu SR v hR;have h1:=SR.h.at_ _ az;have hm:∀q∈H,s.heap.get? q.a=some _/\q.a≠p.a:=λq Z=>by have nU:q.e∈H.map Pr.e:=b6 Z;exact⟨SR.h.at_ q.e (aB (aB nU)),λe=>((ci.mp (ci.mp SR.h.nd).2).1) (by show p.a∈_;exact rL e (b6 nU))⟩
 have Tf:=hR (λi=>bif bY i 0 then s.heap.objs.size else s.toks) s rfl rfl rfl (λp hp=>absurd hp bi) SR λb o eb nb=>eb;refine dJ Mn.plain aS8 (Mn.check _ _ _ _ _ _ _ _ ⟨_,h1,rfl⟩ (aS9 _ _) ?_);show aG _ _ (aTr _>>=_) ..;refine au (tupleItemsOf_ ⟨_,h1,rfl,0,by show XC ((H.map (·.a)).map aN).toArray 0=_;refine rR BO ?_;rfl⟩ ?_);refine au (forIn_array_ _ (λrest c s'=>c.1=none/\s'=s/\∃J,rest=J.map (λq:Pr=>aN q.a)/\(∀q∈J,q∈H)/\(J.any λq=>decide (q.x=p.x/\q.i=p.i))=b) _ ?_ ?_ _ _ ⟨rfl,rfl,H,rfl,λj h=>h,hb⟩)
 ·rintro y rest c s' ⟨hc,rfl,J,Z,vN,Y⟩;induction J using pq with
  |nil=>injection Z|cons q J=>
   rw[iJ,uO]at Z;obtain⟨rfl,rfl⟩:=Z;obtain⟨Hg,hq2⟩:=hm q (vN q az);simp only[List.any_cons]at Y;refine au (aJ9 (b7 [lL (Y2+10) Y1,lE Y0 Y2] (lL (Y0+1) Y1) rfl hU hu) Hg (SR.h.at_ _ (aB az)) hq2 ?_);induction hk:decide (q.x=p.x/\q.i=p.i)with
   |true=>rw[hk,Bool.true_or]at Y;subst Y;exact au (aH (aH (aH (by simpa using Tf))))|false=>
    replace Y:=Bool.false_or .. ▸(hk .. ▸Y)
    exact aH ⟨by trivial,rfl,J,rfl,λz H=>vN z (aB H),Y⟩
 ·rintro ⟨H,H⟩ s' ⟨hc,rfl,J,Z,v,Y⟩;induction J with
  |cons q J=>injection Z|nil=>subst hc;simp only[List.any_nil]at Y;subst Y;exact aH (by simpa using Tf)
abbrev Be(W:Str)(t:ab)(d:Int)(u:ab):Code:=nc (.call (.ref 245) ⟨[.str W t, .int d u],[]⟩)
abbrev aW(l:List Nat):Str:=nc (⟨l.toArray⟩)
abbrev JU:Str:=nc ("\"\\ \n\t\r")
def Et(d:Nat)(m:Bool)(H:List Nat)(J:ab)(c:Nat)(B:Nat)(next:aM):aF:=match d with
 |0=>mr JU (aW [c]) (B+3) B m λi=>match m with
  |true=>cP (aW H) "\\" (aW (H++[92])) J (i 1) λx=>cP (aW (H++[92])) (aW [c]) (aW (H++[92]++[c])) (x 2) B next|false=>cP (aW H) (aW [c]) (aW (H++[c])) J B next
 |_=>cP (aW H) "\\" (aW (H++[92])) J (B+3) λx=>cP (aW (H++[92])) (aW [c]) (aW (H++[92]++[c])) (x 2) B next
def wq(d:Nat)(m:Bool)(H:List Nat)(c:Nat):List Nat:=nc (match d with
 |0=>(match m with
  |true=>H++[92]++[c]|false=>H++[c])
 |_=>H++[92]++[c])
def lwO(d n:Nat)(W:Str)(a b:Nat)(m H:Bool)(t tk:Nat):aF:=cB W "" t (tk+3) false λe=>C5 W t λz=>Et d m [] (e 1) a (z 1) λx=>match n with
 |1=> .nil|_=>Et d H (wq d m [] a) (x 2) b (x 1+1) λ_=> .nil
def JV(n a b:Nat):Str:=match n with
 |1=>aW [a]|_=>aW [a,b]
def Tg(d n a b:Nat)(m H:Bool):List Nat:=match n with
 |1=>wq d m [] a|_=>wq d H (wq d m [] a) b
def Th(d:Nat)(m:Bool):List Nat:=(dN 14 0xf88420842100401)++((match d with
 |0=>(match m with
  |true=>[2,2,2,2,2,2,2,2,2,2,2]|false=>[2,2,2,2,2,2,2])
 |_=>[2,2,2,2,2,2,2,2,2])++[0])
def aKa(d n:Nat)(m H:Bool):List Nat:=(dN 20 0x45f08422f8400f840108421)++(Th d m++((match n with
 |1=>[]|_=>Th d H)++[1,0,1,0,1,1,1,1,1,0,4]))
def JW(d:Nat)(m:Bool):Nat:=nc (match d with
 |0=>(match m with
  |true=>3|false=>2)
 |_=>2)
def JX(d n:Nat)(m H:Bool):Nat:=match n with
 |1=>1+JW d m|_=>1+JW d m+JW d H
abbrev lwI(d:Nat):Int:=nc (match d with
 |0=>0|_=>2)
theorem aKb(w:aj)(d n a b:Nat)(hd:d=0\/d=1)(hn:n=1\/n=2)(m H:Bool)(t u sz tk:Nat)(J:Xs):Ends [] ((aI w 2 0 none 600).C [] J ⟨[],sz,tk,aKa d n m H,lwO d n (JV n a b) a b m H t tk⟩ (Be (JV n a b) t (lwI d) u) fin) (.ok (.ret (.str (aW (Tg d n a b m H)) (J (JX d n m H) 2))),[],J (JX d n m H) 0+2,J (JX d n m H) 1+1):=by
 rcases hd with rfl|rfl
 ·rcases hn with rfl|rfl
  ·induction m<;>kernel_rfl
  ·induction m<;>induction H<;>kernel_rfl
 ·rcases hn with rfl|rfl<;>kernel_rfl
abbrev qj(L:af):Env:=mB vc.1 245 L
abbrev rE:List Stmt:=bodyOf vc.1
def rtE(b:List ck):PySem.Expr:=pE b[0]? 0
def rtP(b:List ck):Pos:=(oS b[0]?).pos
def yu(e:cY):PySem.Expr:=xE e 0
def JY(e:cY):PySem.Expr:=xE e 1
def Ti(e:cY):Pos:=nc (e.pos)
abbrev wu:PySem.Expr:=rtE (AN rE)
abbrev lP:PySem.Expr:=JY (yu wu)
theorem aKc:rE= .If (v9 rE) [.Return (some (.BinOp (.BinOp (yu (yu wu)) .Add (.Call (.Attribute (v5 lP) "replace" (xX lP)) (v6 lP) [] (t8 lP)) (Ti (yu wu))) .Add (JY wu) (Ti wu))) (rtP (AN rE))] [] (I8 rE)::rE.drop 1:=by kernel_rfl
abbrev lQ(w:aj)(W:Str)(t:ab)(d:Int)(u:ab)(L tk:Nat):List (af×aq):=nc ([(L,⟨.type "frame",none, .dict (cE [⟨aS w.params "word", .str "word" tk, .str W t⟩,⟨aS w.params "dress", .str "dress" (tk+1), .int d u⟩]) 2,#[]⟩)])
abbrev Eu(κ:Nat):Int:=nc (match κ with
 |0=>1|1=>0|_=>2)
def Tj(κ:Nat)(W:Str)(t tk:Nat):aF:=match κ with
 |0=> .nil|_=>cB W "" t (tk+1) true λ_=> .nil
def aKd(κ:Nat):List Nat:=nc (match κ with
 |0=>[1,777,0,0]|_=>[1,777,0,0,1,777,2])
section
variable (w:aj)(W:Str)(t:ab)(d:Int)(u:ab)(L k0 sz tk:Nat)(σ:Xs)
theorem aKe(κ:Nat)(h:κ=0\/κ=1\/κ=2):bA ((aI w 0 0 none 400).S [] σ ⟨lQ w W t (Eu κ) u L k0,sz,tk,aKd κ,Tj κ W t tk⟩ (MR (v9 rE) (qj L) (fx (v9 rE) (qj L))) fin) (.ok true,lQ w W t (Eu κ) u L k0,(match κ with|0=>sz|_=>σ 0 0),(match κ with|0=>tk+1|_=>σ 0 1)):=by rcases h with rfl|rfl|rfl<;>kernel_rfl
end
theorem yv:(∀(w:aj)W t d u L k0 sz tk σ,bA ((aI w 0 0 none 400).S [] σ ⟨lQ w W t d u L k0,sz,tk,[], .nil⟩ (fx (yu (yu wu)) (qj L)) fin) (.ok (.str "\"" tk),lQ w W t d u L k0,sz,tk+1))/\
 (∀(w:aj)W t d u L k0 sz tk σ(r:Str),bA ((aI w 0 0 none 400).S [] σ ⟨lQ w W t d u L k0,sz,tk,[1,2],vD W "\\" "\\\\" r t tk (tk+1) λ_=> .nil⟩ (attributeBase (v5 lP) "replace" (qj L) (fx (v5 lP) (qj L))) fin) (.ok (.str r (σ 0 2)),lQ w W t d u L k0,σ 0 0,σ 0 1))/\
 (∀(w:aj)W t d u L k0 sz tk σ(r r2:Str)(v:ab),bA ((aI w 0 0 none 400).S [] σ ⟨lQ w W t d u L k0,sz,tk,[2],vD r "\"" "\\\"" r2 v tk (tk+1) λ_=> .nil⟩ (do Gl (xX lP).atName;methodCall (v5 lP) "replace" (xX lP) (t8 lP) (qj L) (.str r v) ((v6 lP).length+([]:List Ye).length) (zc (t8 lP) (w7 (v6 lP) (qj L))) (zd (t8 lP) (ze [] (qj L)))) fin) (.ok (.str r2 (σ 0 2)),lQ w W t d u L k0,σ 0 0,σ 0 1))/\
 (∀(w:aj)W t d u L k0 sz tk σ(x y z:Str)(v H:ab),bA ((aI w 0 0 none 400).S [] σ ⟨lQ w W t d u L k0,sz,tk,[2],cP x y z v H λ_=> .nil⟩ (binaryOp .Add (.str x v) (.str y H)) fin) (.ok (.str z (σ 0 2)),lQ w W t d u L k0,σ 0 0,σ 0 1))/\
 (∀(w:aj)W t d u L k0 sz tk σ,bA ((aI w 0 0 none 400).S [] σ ⟨lQ w W t d u L k0,sz,tk,[], .nil⟩ (fx (JY wu) (qj L)) fin) (.ok (.str "\"" tk),lQ w W t d u L k0,sz,tk+1)):=by
 and_intros<;>intros<;>kernel_rfl
def ur:FuncData:=match vc.1.data with
 | .func f=>f|_=>default
theorem aKf(w:aj):(K w.params).lookup 245=some ⟨vc.1.cls,vc.1.dict, .func ur,vc.1.slots⟩:=by kernel_rfl
theorem Tk:(∀(w:aj)(W:Str)(t:ab)(d:Int)(u:ab)(sz tk:Nat)(H:Xs),bA ((aI w 0 0 none 400).S [] H ⟨[],sz,tk,[], .nil⟩ (ma ur ⟨[.str W t, .int d u],[]⟩) fin) (.ok [("word", .str W t),("dress", .int d u)],[],sz,tk))/\(∀(w:aj)(W:Str)(t:ab)(d:Int)(u:ab)(sz tk:Nat)(H:Xs),bA ((aI w 0 0 none 400).S [] H ⟨[],sz,tk,[1,1,1,1], .nil⟩ (md ur.scope ur.globals ur.closure [("word", .str W t),("dress", .int d u)] (ur.qualname++".<locals>.") (some 245) ur.code none ur.builtins) fin) (.ok (qj sz),lQ w W t d u sz tk,sz+1,tk+2)):=by and_intros<;>intros<;>kernel_rfl
theorem aKg(J:aK w aa)(NL:aa.NoLimit)(κ:Nat)(oj:κ=0\/κ=1\/κ=2)(W:Str)(hW:κ≠0->W="")(hx:W.length<=1000)(t u:ab)(r r2 r3 r4:Str)(h1:Txt.replace W "\\" "\\\\"=r)(h2:Txt.replace r "\"" "\\\""=r2)(h3:("\"":Str)++r2=r3)(h4:r3++"\""=r4)(hr:r.length<=10000)(ye:r2.length<=100000):Any True w aa 2 (Be W t (Eu κ) u) [] (λx=>⟨.ok (.ret (.str r4 (x 2))),[],[],x 0,x 1⟩):=by
 intro A' Y hd un s ak R hu SR j hR;have hX:aK w s.heap:=λb o e=>SR.h.keep _ _ (J b o e);refine FO (show A'.depth< bk by exact aT [lE (Y0+2) Y1] (lL Y0 Y1) rfl (hd (by decide))) (hX _ _ (aKf w)) rfl rfl rfl (body:=rE) (by kernel_rfl) (BQ hX (by kernel_rfl)) (gK SR J Y 0 0 400 [] .nil (λz=>True.intro) nofun (a8 _) _ _ _ _ (λH=>Tk.1 w W t _ ..) λz s1 S1 z z G1=>?_);refine gK S1 J Y 0 0 400 [1,1,1,1] .nil (λz=>True.intro) nofun (a8 _) _ _ _ _ (λH=>Tk.2 w W t _ ..) λz s2 S2 z qT G2=>⟨NL.keeps S2.h.keep,Mw ?_⟩
 have Ar:∀b o,s.heap.get? b=some o->s1.heap.get? b=some o/\b≠s1.heap.objs.size:=λb o e=>have e1:=G1.keep b o e (λp Z=>absurd Z bi);⟨e1,du (dH e1)⟩;have DA:∀b o,s.heap.get? b=some o->b≠s1.heap.objs.size:=λb o e=>(Ar b o e).2;generalize s1.heap.objs.size=L at S2 DA ⊢;generalize s1.toks=k0 at S2 qT;refine rR aKc (mV (wpAny_If ?_));refine gK S2 J Y 0 0 400 _ _ (λz=>?_) nofun (a8 _) _ _ _ _ (λH=>aKe w W t u L k0 _ _ H κ oj) λH s3 S3 z I0 G3=>?_
 ·unfold Tj;split;·trivial
  ·rename_i cA;exact dB (by refine rR (hW cA) ?_;rfl) λz z=>True.intro
 refine mV (aVm (wpAny_BinOp (wpAny_BinOp ?_)));refine gK S3 J Y 0 0 400 [] .nil (λz=>True.intro) nofun (a8 _) _ _ _ _ (λH=>yv.1 w W t _ ..) λz s4 S4 z ht4 G4=>?_
 have p4:1<=s4.toks:=rR ht4 (sj (fZ _));refine au (Yg p4 ?_);have nz:∀n:Nat,1<=n->(n==0||n+1==0)=false:=λn h=>by
  induction n with
  |zero=>contradiction|succ n=>rfl
 have nn:∀n:Nat,(n==n+1)=false:=λn=>beq_false_of_ne (du (a8 _));refine gK S4 J Y 0 0 400 [1,2] (vD W "\\" "\\\\" r t s4.toks _ λz=> .nil) (λz=>HF (nz _ p4) (nn _) rfl (aE hx (by decide)) (by decide) h1 λz z=>True.intro) nofun (a8 _) _ _ _ _ (λH=>yv.2.1 w W t _ ..) λNt s5 S5 z z G5=>λp5=>gK S5 J Y 0 0 400 [2] (vD r "\"" "\\\"" r2 _ s5.toks _ λz=> .nil) (λz=>HF (nz _ p5) (nn _) rfl (aE hr (by decide)) (by decide) h2 λz z=>True.intro) nofun (a8 _) _ _ _ _ (λH=>yv.2.2.1 w W t _ ..) λzv s6 S6 z z G6=>gK S6 J Y 0 0 400 [2] (cP "\"" r2 r3 s3.toks _ λz=> .nil) (λz=>nZ h3 (aE (yW ye 1) (by decide)) λz z=>True.intro) nofun (a8 _) _ _ _ _ (λH=>yv.2.2.2.1 w W t _ u L k0 _ _ H "\"" r2 ..) λyw s7 S7 z z G7=>gK S7 J Y 0 0 400 [] .nil (λz=>True.intro) nofun (a8 _) _ _ _ _ (λH=>yv.2.2.2.2 w W t _ ..) λz s8 S8 z z G8=>gK S8 J Y 0 0 400 [2] (cP r3 "\"" r4 _ s7.toks λz=> .nil) (λz=>nZ h4 (by subst h3;rw[Yo];exact aE (yY (yW ye 1) 1) (by decide)) λz z=>True.intro) nofun (a8 _) _ _ _ _ (λH=>yv.2.2.2.1 w W t _ u L k0 _ _ H r3 "\"" r4 _ _) λH Y S9 Tm H J=>?_
 refine hR _ Y Tm H rfl (λp Z=>absurd Z bi) (qb S9) λb o e z=>?_;have H:∀p∈lQ w W t (Eu κ) u L k0,p.1≠b:=λp Z=>by exact rR (bI.mp Z) ((DA b o e).symm)
 exact J.keep b o (G8.keep b o (G7.keep b o (G6.keep b o (G5.keep b o (G4.keep b o (G3.keep b o ((λb o e=>G2.keep b o (Ar b o e).1 (λp Z=>absurd Z bi)) b o e) H) H) H) H) H) H) H
theorem To:∀l:List Nat,cU 34 [92,34] (cU 92 [92,92] l)=qX l
 |[]=>rfl|c::l=>by
  simp only[show cU 92 [92,92] (c::l)=_++cU 92 [92,92] l from rfl,AM,(To l)];show _=_++qX l;by_cases h:c=92;·subst h;rfl
  ·by_cases H:c=34;·subst H;rfl
   ·refine rR (if_neg h) (rR (if_neg (λq=>q.elim h H)) ?_);show((if c=34 then [92,34]else [c])++[])++_=_;refine rR (if_neg H) ?_;rfl
theorem aKh:∀c:_root_.Fin 128,(!(ka JU ⟨#[c.val]⟩ 0 JU.length 1).isEmpty)=lA c.val:=by decide+kernel
theorem Tp{d c:Nat}{m:Bool}{H:List Nat}{Y:ab}{next:aM}(hc:c< 128)(hm:lA c=m)(ha:H.length<=100)(k:bJ next True w A U fr aa):(Et d m H Y c B next).Ok True (av w) A U fr aa lv:=by
 have Z:∀n,n<=200->n<=sizeLine:=λn h=>aE h (by decide);have ad:∀(l:List Nat)(x:Nat),aW l++aW [x]=aW _:=λl x=>by show(⟨l.toArray++[x].toArray⟩:Str)=_;rw[FW]
 have ln:∀l:List Nat,(aW l).length=l.length:=λl=>py ..;have s2:(aW (H++[92])).length+(aW [c]).length<=sizeLine:=Z _ (by simp only[ln,ln,bQ];exact bu [lE Y0 100] (lE (Y0+1+1) 200) rfl ha);have J:∀{Y:ab}{u u2:Nat->Nat->ab}(t2:ab)lv,(cP _ "\\" _ Y t2 λx=>cP _ _ _ (x 2) B next).Ok True _ A U fr aa lv:=λt2 lv=>nZ (ad H 92) (Z _ (bu [lE Y0 100] (lE (Y0+1) 200) rfl ha)) λz z=>nZ (ad _ c) s2 k;unfold Et;split
 ·refine nY ((aKh ⟨c,hc⟩).trans hm) λi lv=>?_;induction m with
  |true=>exact J (u:=λz z=>0) (u2:=λz z=>0) _ _|false=>exact nZ (ad H c) (Z _ (bu [lE Y0 100] (lE (Y0+1) 200) rfl ha)) k
 ·exact J (u:=λz z=>0) (u2:=λz z=>0) _ _
theorem Ev(d c:Nat)(H:List Nat)(hd:d=0\/d=1):wq d (lA c) H c=H++pZ (d==1) [c]:=by
 rcases hd with rfl|rfl
 ·show(match lA c with|true=>_|false=>_)=H++((if _=true then [92,c]else [c])++[])
  induction lA c;·rfl
  ·simp only[bH];rfl
 ·show H++[92]++[c]=H++_;rw[bH];rfl
abbrev JZ(l:List Nat):(Nat->Nat)->Out:=λx=>⟨.ok (.ret (.str (aW l) (x 2))),[],[],x 0,x 1⟩
theorem aKi(J:W.length<=2)(Y:W≠[])(H:∀c∈W,c< 128):∃n a b,(n=1\/n=2)/\W=(match n with|1=>[a]|j=>[a,b])/\a< 128/\b< 128:=by
 induction W using pq with
 |nil=>exact absurd rfl Y|cons a W=>
  induction W using pq with
  |nil=>exact⟨1,a,0, .inl rfl,rfl,H a az,by decide⟩|cons b W=>
   induction W using pq with
   |nil=>exact⟨2,a,b, .inr rfl,rfl,H a az,H b (aB az)⟩|cons c W=>exact absurd (Mb (Mb J)) (Nat.not_succ_le_zero _)
theorem aKj(XK:aK w aa)(NL:aa.NoLimit)(gq:Nat)(hd:gq=0\/gq=1\/gq=2)(W:List Nat)(Y:W.length<=2)(ha:∀c∈W,c< 128)(t u:ab):Any True w aa 2 (Be (aW W) t gq u) [] (JZ (gJ gq W)):=by
 have ad:∀(a b:List Nat),aW a++aW b=aW _:=λa b=>by show(⟨a.toArray++b.toArray⟩:Str)=_;rw[FW]
 have l1:=I7 92 [92,92] W 2 (by decide) (by decide);have xz:∀κ,_->(κ≠0->W=[])->Any True w aa 2 _ [] (JZ _):=λκ oj J=>by
  refine aKg XK NL κ oj (aW W) (λh=>by rw[J h];rfl) (aE Y (by decide)) t u _ _ (aW ([34]++qX W)) _ (I6 ..) (I6 ..) ?_ (ad _ [34]) ?_ ?_
  ·show aW [34]++aW (cU 34 [92,34] (cU 92 [92,92] W))=_;rw[To,ad]
  ·exact fz [lE Y1 2,lE Y0 (.m 2 Y1)] (lE Y0 10000) [2,1] 1 rfl Y l1
  ·exact cz [lE Y1 2,lE Y2 (.m 2 Y1),lE Y0 (.m 2 Y2)] (lE Y0 100000) [4,2,1] 1 rfl Y l1 (I7 34 [92,34] _ 2 (by decide) (by decide))
 have H:∀d,_->W≠[]->Any True w aa 2 (Be (aW W) ..) [] (JZ (pZ _ W)):=λd hd cA=>by
  have e0:((aW W).cps.toList==([]:List Nat))=false:=by
   induction W with
   |nil=>exact absurd rfl cA|cons _ _=>rfl
  have e1:(aW W).cps.all (· < 128)=true:=by exact rR aVn (r6.mpr λc hc=>decide_eq_true (ha c hc))
  obtain⟨n,a,b,hn,J,aKk,Z⟩:=aKi Y cA ha;have eW:aW W=JV n a b:=by rcases hn with rfl|rfl<;>(refine rR J ?_;rfl)
  have eR:Tg d n a b (lA a) (lA b)=pZ (d==1) W:=by
   rcases hn with rfl|rfl
   ·rw[J];show wq d _ [] a=_;rw[Ev d a [] hd];rfl
   ·rw[J];show wq d _ _ b=_;rw[Ev d a [] hd,Ev d b _ hd];show([]++((if _=true then [92,a]else [a])++[]))++((if _=true then [92,b]else [b])++[])=_++((if _=true then [92,b]else [b])++[])
    simp only[uS,dQ]
  refine rL eR ?_;rw[eW]at e0 e1 ⊢;refine bS XK NL 600 _ [] _ bN (λz z J i=>match i with|0=>J _ 0+2|1=>J _ 1+1|i=>J _ i) (λz=>rfl) (λY Y sz tk z=>?_) λsz tk J=>aKb w d n a b hd hn _ _ t u sz tk J;refine dB e0 λz z=>HH e1 λz z=>Tp aKk rfl (fZ _) λz z=>?_;split;·trivial
  ·refine Tp Z rfl ?_ λz z=>True.intro;rw[Ev d a [] hd];show((if _=true then [92,a]else [a])++[]).length<=100;split;·exact dh rfl
   ·exact dh rfl
 rcases hd with rfl|rfl|rfl
 ·induction W with
  |nil=>exact xz 1 (.inr (.inl rfl)) λz=>rfl|cons c r=>exact H 0 (.inl rfl) nofun
 ·exact xz 0 (.inl rfl) λh=>absurd rfl h
 ·induction W with
  |nil=>exact xz 2 (.inr (.inr rfl)) λz=>rfl|cons c r=>exact H 1 (.inr rfl) nofun
def ut:FuncData:=match vd.1.data with
 | .func f=>f|_=>default
abbrev fD:List Stmt:=bodyOf vd.1
abbrev jV(L:af):Env:={ mB vd.1 250 L with cells:=[("words",L+1)] }
def nD(b:List ck)(i:Nat):List Stmt:=pB b[i]? 0
def mK(b:List ck)(i:Nat):PySem.Expr:=pE b[i]? 0
structure FR where
 a:af
 dp:Int
 nm:List Nat
 dr:Nat
 tu:Int
 sh:Int
 va:Int
 t0:ab
 t1:ab
 t2:ab
 t3:ab
 t4:ab
 t5:ab
variable {rows:List FR}{r0 r1 r2 r3:FR}
abbrev FR.o(r:FR):Obj:=⟨.type "tuple",none, .seq #[.int r.dp r.t0, .str (aW r.nm) r.t1, .int r.dr r.t2, .int r.tu r.t3, .int r.sh r.t4, .int r.va r.t5] 0,#[]⟩
structure FD where
 D:af
 ky:Str
 tk:ab
 fg:Int
 tf:ab
 k8:ab
 k9:ab
noncomputable abbrev FK:=_root_.Fin 8->ab
abbrev J0(w:aj)(k:FK)(R:af)(r:FR):List DictEntry:=[⟨aS w.params "rows", .str "rows" (k 0), .ref R⟩,⟨aS w.params "deep", .str "deep" (k 1), .int r.dp r.t0⟩,⟨aS w.params "name", .str "name" (k 2), .str (aW r.nm) r.t1⟩,⟨aS w.params "dress", .str "dress" (k 3), .int r.dr r.t2⟩,⟨aS w.params "turn", .str "turn" (k 4), .int r.tu r.t3⟩,⟨aS w.params "share", .str "share" (k 5), .int r.sh r.t4⟩,⟨aS w.params "value", .str "value" (k 6), .int r.va r.t5⟩]
abbrev jW(w:aj)(k:FK)(R:af)(r:FR)(d:FD)(f:Nat):Obj:=match f with
 |0=>⟨.type "frame",none, .dict #[⟨aS w.params "rows", .str "rows" (k 0), .ref R⟩] 1,#[]⟩|1=>⟨.type "frame",none, .dict (cE (J0 w k R r)) 7,#[]⟩|2=>⟨.type "frame",none, .dict (cE (J0 w k R r++[⟨aS w.params "deeds", .str "deeds" (k 7), .ref d.D⟩])) 8,#[]⟩|_=>⟨.type "frame",none, .dict (cE (J0 w k R r++[⟨aS w.params "deeds", .str "deeds" (k 7), .ref d.D⟩,⟨aS w.params "key", .str "key" d.k8, .str d.ky d.tk⟩,⟨aS w.params "figure", .str "figure" d.k9, .int d.fg d.tf⟩])) 10,#[]⟩
abbrev Bf(z B:Nat):List Pr:=nc ([⟨z,"h",B+1,0,B+2⟩,⟨z+1,"s",B+3,4,B+4⟩,⟨z+2,"v",B+5,4,B+6⟩])
abbrev J4(ix:List Nat)(z B:Nat)(p:Pr)(b:Bool)(next:aM):aF:= .cons none (bC "tuple.__contains__" [.ref (z+3), .ref p.a]) ix ((z+3,Bc ((Bf z B).map (·.a)))::p.e::(Bf z B).map Pr.e) (λx=>⟨.ok (.ret (.bool b)),(z+3,Bc ((Bf z B).map (·.a)))::p.e::(Bf z B).map Pr.e,[],x 0,x 1⟩) next
def Tq:PySem.Expr:=pE (nD fD 1)[0]? 0
def aKm:Scope:=(eL Tq).2.2
abbrev Ew(L I D C:af):Code:= .compStart Tq 0 (.ref I) (.ref D) (Yk aKm [] C (jV L))
abbrev Ex(T:af)(i:Nat):Obj:=nc (⟨.type "tuple_iterator",none, .fields #[.ref T, .int i 0],#[]⟩)
abbrev yx(C D I T:af)(c:aq)(ds:List ag)(e:Nat)(i:aq)(p q r:Pr):List (af×aq):=[(C,c),(D,aA ds e),(I,i),(T,Bc [p.a,q.a,r.a]),p.e,q.e,r.e]
def J5(b:Bool)(n:Nat):List Nat:=nc (match b with
 |true=>[]|false=>[n,0,n+1,0,n+1,n+1,n+1])
def aKn(Y Z J H:Bool):List Nat:=(match Y with
 |true=>(dN 17 0x20842108c6418c0300c00)|false=>(dN 24 0x104210846320c601806018060f8c60))++(J5 Z 5++((dN 16 0x10425294e741ce0380e0)++(J5 J 9++((dN 16 0x104294a56b62d6058160)++(J5 H 13++[0,15,0,15,0,15,15,16,15,15,1])))))
def dfO(p q r:Pr)(H J Y:Bool)(sz tk:Nat):aF:=J4 [0,8,3,2,1] sz tk p H λa=>J4 [0,13,3,2,1] (a 0) (a 1) q J λb=>J4 [0,18,3,2,1] (b 0) (b 1) r Y λ_=> .nil
def mL(b:Bool)(p:Pr):List Value:=nc (match b with
 |true=>[]|false=>[.ref p.a])
def nE(b:Bool):Nat:=nc (match b with
 |true=>0|false=>1)
abbrev Tr(w:aj)(k:ab)(r:Pr):Obj:=nc (⟨.type "dict",none, .dict #[⟨aS w.params "pair", .str "pair" k, .ref r.a⟩] 1,#[]⟩)
abbrev Ts:Obj:=nc (⟨.type "tuple_iterator",none, .fields #[.none, .int 3 0],#[]⟩)
theorem aKo(w:aj)(L C D I T:af)(p q r:Pr)(H J Y:Bool)(sz tk:Nat)(Z:Xs):Ends [14,15,16,17,18,19,20] ((aI w 2 5 none 600).C [] Z ⟨yx C D I T mF [] 0 (Ex T 0) p q r,sz,tk,aKn (w.params.followText "comprehension-iter-twice") H J Y,dfO p q r H J Y sz tk⟩ (Ew L I D C) fin) (.ok .next,(yx C D I T (Tr w tk r) (mL H p++(mL J q++mL Y r)) (nE H+nE J+nE Y) Ts p q r).map some,Z 2 0+2,Z 2 1):=by induction H<;>induction J<;>induction Y<;>(revert w;refine byRow2 "comprehension-iter-twice" (λw=>?_) (λw=>?_)<;>kernel_rfl)
abbrev J6(w:aj)(C D I T:af)(p q r:Pr)(J:List ag)(H:Nat):(Nat->Nat)->Out:=λx=>⟨.ok .next,yx C D I T (Tr w (x 2) r) J H Ts p q r,[],x 0,x 1⟩
abbrev aKp(ix:List Nat)(w:aj)(L C D I T:af)(p q r:Pr)(J:List ag)(H:Nat)(next:aM):aF:= .cons none (Ew L I D C) ix (yx C D I T mF [] 0 (Ex T 0) p q r) (J6 w C D I T p q r J H) next
abbrev Ey(a b m:Int)(t u:ab)(next:aM):aF:=cK "int.__mod__" [.int a t, .int b u] (λk=> .int m k) next
abbrev aKq(i:Nat)(l:af)(vs:List ag)(e:Nat)(next:aM):aF:= .cons (some 0) (bC "list.reverse" [.ref l]) [i] [(l,listOf vs.toArray e)] (λx=>⟨.ok (.ret .none),[(l,listOf vs.reverse.toArray e)],[],x 0,x 1⟩) next
abbrev J7(ix:List Nat)(l m:af)(a b:List ag)(e k:Nat)(next:aM):aF:= .cons (some 0) (bC "list.extend" [.ref l, .ref m]) ix [(l,aA a e),(m,aA b k)] (λx=>⟨.ok (.ret .none),[(l,aA (a++b) (e+1)),(m,aA b k)],[],x 0,x 1⟩) next
abbrev J8(i:Int)(s:Str)(t:ab)(next:aM):aF:=cK "int.__repr__" [.int i t] (λk=> .str s k) next
abbrev Bg(W:Str)(t:ab)(d:Int)(u:ab)(S:Str)(next:aM):aF:= .cons (some 2) (Be W t d u) [] [] (λx=>⟨.ok (.ret (.str S (x 2))),[],[],x 0,x 1⟩) next
abbrev iD(W:af):Obj:=nc (⟨.type "cell",none, .cell (some (.ref W)),#[]⟩)
abbrev Tt(L I:af):Code:= .forLoop (mK (nD fD 1) 3) (.ref I) (nD (nD fD 1) 3) [] (jV L)
theorem aKr{K:uL}{c:bB}(X:K.In aa)(hA:A.handled=none)(dep ub n:Nat)(ev J:List Nat)(H:Nat->Nat->aF)(gn:∀sz tk,(H sz tk).Ok ao (aR prog w) A (U+ub) fr aa (pre.map (·.1)))(hd:0< dep->aa.NoLimit/\A.depth+dep<=bk)(nd:J.Nodup)(Z:Nat->Nat->Xs->Nat->Nat)(jj:∀x,(out x).post.map (·.1)=pre.map (·.1))(e:∀sz tk Y,Ends J ((run ⟨⟨prog,w.params⟩,K,dep,ub,fr⟩ n).C [] Y ⟨pre,sz,tk,ev,H sz tk⟩ c fin) ((out (Z sz tk Y)).res,((out (Z sz tk Y)).new++(out (Z sz tk Y)).post).map some,(out (Z sz tk Y)).sz,(out (Z sz tk Y)).tk)):Told ao (aR prog w) A U fr aa c pre out:=by
 intro u s ak R hu SR j hR;have un:∀(H:aF)n,H.Ok ao (aR prog w) A (U+ub) fr aa n->H.Ok ao (aR prog w) { A with units:=u } (U+ub) fr aa n:=by
  intro H;induction H with
  |nil=>exact λz=>id|cons any c ix pre out next ih=>exact λn h=>⟨h.1,h.2.1,(by induction any<;>exact h.2.2.1),λx hx Z=>ih x _ (h.2.2.2 x hx Z)⟩
 refine(zz (A:={ A with units:=u }) (P:=λo:cw×WS=>∃x,(o.1,J.map (λi=>o.2.led[i]?),o.2.sz,o.2.tk)=((out x).res,((out x).new++(out x).post).map some,(out x).sz,(out x).tk)) X hA hd (yY hu ub) n).C [] ⟨pre,s.heap.objs.size,s.toks,ev,H s.heap.objs.size s.toks⟩ c fin R s ak ⟨SR,rfl,rfl⟩ ⟨_,λz=>id,un _ _ (gn _ _)⟩
  (λY=>Cy (e ..) λr H h=>⟨_,h⟩) λr H s' F z G hm=>?_;obtain⟨j,j,e1,j,x,e2⟩:=hm λz z=>0;cases e1;simp only[si]at e2;obtain⟨rfl,e3,e4,e5⟩:=e2;have R':=F.r.h.sel nd e3;have G':=G.sel e3;refine hR x s' (F.sz.trans e4) (F.tk.trans e5) (jj x) (λp hp=>?_) ⟨R',F.r.os,F.r.gens,F.r.same⟩ G'.keep;rcases G'.new p (bL _ hp)with h|⟨q,hq,e⟩
 ·exact h
 ·have H:=R'.nd;rw[bM,fi]at H;refine absurd rfl (H.2.2 p.1 (b6 hp) p.1 ?_);exact rR (jj x) (rL e (b6 hq))
def b8(p:Pr):Bool:=(Bf 0 0).any λq=>decide (q.x=p.x/\q.i=p.i)
theorem aKs(XK:aK w aa)(J:aa.NoLimit)(Y:A.handled=none)(hd:A.depth+2<=bk)(H:U+15< dP)(L C D I T:af)(p q r:Pr):Told True (av w) A U fr aa (Ew L I D C) (yx C D I T mF [] 0 (Ex T 0) p q r) (J6 w C D I T p q r (mL (b8 p) p++(mL (b8 q) q++mL (b8 r) r)) (nE (b8 p)+nE (b8 q)+nE (b8 r))):=by
 have Z:Told True (av w) A U none aa (Ew L I D C) (yx C D I T mF [] 0 (Ex T 0) p q r) (J6 w C D I T p q r (mL (b8 p) p++(mL (b8 q) q++mL (b8 r) r)) (nE (b8 p)+nE (b8 q)+nE (b8 r))):=by refine aKr XK Y 2 5 600 _ [14,15,16,17,18,19,20] _ (λsz tk=>?_) (λz=>⟨J,hd⟩) (by decide) (λsz tk J i=>match i with|0=>J 2 0+2|1=>J 2 1|_=>tk) (λz=>rfl) λsz tk J=>aKo ..;exact⟨rfl,by decide,JT (aE H (dF ..)) rfl,λa z z=>⟨rfl,by decide,JT (aE H (by decide)) rfl,λb z z=>⟨rfl,by decide,JT (aE H (by decide)) rfl,λz z z=>True.intro⟩⟩⟩
 exact λu s ak R J H z Y=>Z u s ak R J H (λL h=>nomatch h) Y
def FD.next(d:FD)(p:Pr)(f tk:Nat):FD:=nc (⟨d.D,p.x,p.t,p.i,p.u,(match f with
 |2=>tk|_=>d.k8),match f with
 |2=>tk+1|_=>d.k9⟩)
variable {next:aM}
section
variable (w:aj)(k:FK)(R L W I:af)(i:Nat)(r:FR)(d:FD)(p:Pr)(sz tk:Nat)(σ:Xs)
theorem aKt(f:Nat)(H:f=2\/f=3):Ends [3,4] ((aI w 0 0 none 600).S [] σ ⟨[p.e,(L,jW w k R r d f)],sz,tk,(dN 40 0x294a50842208401004211042008021088210040108020f8421), .nil⟩ (pD (mK (nD fD 1) 3) (jV L) (.ref p.a)) fin) (.ok (),[p.e,(L,jW w k R r (d.next p f tk) 3)].map some,sz+3,tk+2):=by rcases H with rfl|rfl<;>kernel_rfl
def Tu(r:FR)(d:FD)(W:af)(Z:List ag)(we:Nat)(Y J H:Str):aF:=Bg d.ky d.tk r.dr r.t2 Y λa=>J8 d.fg J d.tf λb=>Bg J (b 2) r.dr r.t2 H λc=>J7 [1,0] W (c 0) Z [.str Y (a 2), .str H (c 2)] we 0 λx=> .nil
end
theorem Tv:(∀(w:aj)R I i sz tk σ(a:af),bA ((aI w 0 0 none 300).S [] σ ⟨[(I,cV R i)],sz,tk,[1], .nil⟩ (su (mK (nD fD 1) 3) (.ref I) (.ref a)) fin) (.ok (),[(I,cV R i)],sz,tk))/\(∀(w:aj)k R L W r d sz tk σ(ws:List ag)(we:Nat)(s1 s2 H:Str),Ends [1,2,3] ((aI w 2 0 none 900).S [] σ ⟨[(W,aA ws we),(L+1,iD W),(L,jW w k R r d 3)],sz,tk,(dN 28 0x108030005f00000000600004018c0108422),Tu r d W ws we s1 s2 H⟩ (aV (nD (nD fD 1) 3) (jV L)) fin) (.ok .next,[(W,aA (ws++[ag.str s1 (σ 0 2),ag.str H (σ 2 2)]) (we+1)),(L+1,iD W),(L,jW w k R r d 3)].map some,σ 3 0,σ 3 1)):=by and_intros<;>intros<;>kernel_rfl
def jy(p:Option Str)(u:ab):List Value:=nc (match p with
 |none=>[]|some x=>[ag.str x u])
abbrev uu(q:Nat×Nat):List (af×aq):=[(q.1+5,lK q.1 q.2)]
noncomputable abbrev TG.run(G:TG)(rs:Bool):TG:={ G with rs:=rs,rn:=false }
def J9(w:aj)(n:Nat)(xs:List Nat)(k:Nat)(b:Bool)(p:Option Str)(d:Int)(r g Z:UInt64)(l:List (Nat×ab))(H:List Str)(l':List (Nat×ab))(W':List Nat):Prop:=∀(G:TG)(S:SX)(X:LX)(q:Nat×Nat)(de e2:Nat)(u t1 t2 J Y:ab),fP G S xs k->G.b=b->S.wv.length+H.length<=880->nV w (Eo X G d r g Z t1 t2 J Y) n (gu w (iz (q.1+5)) (G.run true) S (jy p u) de X l [] e2++(G.ro++uu q))
   (λy=>⟨.ok (.ret .none),(SE w (iz (q.1+5)) (G.run true) S X H l' W' (X.n+(aL l - aL l')) false y).post++(G.ro++uu q),[],y 0,y 1⟩)
inductive rF(w:aj)(n:Nat)(xs:List Nat)(k:Nat)(b:Bool)(dp:Int)(r g bl:UInt64)(l2:List (Nat×ab))(W2:List Nat)(p2:Option Str):Nat->Option Str->List (Nat×ab)->List Nat->List Str->Prop
 |stop (κ:Nat) (d:Int):StopW κ W2 d dp->rF w n xs k b dp r g bl l2 W2 p2 0 p2 l2 W2 []
 |Tw {m p l W o1 l1 W1 o2:_} (d:Int):W≠[]->W.length<=640->uR ⟨W.toArray⟩=some d->¬d<=dp->J9 w n xs k b p d r g bl l o1 l1 W1->rF w n xs k b dp r g bl l2 W2 p2 m none l1 W1 o2->rF w n xs k b dp r g bl l2 W2 p2 (m+1) p l W (o1++o2)
theorem fP.bV{G:TG}{S:SX}(H:fP G S xs k)(b:Bool)(o:List Str)(y z:Nat->Nat):fP (G.bV b y) (S.bV o z) xs k:=⟨λta h=>have g:=H.ok ta h;⟨g.hy,g.jr,g.jR,g.mE,g.oz,g.hz,g.tV,g.ra,g.rb,g.rf,g.rh⟩,λx J=>have t:=H.tag x J;⟨t.hx,t.ni,t.fW,t.hex⟩,H.us,H.ps,H.hk,H.hd,H.hn,H.hl⟩
abbrev Ez(w:aj)(q:Nat×Nat)(T:TF)(G:TG)(S:SX)(X:LX)(D:DS)(H:HS)(f:Nat)(Z:List (Nat×ab))(u:ab)(p:Option Str)(l:List (Nat×ab))(W:List Nat)(Y:List Str)(J:Nat->Nat)(ky:List Nat)(ty:ab):List (af×aq):=gu w (iz (q.1+5)) (G.bV false J) (S.bV Y J) (jy p u) (J 7) (X.bV (X.n+(aL Z - aL l)) J) l [.str ⟨W.toArray⟩ (J 22)] (J 10)++jw w T G X { D with ky:=ky,ty:=ty } H f
noncomputable def ww(H J:Nat->Nat):Nat->Nat:=λi=>if i< 100 then H i else J i
theorem EA(a:List Str)(J H:Nat->Nat):bn a (ww J H)=bn a H:=by unfold bn ww;exact jG λi=>rR (gA) (rR (gA) (rR (if_neg (dw.mpr (fF ..))) rfl))
theorem aKu{k:KX}{h:aw}(ok:k.Ok w)(hL:k.aa.objs.size<=k.L)(hn:k.dp+n< bk)(Tx:k.dp+2<=bk)(hU:k.un+40*n< dP)(aZ:∀b o,k.aa.get? b=some o->h.get? b=some o){T:TF}(hT:T.L=k.L){G:TG}{S:SX}{D:DS}{H:HS}(hf:f=1\/f=2){q:Nat×Nat}{l0 l l2:List (Nat×ab)}{W2:List Nat}{p p2:Option Str}{m:Nat}{Z J:List Str}(bZ:∀p∈G.ro++uu q,h.get? p.1=some p.2/\p.1≠k.L/\k.aa.get? p.1=none)(f6:((G.ro++uu q).map (·.1)).Nodup)(SK:fP G S xs kk)(hz:S.wv.length+(Z++J).length<=880)(KR:rF w n xs kk G.b T.dp D.r D.g D.b l2 W2 p2 m p l W J){Y:Nat->Nat}{ky:List Nat}{ty:ab}(SR:ay True h ak (Ez w q T G S X D H f l0 u p l W Z Y ky ty) s)(hR:∀y s',ay True h ak (Ez w q T G S X D H f l0 u p2 l2 W2 (Z++J) y W2 (y 2)) s'->ij s.heap s'.heap->R (.ok .next) s'):eC (av w) k.bE (.whileLoop Er Ep [] (kB T.L)) R s:=by
 have XK:aK w h:=λb o e=>aZ _ _ (ok.X b o e);have NL:=ok.T.nolimit.keeps aZ;refine aVo (λm s'=>∃p l W a b Y ky ty,rF w n xs kk G.b T.dp D.r D.g D.b l2 W2 p2 m p l W b/\a++b=Z++J/\ay True h ak (Ez w q T G S X D H f l0 u p l W a Y ky ty) s'/\ij s.heap s'.heap) ?_ m ⟨p,l,W,Z,J,Y,ky,ty,KR,rfl,SR,λb o e=>⟨o,e⟩⟩;rintro m s1 ⟨p,l,W,a,b,Y,ky,ty,KR,eo,SR,lv⟩;refine gK SR XK rfl 0 0 300 [] .nil (λz=>True.intro) nofun (a8 _) _ _ _ _ (λσ=>aJx ..) λσ s2 S2 z z G2=>?_
 induction KR with
 |stop κ d hs=>
  obtain rfl:a=Z++J:=by simp only[<-eo,dQ]
  have S3:ay True h ak (((X.bV _ Y).im w [.str ⟨W2.toArray⟩ _] _++jw w T G _ { D with ky:=ky,ty:=ty } H f)++(mJ w _ _ _ _ _++((X.bV _ Y).led w l2).drop 2)) s2:=lN S2 (ix:=[9,10,17,18,0,1,2,3,4,5,6,7,8,11,12,13,14,15,16]) (by decide) rfl;refine fN S3 XK NL rfl 2 500 _ [0,1,2,3] _ (λaQ z X2 N2 z=>aJ3 X2 N2 hs) Tx (by decide) _ _ _ _ (λσ=>aJt w T G _ W2 d _ _ { D with ky:=ky,ty:=ty } H f hf κ (hs.way.imp And.left And.left) ..) λσ s3 S4 z z Ka=>?_;let y:=ww (λi=>match i with|2=>Y 22|10=>Y 10+2|i=>Y i) Y;refine hR y s3 ?_ (lv.trans (G2.live.trans Ka));have ew:S.wv++bn (Z++J) y=S.wv++bn (Z++J) Y:=by rw[EA]
  show ay True h ak (gu w _ _ { S with wv:=S.wv++bn _ y,we:=Y 8,dC:=Y 9 } _ _ _ l2 [.str ⟨W2.toArray⟩ _] _++jw w T G X { D with ky:=W2,ty:=Y 22 } H f) s3;exact rR ew (lN S4 (ix:=[4,5,6,7,8,9,10,11,12,0,1,13,14,15,16,17,18,2,3]) (by decide) rfl)
 |@Tw m p l W o1 l1 W1 o2 d h1 h2 h3 h4 ht KR=>
  have e0:(W.toArray.toList==([]:List Nat))=false:=by
   induction W with
   |nil=>exact absurd rfl h1|cons _ _=>rfl
  have hlen:(S.bV a Y).wv.length+o1.length<=880:=by have:=congrArg MN eo;rw[bQ,bQ]at this;exact rR (bQ ..) (rR (yn ..) (nB [_,_,_,_,_] [lE (Y0+Y3) 880,eQ (Y1+(Y2+Y4)) Y3] (lE (Y0+Y1+Y2) 880) rfl hz this))
  refine wp_run S2 XK rfl 2 0 500 SM _ _ (λz=>?_) (λz=>⟨NL,Tx⟩) (a8 _) uY _ _ _ _ (λσ=>aJu w T _ _ _ _ _ _ l W d _ _ { D with ky:=ky,ty:=ty } H f hf false o1 l1 W1 (X.n+(aL l0 - aL l)+(aL l - aL l1)) ..) λσ s3 S3 z z G3=>?_
  ·refine⟨rfl,by decide,CX XK NL _ _ _ none _,λJ z z=>dB e0 λz z=>⟨rfl,bN,C1 XK NL W d _ h2 h3,λi z z=>SZ (decide_eq_false h4) λz z=>⟨rfl,bN,C1 XK NL W d _ h2 h3,λj z z=>⟨rfl,uY,?_,λz z z=>True.intro⟩⟩⟩⟩;simp only[hT];exact q8 (ht _ _ _ q _ _ u (j 2) D.tr D.tg D.tb (SK.bV ..) rfl hlen) ok hL hn hU aZ (.refl _) bZ f6 (λz=>⟨rfl,rfl,rfl,rfl, .refl _⟩) (λz=>rfl)
  ·refine⟨m,wY _,none,l1,W1,a++o1,o2,mH a.length (σ 5) Y (σ 5),W,Y 22,KR,by rw[bH];exact eo,?_,lv.trans (G2.live.trans G3.live)⟩;have J:S.wv++bn a Y++bn o1 (σ 5)=S.wv++bn (a++o1) (mH a.length (σ 5) Y (σ 5)):=by simp only[uh,bH]
   have e2:X.n+(aL l0 - aL l)+(aL l - aL l1)=X.n+_:=bw (Cm [] (lE (Y0+(Y1-Y2)+(Y2-Y3)) (Y0+(Y1-Y3))) rfl) (Cm [] (lE (Y0+(Y1-Y2)) (Y0+(Y1-Y3)+(Y3-Y2))) rfl);rw[e2]at S3;show ay True h ak (gu w _ _ { S with wv:=S.wv++bn _ _,we:=σ 5 8,dC:=σ 5 9 } [] _ _ l1 [.str ⟨W1.toArray⟩ _] _++jw w T G X { D with ky:=W,ty:=Y 22 } H f) s3;exact J▸S3
def eX(i:Int):List Nat:=nc ((gB (toString i)).cps.toList)
theorem aKv(i:Int):gB (toString i)=aW (eX i):=rfl
structure yz(W:List Nat):Prop where
 l:W.length<=2
 a:∀c∈W,c< 128
def oV(dr:Nat)(p:Pr):List Str:=[aW (gJ dr p.x.cps.toList),aW (gJ dr (eX p.i))]
structure Bh(p:Pr):Prop where
 x:yz p.x.cps.toList
 i:yz (eX p.i)
 n:p.i.natAbs.log2< 1920
theorem Tz{i:Int}(H:i.natAbs.log2< 1920)(k:bJ next ao w A U fr aa):(J8 i (aW (eX i)) t next).Ok ao (av w) A U fr aa lv:=SY H (aKv i) k
theorem EB(Y:aK w aa)(J:aa.NoLimit)(hd:dr=0\/dr=1\/dr=2)(H:yz W)(k:bJ next True w A U fr aa):(Bg (aW W) t dr u (aW (gJ dr W)) next).Ok True (av w) A U fr aa lv:=⟨rfl,bN,aKj Y J dr hd W H.l H.a t u,λx z z=>k x _⟩
theorem TA{l m:af}{a b:List ag}(J:ix.length=2)(H:ix.Nodup)(Z:a.length+b.length<=100000)(Y:0< b.length)(c:bJ next ao w A U fr aa):(J7 ix l m a b e k next).Ok ao (av w) A U fr aa lv:=⟨J,H,λH z z=>aJ6 l m a b e k Z Y,λx z z=>c x _⟩
noncomputable def mM(f n:Nat):Nat:=match n with
 |0=>f|_=>3
abbrev EC(w:aj)(k:FK)(R L W:af)(r:FR)(d:FD)(f:Nat)(H:List ag)(we:Nat)(P:List (af×aq)):List (af×aq):=(W,aA H we)::(L+1,iD W)::(L,jW w k R r d f)::P
noncomputable def FD.at_(d:FD)(H:List Pr)(y:Nat->Nat):FD:=match H.getLast? with
 |none=>d|some p=>⟨d.D,p.x,p.t,p.i,p.u,y 14,y 15⟩
abbrev aKw(w:aj)(k:FK)(R L W I:af)(r:FR)(d:FD)(f Y:Nat)(H:List Pr)(J:List ag)(we:Nat)(P:List (af×aq)):(Nat->Nat)->Out:=λy=>⟨.ok .next,(I,jU H.length)::(d.D,aA (H.map λp=>aN p.a) Y)::EC w k R L W r (d.at_ H y) (mM f H.length) (J++bn (H.flatMap (oV r.dr)) y) (we+H.length) P,[],y 0,y 1⟩
open Classical in
theorem Kb(I D W c F s p t:List α):cF (I++(D++(W++(c++(F++(s++(p++t))))))) (p++(F++(I++(D++(W++(c++(s++t))))))):=by rw[jf];intro x;simp only[ie];ac_rfl
open Classical in
theorem TB(I D W c F s p t:List α):cF (p++(F++(I++(D++(W++(c++(s++t))))))) (W++(c++(F++(I++(D++(p++(s++t))))))):=by rw[jf];intro x;simp only[ie];ac_rfl
open Classical in
theorem TC(I D W c F s p t:List α):cF (W++(c++(F++(I++(D++(p++(s++t))))))) (I++(D++(W++(c++(F++(s++(p++t))))))):=by rw[jf];intro x;simp only[ie];ac_rfl
theorem aKx(XK:aK w aa)(NL:aa.NoLimit)(hA:A.handled=none)(hd:A.depth+2<=bk)(k:FK)(R L W I:af)(r:FR)(hr:r.dr=0\/r.dr=1\/r.dr=2)(d:FD)(f:Nat)(hf:f=2\/f=3)(de:Nat)(H:List Pr)(Ip:∀p∈H,Bh p)(Y:List ag)(we:Nat)(fp:Y.length+2*H.length<=1000)(P:List (af×aq))(hP:∀p∈H,p.e∈P):Told True (av w) A U fr aa (Tt L I) ((I,cV d.D 0)::(d.D,aA (H.map λp=>aN p.a) de)::EC w k R L W r d f Y we P) (aKw w k R L W I r d f de H Y we P):=by
 refine aJ5 hA (λi led=>∃y,led=EC w k R L W r (d.at_ (H.take i) y) (mM f i) (Y++bn ((H.take i).flatMap (oV r.dr)) y) (we+i) P) ⟨λz=>0,?_⟩ ?_ ?_
 ·show _=EC w k R L W r d f (Y++[]) we P;rw[dQ]
 ·intro u ar i x led s ak Q E hu aZ Z hJ SR hQ;obtain⟨y,rfl⟩:=hJ;rw[dL]at Z;induction hp:H[i]? with
  |none=>replace Z:=hp▸Z;injection Z|some p=>
   rw[hp]at Z;obtain rfl:aN p.a=x:=dG Z;have hm:=ja hp;have hi:=(se.mp hp).1;refine hO λZ aY=>?_;obtain⟨hx1,hx2,hx3⟩:=Ip p hm;refine vg (Gi (hP p hm)) λP1 P2 eq1=>?_;subst eq1;refine aY ?_;have X1:aK w ar:=λb o e=>aZ _ _ (XK b o e);have aU:=NL.keeps aZ;refine dq SR X1 aU hA 0 300 [1] .nil (λz z z z z=>True.intro) (aE (fF _ 2) hd) _ _ _ _ (λσ=>Tv.1 ..) λz s1 S1 z z z=>?_;have f1:mM f i=2\/mM f i=3:=by
    unfold mM;split;·exact hf
    ·exact .inr rfl
   refine fN (ro:=_::_::_::_::(P1++P2)) (bj S1 (Kb [_] [_] [_] [_] [_] P1 [p.e] P2)) X1 aU hA 0 600 _ _ .nil (λz z z z z=>True.intro) (aE (fF _ 2) hd) (by decide) _ _ _ _ (λσ=>aKt w k R L r _ p _ _ σ _ f1) λσ Z S3 z z z=>?_;let J:=(d.at_ (H.take i) y).next p (mM f i) s1.toks;have Kc:(Y++bn ((H.take i).flatMap (oV r.dr)) y).length<=1000:=by
    simp only[bQ,yn];have:((H.take i).flatMap (oV r.dr)).length=2*(H.take i).length:=by
     induction H.take i with
     |nil=>rfl|cons a l ih=>simp only[jg,bQ,ih,eH];exact c8 (bu [] (lE (2+(Ax.m 2 Y0)) (Ax.m 2 (Y0+1))) rfl) (bu [] (lE (Ax.m 2 (Y0+1)) (2+(Ax.m 2 Y0))) rfl)
    exact rR this (rR w4 (lq [lE (Y0+(Ax.m 2 Y2)) 1000,lL Y3 Y2,eQ Y1 Y3] (lE (Y0+(Ax.m 2 Y1)) 1000) [1,2,2] 1 rfl fp hi (r5 (cR hi))))
   refine fN (ro:=_::_::p.e::_) (bj S3 (TB [_] [_] [_] [_] [_] P1 [_] P2)) X1 aU hA 2 900 _ _ (Tu r J ..) (λaQ z X2 Z z=>EB X2 Z hr hx1 λz z=>Tz hx3 λz z=>EB X2 Z hr hx2 λz z=>TA rfl (by decide) (bu [lE Y0 1000] (lE (Y0+2) 100000) rfl Kc) (by show 0< 2;decide) λz z=>True.intro) hd (by decide) _ _ _ _ (λσ=>Tv.2 ..) λZ s3 S5 z z z=>hQ _ s3 ⟨mH ((H.take i).flatMap (oV r.dr)).length (λj=>match j with|14=>J.k8|15=>J.k9|_=>0) y (λj=>match j with|100=>Z 0 2|_=>Z 2 2),?_⟩ (bj S5 (TC [_] [_] [_] [_] [_] P1 [_] P2));have et:H.take (i+1)=H.take i++[p]:=by refine rR Go (rR hp ?_);rfl
   refine rR (et ..) (rR (zh ..) (rR (jg ..) (rR (nQ ..) (rR (dQ ..) (rR (uh ..) (rL (bH Y ..) ?_))))));have e1:mM f (i+1)=3:=rfl;have e2:d.at_ (H.take i++[p]) (mH ((H.take i).flatMap (oV r.dr)).length (λj=>match j with|14=>J.k8|15=>J.k9|_=>0) y (λj=>match j with|100=>Z 0 2|_=>Z 2 2))=J:=by
    unfold FD.at_;rw[List.getLast?_concat];show FD.mk d.D p.x p.t p.i p.u J.k8 J.k9=J;have eD:(d.at_ (H.take i) y).D=d.D:=by unfold FD.at_;split<;>rfl
    show _=FD.mk (d.at_ _ y).D p.x p.t p.i p.u J.k8 J.k9;exact rR eD rfl
   refine rR e1 (rR e2 ?_);rfl
 ·rintro led s ⟨y,rfl⟩;refine rR (dA ..) (rR (B5 ..) ?_);exact⟨ww _ y,rfl,by
   have e2:d.at_ H (ww (λj=>match j with|0=>s.heap.objs.size|1=>s.toks|j=>y j) y)=d.at_ H y:=by unfold FD.at_;split<;>rfl
   show Out.mk _ _ [] _ _=_;refine rR (EA ..) (rR e2 ?_);rfl⟩
noncomputable abbrev jX(r:FR)(sz tk:Nat):Pr:=⟨sz,"h",tk,r.tu,r.t3⟩
noncomputable abbrev jY(r:FR)(sz tk:Nat):Pr:=⟨sz+1,"s",tk+1,r.sh,r.t4⟩
noncomputable abbrev jZ(r:FR)(sz tk:Nat):Pr:=⟨sz+2,"v",tk+2,r.va,r.t5⟩
def rvV(H:Bool)(J:List ag):List Value:=nc (match H with
 |true=>J.reverse|false=>J)
structure DO where
 io:(Nat->Nat)->aq
 do_:(Nat->Nat)->aq
 wo:(Nat->Nat)->aq
 fo:(Nat->Nat)->aq
def Kd(w:aj)(k:FK)(R L W:af)(r:FR)(d:FD)(f:Nat)(Z:List ag)(we:Nat)(sz tk:Nat)(dv:List ag)(de:Nat)(H J Y:Str)(g:(Nat->Nat)->(Nat->Nat)->(Nat->Nat)->DO)(ft:Nat->aq)(c:Nat->Nat):aF:=J8 r.dp H r.t0 λa=>Bg H (a 2) r.dr r.t2 J λb=>Bg (aW r.nm) r.t1 r.dr r.t2 Y λH=>J7 [8,0] W (H 0) Z [.str J (b 2), .str Y (H 2)] we 0 λx=>
 .cons (some 2) (Tt L (x 0)) [0,3,9,10,11,8,7,6] [(x 0,cV (sz+5) 0),(sz+5,aA dv de),(W,aA (Z++[ag.str J (b 2),ag.str Y (H 2)]) (we+1)),(L+1,iD W),(L,ft (c 1)),(jX r sz tk).e,(jY r sz tk).e,(jZ r sz tk).e] (λy=>⟨.ok .next,[(x 0,(g c b H).io y),(sz+5,(g c b H).do_ y),(W,(g c b H).wo y),(L+1,iD W),(L,(g c b H).fo y),(jX r sz tk).e,(jY r sz tk).e,(jZ r sz tk).e],[],y 0,y 1⟩) λ_=> .nil
def ED(w:aj)(k:FK)(R:af)(r:FR)(d:FD)(f D:Nat)(t:Nat):Obj:=match f with
 |1=>jW w (λi=>bif bY i.val 7 then t else k i) R r { d with D:=D } 2|2=>jW w k R r { d with D:=D } 2|_=>jW w k R r { d with D:=D } 3
def TD(w:aj)(k:FK)(R L W:af)(r:FR)(d:FD)(f:Nat)(Y:Bool)(ws:List ag)(we:Nat)(sz tk:Nat)(H:List ag)(J:Nat)(s1 Z s3:Str)(g:(Nat->Nat)->(Nat->Nat)->(Nat->Nat)->DO):aF:=aKp [0,1,2,3,6,5,4] w L (sz+6) (sz+5) (sz+4) (sz+3) (jX r sz tk) (jY r sz tk) (jZ r sz tk) H J λc=>match Y with
  |true=>Ey r.tu 2 1 r.t3 (c 1+1) λm=>aKq 1 (sz+5) H J λv=>Kd w k R L W r d f ws we sz tk H.reverse J s1 Z s3 g (ED w k R r d f (sz+5)) c|false=>Ey r.tu 2 0 r.t3 (c 1+1) λm=>Kd w k R L W r d f ws we sz tk H J s1 Z s3 g (ED w k R r d f (sz+5)) c
def aKy(H:Bool):List Nat:=(dN 21 0x7c4a0842a50820083e109483)++((match H with
 |true=>[10,2,2,2,2,2]|false=>[])++(dN 37 0x208060f8c6b1080a5004050002f80000000a0000842109))
def rG(H:Bool):Nat:=nc (match H with
 |true=>7|false=>6)
noncomputable def rH(f:Nat):Nat:=match f with
 |0=>1|2=>2|_=>3
def TH(k:FK)(f tk:Nat):FK:=nc (match f with
 |0=>λi=>bif bY i.val 0 then k 0 else tk+(i.val - 1)|_=>k)
section
variable (w:aj)(k:FK)(R L W:af)(r0 r:FR)(d:FD)(sz tk:Nat)(σ:Xs)
theorem aKz(f:Nat)(H:f=0\/f=2\/f=3):Ends [3,4] ((aI w 0 0 none 600).S [] σ ⟨[(r.a,r.o),(L,jW w k R r0 d f)],sz,tk,(dN 84 0x294a5294a5294a50842208401004211042008021088210040108441080200842208401004211042008021088210040108020f8421), .nil⟩ (pD (mK fD 1) (jV L) (.ref r.a)) fin) (.ok (),[(r.a,r.o),(L,jW w (TH k f tk) R r d (rH f))].map some,sz+3,tk+6):=by rcases H with rfl|rfl|rfl<;>kernel_rfl
theorem aK0(I:af)(i:Nat)(a:af):bA ((aI w 0 0 none 300).S [] σ ⟨[(I,cV R i)],sz,tk,[1], .nil⟩ (su (mK fD 1) (.ref I) (.ref a)) fin) (.ok (),[(I,cV R i)],sz,tk):=by kernel_rfl
theorem aK1(f:Nat)(Y:f=1\/f=2\/f=3)(H:Bool)(J:List ag)(we:Nat)(dv:List ag)(de:Nat)(s1 s2 Z:Str)(g:(Nat->Nat)->(Nat->Nat)->(Nat->Nat)->DO):Ends [9,10,11] ((aI w 4 0 none 900).S [] σ ⟨[(W,aA J we),(L+1,iD W),(L,jW w k R r d f)],sz,tk,aKy H,TD w k R L W r d f H J we sz tk dv de s1 s2 Z g⟩ (aV (nD fD 1) (jV L)) fin) (.ok .next,[(W,(g (σ 0) (σ (rG H - 3)) (σ (rG H - 2))).wo (σ (rG H))),(L+1,iD W),(L,(g (σ 0) (σ (rG H - 3)) (σ (rG H - 2))).fo (σ (rG H)))].map some,σ (rG H) 0,σ (rG H) 1):=by rcases Y with rfl|rfl|rfl<;>induction H<;>kernel_rfl
end
theorem TJ{tg:cY}{l:af}{uq:List (af×aq)}(hA:A.handled=none)(J:Nat->List (af×aq)->Prop)(h0:J 0 uq)(SR:ay True ar ak ((I,cV l 0)::(l,aA vs e)::uq) s)(Y:∀(i:Nat)(x:ag)(led:List (af×aq))(s:am)(Q:dk->am->Prop)(E:ag->am->Prop),vs[i]?=some x->J i led->ay True ar ak ((I,cV l (i+1))::(l,aA vs e)::led) s->(∀Z s',J (i+1) Z->ay True ar ak ((I,cV l (i+1))::(l,aA vs e)::Z) s'->Q .next s')->aG (av w) A (su tg (.ref I) x) (λ_ s=>aG (av w) A (pD tg env x) (λ_ s=>aG (av w) A (aV body env) Q E s) E s) E s)(dm:∀(led:List (af×aq))(s':am),J vs.length led->ay True ar ak ((I,jU vs.length)::(l,aA vs e)::led) s'->R (.ok .next) s'):eC (av w) A (.forLoop tg (.ref I) body [] env) R s:=by
 refine XN (λn s'=>∃i led,n=vs.length - i/\i<=vs.length/\J i led/\ay True ar ak ((I,cV l i)::_::led) s') ?_ _ ⟨0,uq,rfl,fZ _,h0,SR⟩;rintro n J ⟨i,led,rfl,hi,hJ,S1⟩;have hI:=S1.h.at_ _ az;have hl:=S1.h.at_ _ (aB az);induction H:vs[i]? with
 |some x=>have bp:=(se.mp H).1;refine Jj hI hl H λh' e1 sb=>?_;exact Y i x led _ _ _ H hJ (q7 (pre:=[]) S1 e1 sb.extBut) λZ s' JS S'=>⟨vs.length - (i+1),lq [eQ (Y0+(Y2+1)) Y3,eQ (Y1+Y2) Y3] (lL Y0 Y1) [1,-1] 1 rfl (bX (aT [lL Y0 Y1] (lE (Y0+1) Y1) rfl bp)) (bX (hi)),i+1,Z,rfl,bp,JS,S'⟩|none=>obtain rfl:i=vs.length:=c8 hi (aVh.mp H);exact Jk hA hI hl H λh' e1 sb=>qC (dm led _ hJ (q7 (pre:=[]) S1 e1 sb))
def qk(b:Bool)(p:Pr):List Pr:=nc (match b with
 |true=>[]|false=>[p])
noncomputable def jz(r:FR):Bool:=decide (r.tu % 2=1)
def oW(r:FR)(sz tk:Nat):List Pr:=qk (b8 (jX r sz tk)) (jX r sz tk)++(qk (b8 (jY r sz tk)) (jY r sz tk)++qk (b8 (jZ r sz tk)) (jZ r sz tk))
noncomputable def rJ(b:Bool)(l:List Pr):List Pr:=match b with
 |true=>l.reverse|false=>l
def cu(r:FR):List Str:=[aW (gJ r.dr (eX r.dp)),aW (gJ r.dr r.nm)]++(rJ (jz r) (oW r 0 0)).flatMap (oV r.dr)
theorem aK2(r:FR)(sz tk:Nat):(rJ (jz r) (oW r sz tk)).flatMap (oV r.dr)=(rJ (jz r) (oW r 0 0)).flatMap (oV r.dr):=by unfold oW;show(rJ _ (qk (b8 (jX r 0 0)) _++(qk (b8 (jY r 0 0)) _++qk (b8 (jZ r 0 0)) _))).flatMap _=_;induction jz r<;>induction b8 _<;>induction b8 _<;>induction b8 _<;>rfl
theorem Ke(b:Bool)(p:Pr):mL b p=(qk b p).map λp=>aN p.a:=by induction b<;>rfl
structure FR.Ok(r:FR):Prop where
 dr:r.dr=0\/r.dr=1\/r.dr=2
 dp:yz (eX r.dp)
 dn:r.dp.natAbs.log2< 1920
 nm:yz r.nm
 p0:Bh (jX r 0 0)
 p1:Bh (jY r 0 0)
 p2:Bh (jZ r 0 0)
theorem FR.Ok.all{r:FR}(H:r.Ok)(sz tk:Nat):∀p∈rJ (jz r) (oW r sz tk),Bh p/\(p=jX r sz tk\/p=jY r sz tk\/p=jZ r sz tk):=λp J=>by
 have Y:p∈oW r sz tk:=by
  unfold rJ at J;split at J;·exact Yp.mp J
  ·exact J
 have k:∀b q,p∈qk b q->p=q:=λb q h=>by
  induction b with
  |true=>contradiction|false=>exact bI.mp h
 have c:p=jX r sz tk\/p=jY r sz tk\/p=jZ r sz tk:=by
  rcases cq.mp Y with h|h
  ·exact .inl (k _ _ h)
  ·rcases cq.mp h with h|h
   ·exact .inr (.inl (k _ _ h))
   ·exact .inr (.inr (k _ _ h))
 refine⟨?_,c⟩;rcases c with rfl|rfl|rfl
 ·exact⟨H.p0.x,H.p0.i,H.p0.n⟩
 ·exact⟨H.p1.x,H.p1.i,H.p1.n⟩
 ·exact⟨H.p2.x,H.p2.i,H.p2.n⟩
noncomputable def TK(b:Bool):Int:=match b with
 |true=>1|false=>0
theorem Kf(H:¬(b==0)=true)(h:a.fmod b=m)(k:bJ next ao w A U fr aa):(Ey a b m t u next).Ok ao (av w) A U fr aa lv:=by subst h;exact dY (λz=>eM PySem.F.slot_int_mod PySem.F.entry_int_mod (PySem.F.args_int_mod_2 _ _) (aXo a t b u H) (λs=>jJ ..) λQ s k=>k _ _) λe z=>k e lv
theorem aK3(r:FR):r.tu.fmod 2=TK (jz r):=by
 refine rR (Gs _ (by decide)) ?_;unfold jz TK;have:=Int.emod_two_eq r.tu;rcases this with h|h
 ·refine rR h ?_;rfl
 ·refine rR h ?_;rfl
def Kg(w:aj)(R L W:af)(rows:List FR)(P:List (af×aq))(i:Nat)(led:List (af×aq)):Prop:=∃(y:Nat->Nat)(e:Nat)(k:FK)(d:FD)(r:FR)(f:Nat),(f=0\/f=2\/f=3)/\led=(W,aA (bn ((rows.take i).flatMap cu) y) e)::(L+1,iD W)::(L,jW w k R r d f)::P
theorem aK4(r:FR):(cu r).length<=8:=by unfold cu oW;induction jz r<;>induction b8 _<;>induction b8 _<;>induction b8 _<;>exact dh rfl
theorem Kh:∀rows:List FR,(rows.flatMap cu).length<=8*rows.length
 |[]=>a8 _|r::l=>by simp only[jg,bQ,eH];exact aE (FL (aK4 r) (Kh l)) (qu (L8 ..))
theorem aK5(X1:aK w ar)(aU:ar.NoLimit)(hA:A.handled=none)(hd:A.depth+4<=bk)(hU:A.units+20< dP){R W:af}(m9:∀r∈rows,r.Ok)(hlen:rows.length<=10){P:List (af×aq)}(hP:∀r∈rows,(r.a,r.o)∈P){x:ag}(hx:(rows.map λr=>aN r.a)[i]?=some x)(hJ:Kg w R L W rows P i led)(SR:ay True ar ak ((I,cV R (i+1))::(R,aA (rows.map λr=>aN r.a) re)::led) s)(hQ:∀ji s',Kg w R L W rows P (i+1) ji->ay True ar ak ((I,cV R (i+1))::(R,aA (rows.map λr=>aN r.a) re)::ji) s'->Q .next s'):aG (av w) A (su (mK fD 1) (.ref I) x) (λ_ s=>aG (av w) A (pD (mK fD 1) (jV L) x) (λ_ s=>aG (av w) A (aV (nD fD 1) (jV L)) Q E s) E s) E s:=by
 obtain⟨y,e,k,d,r0,f,hf,rfl⟩:=hJ;replace hx:=(dL)▸hx;induction hp:rows[i]? with
 |none=>replace hx:=hp▸hx;injection hx|some r=>
  rw[hp]at hx;obtain rfl:aN r.a=x:=dG hx;have hm:=ja hp;have ok:=m9 r hm;refine vg (Gi (hP r hm)) λP1 P2 eq1=>?_;subst eq1;have d0:=aT [lE (Y0+4) Y1] (lE (Y0+0) Y1) rfl hd;refine dq SR X1 aU hA 0 300 [1] .nil (λ_ _ _ _ _=>True.intro) d0 _ _ _ _ (λJ=>aK0 w R _ _ J I _ r.a) λ_ s1 S1 _ _ _=>fN (ro:=_::_::_::_::(P1++P2)) (bj S1 (Kb [_] [_] [_] [_] [_] P1 [(r.a,r.o)] P2)) X1 aU hA 0 600 _ _ .nil (λ_ _ _ _ _=>True.intro) d0 (by decide) _ _ _ _ (λJ=>aKz w k R L r0 r d _ _ J f hf) λJ s2 S3 _ _ _=>?_;have f1:rH f=1\/rH f=2\/rH f=3:=by rcases hf with rfl|rfl|rfl<;>simp[rH]
  let k1:=TH k f s1.toks;let sz:=s2.heap.objs.size;let tk:=s2.toks;let H:=rJ (jz r) (oW r sz tk);let de:=nE (b8 (jX r sz tk))+nE (b8 (jY r sz tk))+nE (b8 (jZ r sz tk));let dv:=mL (b8 (jX r sz tk)) (jX r sz tk)++(mL (b8 (jY r sz tk)) (jY r sz tk)++mL (b8 (jZ r sz tk)) (jZ r sz tk))
  have Ki:dv=(oW r sz tk).map λp=>aN p.a:=by show _++_=qH _ (_++_);simp only[bM,bM,Ke,Ke,Ke]
  let kk:(Nat->Nat)->FK:=λc=>match rH f with
   |1=>λi=>bif bY i.val 7 then c 1 else k1 i|_=>k1
  let Y:Nat:=match rH f with
   |3=>3|_=>2
  have iU:Y=2\/Y=3:=by rcases f1 with h|h|h<;>simp only[Y,h]<;>simp
  let dd:={ d with D:=sz+5 }
  have efr:∀c,ED w k1 R r d (rH f) _ (c 1)=jW w (kk c) R r dd Y:=λc=>by rcases f1 with h|h|h<;>simp only[kk,Y,h]<;>rfl
  let Bj:=bn ((rows.take i).flatMap cu) y;let Kj:(Nat->Nat)->(Nat->Nat)->List Value:=λb c2=>Bj++[ag.str (aW (gJ r.dr (eX r.dp))) (b 2),ag.str (aW (gJ r.dr r.nm)) (c2 2)]
  let g:_->_->_->DO:=λc b c2=>⟨λ_=>jU H.length,λ_=>aA (H.map λp=>aN p.a) de,λz=>aA (Kj b c2++bn (H.flatMap (oV r.dr)) z) (e+1+H.length),λz=>jW w (kk c) R r (dd.at_ H z) (mM Y H.length)⟩;have TL:Bj.length<=80:=by rw[yn];have:=Kh (rows.take i);rw[w4]at this;exact cz [lE Y1 10,lE Y0 (Ax.m 8 Y2),lE Y2 Y1] (lE Y0 80) [8,1,8] 1 rfl hlen this (aVp (i) _)
  have Z:∀{aQ:aw}_ _(c:Nat->Nat)(lv:List af)(Kk:List ag),Kk=H.map (λp=>aN p.a)->(Kd w k1 R L W r d (rH f) Bj e sz tk Kk de _ _ _ g (ED w k1 R r d _ _) c).Ok True (av w) A A.units none aQ lv:=λX2 N2 c lv Kk hv=>by
   subst hv;refine Tz ok.dn λa _=>EB X2 N2 ok.dr ok.dp λb _=>EB X2 N2 ok.dr ok.nm λc2 _=>TA rfl (by decide) (bu [lE Y0 80] (lE (Y0+2) 100000) rfl TL) (by show 0< 2;decide) λx _=>⟨rfl,by decide,λA' nW oo=>?_,λ_ _ _=>True.intro⟩;have hl:(Kj b c2).length+2*H.length<=1000:=by
    have h3:H.length<=3:=by show(rJ _ (qk _ _++_)).length<=3;induction jz r<;>cases b8 _<;>cases b8 _<;>cases b8 _<;>exact dh rfl
    have:(Kj b c2).length=Bj.length+2:=bQ;exact cz [lE Y2 80,lE Y1 3,eQ Y0 (Y2+2)] (lE (Y0+(Ax.m 2 Y1)) 1000) [1,2,1] 1 rfl TL h3 this
   have:=aKx (U:=A'.units) (fr:=none) X2 N2 nW (oo (by decide)) (kk c) R L W (x 0) r ok.dr dd Y iU de H (λp hp=>(ok.all sz tk p hp).1) _ (e+1) hl [(jX ..).e,(jY ..).e,(jZ ..).e] (λp hp=>by
    rcases (ok.all sz tk p hp).2 with rfl|rfl|rfl
    ·exact az
    ·exact aB az
    ·exact aB (aB az));exact rR (efr ..) this
  refine fN (ro:=_::_::_::(P1++P2)) (bj S3 (TB [_] [_] [_] [_] [_] P1 [_] P2)) X1 aU hA 4 900 _ [9,10,11] (TD w k1 R L W r d _ _ Bj e sz tk dv de (aW (eX r.dp)) (aW (gJ r.dr (eX r.dp))) (aW (gJ r.dr r.nm)) g) (λaQ _ X2 N2 _=>?_) hd (by decide) _ _ _ _ (λJ=>aK1 w k1 R L W r d sz tk J _ f1 (jz r) ..) λJ s3 S5 _ _ _=>?_
  ·refine⟨rfl,by decide,aKs X2 N2 hA (aT [lE (Y0+4) Y1] (lE (Y0+2) Y1) rfl hd) (aT [lL (Y0+20) Y1] (lL (Y0+15) Y1) rfl hU) L _ _ _ _ _ _ _,λc _ _=>?_⟩;have em:=aK3 r;have EE:H=rJ _ _:=rfl;induction ho:jz r with
   |true=>rw[ho]at em EE;refine Kf (by decide) em λm _=>⟨rfl,by decide,λA' _ _=>aJ7 _ dv de (by rw[Ki,dA];show(qk _ _++_).length<=1000;cases b8 _<;>cases b8 _<;>cases b8 _<;>exact dh rfl),λv _ _=>Z X2 N2 c _ _ ?_⟩;rw[Ki,EE];show(qH _ _).reverse=qH _ (aVq _);rw[aTj]|false=>rw[ho]at em EE;refine Kf (by decide) em λm _=>Z X2 N2 c _ _ ?_;simp only[Ki,EE];rfl
  ·have S6:=bj S5 (TC [_] [_] [_] [_] [_] P1 [_] P2);let n:=rG (jz r);have hf3:mM Y H.length=0\/mM Y H.length=2\/mM Y H.length=3:=by
    unfold mM;split
    ·rcases iU with h|h
     ·exact .inr (.inl h)
     ·exact .inr (.inr h)
    ·exact .inr (.inr rfl)
   refine hQ _ s3 ⟨mH ((rows.take i).flatMap cu).length (λ_=>0) y (mH 2 (λ_=>0) (λj=>match j with|100=>J (n - 3) 2|_=>J (n - 2) 2) (J n)),e+1+H.length,kk (J 0),dd.at_ H (J n),r,mM Y H.length,hf3,?_⟩ S6;have Y:rows.take (i+1)=rows.take i++[r]:=by refine rR Go (rR hp ?_);rfl
   have Z:bn (cu r) (mH 2 (λ_=>0) (λj=>match j with|100=>J (n - 3) 2|_=>J (n - 2) 2) (J n))=[ag.str (aW (gJ r.dr (eX r.dp))) (J (n - 3) 2),ag.str (aW (gJ r.dr r.nm)) (J (n - 2) 2)]++bn (H.flatMap (oV r.dr)) (J n):=by unfold cu;exact rL (aK2 ..) (uh [aW _,aW _] ..)
   refine rR (Y ..) (rR (zh ..) (rR (jg ..) (rR (nQ ..) (rR (dQ ..) (rR (uh ..) (rR (Z ..) (rL (bH (bn _ y) ..) ?_)))))));rfl
theorem aK6(k:Nat)(h:k<=1000):Yq (k:Int)=true:=by unfold Yq;rw[decide_eq_true (kU (by decide) (bG k)),decide_eq_true (jE (show _<=1000 by exact(bK.mpr h)) (by decide))];rfl
theorem aK7(l:af)(vs:List ag)(i:Int)(k:Nat)(x:ag)(e:Nat)(t:ab)(J:Yq i=true)(hi:i=(k:Int))(hx:vs.toArray[k]?=some x):Told ao (av w) A U fr aa (bC "list.__getitem__" [.ref l, .int i t]) [(l,listOf vs.toArray e)] (λy=>⟨.ok (.ret x),[(l,listOf vs.toArray e)],[],y 0,y 1⟩):=by
 intro u s ak R hu H z hR;have Y:=H.h.at_ _ az;have Z:s.heap.IsList l vs.toArray:=⟨_,Y,rfl,e,rfl⟩
 refine dJ B4.plain Xq (B4.check _ _ _ _ _ _ _ _ Z.typeIs (Xr _ _) ?_);show aG _ _ (Xu _>>=_) ..;refine au (aUv J ?_);clear J;subst hi;refine au (au (wpAny_seqItemAt Y rfl (aH ?_)));refine rR hx (aH ?_);exact hR (λi=>bif bY i 0 then s.heap.objs.size else s.toks) s rfl rfl rfl (λp J=>absurd J bi) ⟨H.h,H.os,H.gens,H.same⟩ λb o H J=>H
abbrev EF(n:Nat)(t u v:ab):Obj:=nc (⟨.type "range",none, .fields #[.int 0 t, .int n u, .int 1 v],#[]⟩)
abbrev qm(x l:Int):Obj:=nc (⟨.type "range_iterator",none, .fields #[eI x,eI l,eI 1],#[]⟩)
theorem aK8(r:af)(a b c:Int)(t u v:ab)(J:aVr a b c=true):Told True (av w) A U fr aa (bC "range.__iter__" [.ref r]) [(r,⟨.type "range",none, .fields #[.int a t, .int b u, .int c v],#[]⟩)] (λe=>⟨.ok (.ret (.ref (e 2))),[(r,⟨.type "range",none, .fields #[.int a t, .int b u, .int c v],#[]⟩)],[(e 2,⟨.type "range_iterator",none, .fields #[eI a,eI (aVs a b c),eI c],#[]⟩)],e 0,e 1⟩):=by
 intro un s ak R hu H q Z;have Y:=H.h.at_ _ az;unfold aVr at J;refine dJ aVt.plain F.entry_range_iter (aVt.check _ _ _ _ _ _ _ _ (⟨_,Y,rfl⟩) (F.args_range_iter_1 _) (AutoRange.range___iter___range_1 r a b c t u v (by simp[J]) _ _ _ _ s ⟨Y,?_⟩));simp only[J,if_true];exact Z (λi=>match i with|0=>s.heap.objs.size+1|1=>s.toks|_=>s.heap.objs.size) { s with heap:=s.heap.push ⟨.type "range_iterator",none, .fields #[eI a,eI _,eI c],#[]⟩ } (qv ..) rfl rfl (λp J=>by
  refine rR (bI.mp J) ?_;induction z:s.heap.get? s.heap.objs.size with
  |none=>rfl|some o'=>exact absurd (dH z) (jH _)) ⟨H.h.alloc rfl,H.os,H.gens,H.same⟩ λb o e j=>cZ _ e
theorem aK9(r:af)(n:Nat)(t u v:ab)(hn:n<=1000):Told True (av w) A U fr aa (bC "range.__iter__" [.ref r]) [(r,EF n t u v)] (λe=>⟨.ok (.ret (.ref (e 2))),[(r,EF n t u v)],[(e 2,qm 0 n)],e 0,e 1⟩):=by
 have h:=aK8 (w:=w) (A:=A) (U:=U) (fr:=fr) (aa:=aa) r 0 n 1 t u v (small_one (by decide) (by decide) (by omega) (iB [(n:Nat)] [lE Y0 1000] (lL Y0 4611686018427387904) rfl (bK.mpr hn)));have H:aVs 0 n 1=n:=by rw[rangeSize_one];split<;>omega
 rw[H]at h;exact h
def wz:PySem.Expr:=xE (pE fD[2]? 0) 1
def Km:PySem.Expr:=xE wz 0
def Kn:PySem.Expr:=xE wz 1
def TM:PySem.Expr:=xE wz 2
def Ko:Scope:=(eL wz).2.2
def TN:Pos:=nc (wz.pos)
theorem aLa:wz= .ListComp Km [⟨Kn,TM,[],0⟩] Ko TN:=by kernel_rfl
abbrev EG(L C:af):Env:=Yk Ko [("words",L+1)] C (jV L)
abbrev Kq(L I D C:af):Code:= .compStart wz 0 (.ref I) (.ref D) (EG L C)
abbrev uv(w:aj)(t:ab)(i:Int)(u:ab):Obj:=nc (⟨.type "dict",none, .dict #[⟨aS w.params "k", .str "k" t, .int i u⟩] 1,#[]⟩)
def Bk(w:aj)(f:Nat)(t:ab)(i:Int)(u:ab):Obj:=match f with
 |0=>mF|_=>uv w t i u
abbrev aLb(j:Nat)(l:af)(vs:List ag)(i:Int)(x:ag)(e:Nat)(t:ab)(next:aM):aF:= .cons (some 0) (bC "list.__getitem__" [.ref l, .int i t]) [j] [(l,aA vs e)] (λy=>⟨.ok (.ret x),[(l,aA vs e)],[],y 0,y 1⟩) next
abbrev EH(s:Str)(i:Int)(x:Nat)(t u:ab)(next:aM):aF:=cK "str.__getitem__" [.str s t, .int i u] (λk=> .str ⟨#[x]⟩ k) next
abbrev Kr:Str:=nc (" \n\t\r")
def TO(W:af)(vs:List ag)(e:Nat)(i:Int)(u tk:ab)(S:Str)(H:ab)(m:Int)(c:Nat)(T:Str):aF:=aLb 2 W vs i (.str S H) e u λa=>Ey i 4 m u (a 1+1) λb=>EH Kr m c (a 1) (b 2) λd=>cP S ⟨#[c]⟩ T H (d 2) λ_=> .nil
def TP(f:Nat)(tk t:ab):Tok:=nc (match f with
 |0=>tk|_=>t)
theorem aLc(w:aj)(L C:af)(f:Nat)(J:f=0\/f=1)(t u Y:ab)(i H:Int)(sz tk:Nat)(Z:Xs):bA ((aI w 0 0 none 600).S [] Z ⟨[(C,Bk w f t H Y)],sz,tk,[1,1], .nil⟩ (pD Kn (EG L C) (.int i u)) fin) (.ok (),[(C,uv w (TP f tk t) i u)],sz,tk+1):=by rcases J with rfl|rfl<;>kernel_rfl
section
variable {x:Int}{Q:Option ag->am->Prop}
theorem aLd(J:A.handled=none)(H:s.heap.get? I=some (qm x 0))(Z:∀h',h'.get? I=some (qm x 0)->y8 I s.heap h'->Q none { s with heap:=h' }):aG (aR prog w) A (y9 (.ref I)) Q E s:=by
 have Y:s.TypeIs (.ref I) "range_iterator":=⟨_,H,rfl⟩
 refine au (uQ (wV Y aVu
  (qz aVu Y F.entry_range_iterator_next ?_ (F.args_range_iterator_next_1 _))));show aG _ _ (BY _ 0>>=_) ..;refine au (jb H rfl (x:=eI x) rfl ?_);refine au (jb H rfl (x:=eI 0) rfl ?_);refine au (jb H rfl (x:=eI 1) rfl ?_);show aG ..;refine au (qy ?_);refine au (au ?_);refine au (kb ?_ (by size_fits));refine au (jd (a:=ag.none) (by first|rfl|(rfl)) ?_);refine kb ?_ (by size_fits);refine au (F9 ?_);first|refine rR (show A.in1.handled=none from J) ?_|rw[J]
 refine au (aH (Ga ?_));refine au (mT ⟨_,gY _ rfl,rfl⟩ Gc ?_);exact aH (Z _ (cZ _ (cZ _ H)) (((aXp I s.heap).push _).push _))
end
theorem TQ:(∀(w:aj)(L C W:af)(t u:ab)(i:Int)(vs:List ag)(e sz tk:Nat)(S T:Str)(st:ab)(m:Int)(c:Nat)(H:Xs),Ends [0,1,2] ((aI w 2 0 none 600).S [] H ⟨[(C,uv w t i u),(L+1,iD W),(W,aA vs e)],sz,tk,[2,1,3,3,3,2,1,2,2,2],TO W vs e i u tk S st m c T⟩ (fx Km (EG L C)) fin) (.ok (.str T (H 3 2)),[(C,uv w t i u),(L+1,iD W),(W,aA vs e)].map some,H 3 0,H 3 1))/\(∀(w:aj)(D:af)(vs:List ag)(e:Nat)(v:ag)(sz tk:Nat)(H:Xs),bA ((aI w 0 0 none 300).S [] H ⟨[(D,aA vs e)],sz,tk,[2],ik 0 D vs e v λ_=> .nil⟩ (call (.builtin "list.append") [.ref D,v]) fin) (.ok .none,[(D,aA (vs++[v]) (e+1))],H 0 0,H 0 1)):=by and_intros<;>intros<;>kernel_rfl
def iE(H:List Str):List Str:=H.mapIdx λk s=>s++⟨#[lB k]⟩
theorem aLe:∀k:_root_.Fin 4,(pA ((k.val:Nat):Int) Kr.length).bind (Kr.cps[·]?)=some (lB k.val)/\(decide (((k.val:Nat):Int)< -(2 ^ 63:Int))||decide (((k.val:Nat):Int)>=2 ^ 63))=false:=by decide+kernel
theorem aLf(k:Nat):lB (k % 4)=lB k:=by unfold lB;exact rR (Nat.mod_mod ..) rfl
theorem aLg{H:List Str}{y:Nat->Nat}{S:Str}(h:H[i]?=some S):(bn H y)[i]?=some (.str S (y (100+i))):=by unfold bn;refine rR (gA) (rR h ?_);rfl
abbrev yA(C D I L W:af)(c:aq)(ds:List ag)(H:Nat)(i:aq)(vs:List ag)(e:Nat):List (af×aq):=[(C,c),(D,aA ds H),(I,i),(L+1,iD W),(W,aA vs e)]
abbrev TR(w:aj)(C D I L W:af)(H:List Str)(vs:List ag)(e:Nat):(Nat->Nat)->Out:=λz=>⟨.ok .next,yA C D I L W (uv w (z 6) ((z 7:Nat):Int) (z 8)) (bn (iE H) z) H.length (qm H.length 0) vs e,[],z 0,z 1⟩
theorem aLh(XK:aK w aa)(NL:aa.NoLimit)(hA:A.handled=none)(hd:A.depth+2<=bk)(L C D I W:af)(H:List Str)(h0:0< H.length)(Y:H.length<=900)(fM:∀s∈H,s.length<=1000)(y:Nat->Nat)(e:Nat):Told True (av w) A U fr aa (Kq L I D C) (yA C D I L W mF [] 0 (qm 0 H.length) (bn H y) e) (TR w C D I L W H (bn H y) e):=by
 intro u s ak R hu SR q hR;have vL:ay True aa ak (yA C D I L W mF [] 0 _ _ e++[]) s:=SR;refine cI (kF vL) λSA q aZ=>?_;generalize hh:gZ s.heap _=ar at SA aZ;have X1:aK w ar:=λb o e=>aZ _ _ (XK b o e);have aU:=NL.keeps aZ;have d0:=aE (fF ..) hd;have loop:eC (av w) { A with units:=u } (.compLoop (.ListComp Km [⟨Kn,TM,[],0⟩] Ko TN) 0 (.ref I) (.ref D) (EG L C)) R s:=by
  refine codeAny_compLoop_list (λm s'=>∃(i f:Nat)(t u0:ab)(i0:Nat)(z:Nat->Nat),m=H.length - i/\i<=H.length/\(f=0\/f=1)/\(0< i->f=1)/\ay True ar ak (yA C D I L W (Bk w f t (i0:Int) u0) (bn ((iE H).take i) z) i (qm i ((H.length:Int) - i)) _ e) s') ?_ H.length ⟨0,0,0,0,0,λv=>0,rfl,fZ _, .inl rfl,λh=>absurd h (jH 0),by exact SA⟩ (by intro q;rfl);rintro m s1 ⟨i,f,t,u0,i0,z,rfl,hi,hf,Am,S1⟩;have hI:=S1.h.at_ _ (aB (aB az));by_cases bp:i< H.length
  ·obtain⟨S,hS⟩:∃S,H[i]?=some S:=⟨H[i],gD bp⟩
   refine wpAny_pyNext_range_item hI (iB [(H.length:Nat),(i:Nat)] [lL Y1 Y0] (lL 0 (Y0-Y1)) rfl (cb.mpr bp)) λh' hit sb=>?_;have Z:=q7 (pre:=[(C,Bk ..),_]) S1 hit sb.extBut;have S2':ay True ar ak _ { s1 with heap:=h',toks:=s1.toks+1 }:=⟨Z.h,Z.os,Z.gens,Z.same⟩
   refine dq (ro:=[(D,listOf (bn _ z).toArray i),(I,qm _ _),_,_]) S2' X1 aU hA 0 600 [1,1] .nil (λv v v v v=>True.intro) d0 _ _ _ _ (λσ=>aLc w L C f hf t s1.toks u0 i i0 _ _ σ) λv s3 J v v v=>?_;generalize hk:TP f _ t=tk at J;have S4:ay True ar ak ([(C,uv ..),_,_]++[(D,listOf (bn _ z).toArray i),_]) s3:=lN J (ix:=[0,3,4,1,2]) (by decide) rfl;refine d7 (aLe ⟨i % 4,(uP _ (by decide))⟩) λg1 g2=>?_;rw[aLf]at g1;refine fN S4 X1 aU hA 2 600 [2,1,3,3,3,2,1,2,2,2] [0,1,2] (TO ..) (λaQ v X2 N2 v=>⟨rfl,by decide,λA' v v=>aK7 W _ i i _ e _ (aK6 i (aT [lE Y1 900,lE Y0 Y1] (lE Y0 1000) rfl Y hi)) rfl (Ms▸aLg hS),λa v v=>Kf (by decide) (rR (Gs _ (by decide)) rfl) λb v=>A9 g2 g1 λd v=>nZ rfl (aE (yY (fM S (ja hS)) 1) (by decide)) λv v=>True.intro⟩) hd (by decide) _ _ _ _ (λσ=>TQ.1 ..) λσ s4 S5 v v v=>?_;have S6:ay True ar ak ([(D,listOf (bn _ z).toArray i)]++[(C,uv ..),_,_,_]) s4:=lN S5 (ix:=[3,0,4,1,2]) (by decide) rfl;refine dq S6 X1 aU hA 0 300 [2] (ik 0 D _ i _ λv=> .nil) (λv v v v v=>lr (rR (yn ..) (rR (w4 ..) (b7 [lE Y1 900,lE Y2 Y1,lE Y0 Y2] (lE Y0 1000) rfl Y hi (Yr (i) _)))) λv v=>True.intro) d0 _ _ _ _ (λY=>TQ.2 ..) λY Y S7 v v v=>⟨H.length - (i+1),lq [eQ (Y0+(Y2+1)) Y3,eQ (Y1+Y2) Y3] (lL Y0 Y1) [1,-1] 1 rfl (bX (aT [lL Y0 Y1] (lE (Y0+1) Y1) rfl bp)) (bX (hi)),i+1,1,tk,s1.toks,i,mH ((iE H).take i).length (λv=>0) z (λv=>σ 3 2),rfl,bp, .inr rfl,λv=>rfl,?_⟩;have Y:(iE H).take (i+1)=(iE H).take i++[S++⟨#[lB i]⟩]:=by rw[Go];unfold iE;refine rR (gA) (rR hS ?_);rfl
   refine rR (Y ..) (rR (uh ..) ?_);have Y:_ - _=(H.length:Int) - i - 1:=bw (iB [(H.length:Nat),(i:Nat)] [] (lE (Y0-(Y1+1)) (Y0-Y1-1)) rfl) (iB [(H.length:Nat),(i:Nat)] [] (lE (Y0-Y1-1) (Y0-(Y1+1))) rfl);exact rR Y (rR (show _=(i:Int)+1 by exact bw (jN [eQ (Y2-Y0) (Y2-Y1-1)] (lE Y0 (Y1+1)) [-1] 1 rfl Y) (g9 [eQ (Y2-Y1) (Y2-Y0-1)] (lE (Y0+1) Y1) rfl Y)) (lN S7 (ix:=[1,0,2,3,4]) (by decide) rfl))
  ·obtain rfl:i=H.length:=c8 hi (dw.mp bp);obtain rfl:=Am h0;simp only[show((H.length:Int) - (H.length:Nat))=0 by exact bw (bf [] (lE (Y0-Y0) 0) rfl) (bf [] (lE 0 (Y0-Y0)) rfl)]at hI S1;refine aLd hA hI λh' Y sb=>?_;have Z:=q7 (pre:=[(C,Bk ..),_]) S1 Y sb;let zf:=ww (λj=>match j with|0=>h'.objs.size|1=>s1.toks|6=>t|7=>i0|_=>u0) z;have ef:(iE H).take H.length=iE H:=Mq (by exact rR Gp (a8 _));replace Z:=ef▸Z;have J:ay True ar ak (TR w C D I L W H (bn H y) e zf).post { s1 with heap:=h' }:=by show ay True ar ak [(C,Bk w 1 t _ u0),_,_,_,_] _;exact rR (EA ..) Z
   refine hR zf { s1 with heap:=h' } rfl rfl rfl (λp hp=>absurd hp bi) ?_ λb o Y Z=>J.h.keep b o (hh▸kd _ Y λY=>aO (bq.mp Y) λp hp e=>Z p hp e);exact⟨⟨J.h.at_,J.h.nd,λb o e=>J.h.keep b o (aZ b o e),λp hp=>by
    induction z:aa.get? p.1 with
    |none=>rfl|some o=>have:=J.h.off p hp;replace this:=(aZ _ _ z)▸this;injection this⟩,J.os,J.gens, .inl True.intro⟩
 unfold Kq;refine rR aLa (aVa loop ((Walks.range (A:={ A with units:=u }) hA I 0 1 H.length).self 0 _ _ _ ?_ loop));have:=SR.h.at_ _ (aB (aB az));simpa using this
abbrev riO(ix:List Nat)(r n:Nat)(t u v:ab)(next:aM):aF:= .cons (some 0) (bC "range.__iter__" [.ref r]) ix [(r,EF n t u v)] (λe=>⟨.ok (.ret (.ref (e 2))),[(r,EF n t u v)],[(e 2,qm 0 n)],e 0,e 1⟩) next
abbrev aLi(ix:List Nat)(w:aj)(C D I L W:af)(H:List Str)(vs:List ag)(e n:Nat)(next:aM):aF:= .cons (some 2) (Kq L I D C) ix (yA C D I L W mF [] 0 (qm 0 n) vs e) (λz=>⟨.ok .next,yA C D I L W (uv w (z 6) ((z 7:Nat):Int) (z 8)) (bn (iE H) z) n (qm n 0) vs e,[],z 0,z 1⟩) next
abbrev Bl(ix:List Nat)(D:af)(sep:Str)(t:ab)(vs:List ag)(e:Nat)(T:Str)(next:aM):aF:= .cons (some 0) (bC "str.join" [.str sep t, .ref D]) ix [(D,aA vs e)] (λx=>⟨.ok (.ret (.str T (x 2))),[(D,aA vs e)],[],x 0,x 1⟩) next
def TS:List Nat:=(dN 27 0x82108822f842100401080000080100000)
def TU(w:aj)(L W:af)(H:List Str)(vs:List ag)(e n tk:Nat)(T:Str)(J t1 t2:(Nat->Nat)->Nat):aF:=vm 1 W vs e n λa=>riO [0] (a 0) n (J a) (t1 a) (t2 a) λb=>aLi [0,1,2,4,5] w (b 0+1) (b 0) (b 2) L W H vs e n λc=>Bl [1] (b 0) "" tk (bn (iE H) c) n T λd=> .nil
theorem aLj(w:aj)(L W:af)(sz tk n e:Nat)(H:Xs)(J:List Str)(vs:List ag)(T:Str):Ends [4,5] ((aI w 2 0 none 600).S [] H ⟨[(L+1,iD W),(W,aA vs e)],sz,tk,TS,TU w L W J vs e n tk T (λa=>a 1) (λa=>a 2) (λa=>a 1+1)⟩ (aV (fD.drop 2) (jV L)) fin) (.ok (.ret (.str T (H 3 2))),[(L+1,iD W),(W,aA vs e)].map some,H 3 0,H 3 1):=by kernel_rfl
def yB(b:List ck)(i:Nat):PySem.Expr:=pE b[i]? 1
def TV(b:List ck)(i:Nat):Pos:=(oS b[i]?).pos
theorem aLk:fD=fD.take 1++([.For (mK fD 1) (yB fD 1) (nD fD 1) [] (TV fD 1)]++fD.drop 2):=by kernel_rfl
theorem aLl(w:aj):(K w.params).lookup 250=some ⟨vd.1.cls,vd.1.dict, .func ut,vd.1.slots⟩:=by kernel_rfl
abbrev rK(w:aj)(R L tk:af):Obj:=nc (⟨.type "frame",none, .dict #[⟨aS w.params "rows", .str "rows" tk, .ref R⟩] 1,#[]⟩)
abbrev EI:Obj:=nc (⟨.type "cell",none, .cell none,#[]⟩)
section
variable (w:aj)(R L W:af)(a:List (af×aq))(sz tk t:Nat)(σ:Xs)
end
theorem aLm(L:af)(x:ag):MD (yB fD 1) (jV L) x=pure x:=by kernel_rfl
theorem aLn(H:List Str)(y:Nat->Nat):pI (H.mapIdx λi s=>(s,y (100+i)))=bn H y:=by unfold pI bn;refine jG λi=>?_;simp only[dL,gA,gA];induction H[i]?<;>rfl
theorem Ks(H:List Str)(y:Nat->Nat):(H.mapIdx λi s=>(s,y (100+i))).map (·.1)=H:=by refine jG λi=>rR (dL) (rR (gA) ?_);induction H[i]?<;>rfl
theorem TX{l:List Str}{m:Nat}(H:l.length*m<=1000000)(h:∀s∈l,s.length<=m):sA (l.toArray.foldl (· +·.length+("":Str).length) 0)=false/\(je "" l).length<=sizeLine:=by
 have H:=nO;constructor
 ·have:=Ju m l 0 h;exact rR (Ym ..) (decide_eq_false (by omega))
 ·have e:("":Str).length=0:=by decide+kernel
  have:=Ef m l h;refine rR (Gr ..) (rR e ?_);omega
open Classical in
theorem pm4(I R W c F P:List α):cF (I++(R++(W++(c++(F++P))))) (c++(W++(R++(P++(I++F))))):=by rw[jf];intro x;simp only[ie];ac_rfl
open Classical in
theorem pm5(W c F R P:List α):cF (W++(c++(F++(R++P)))) (F++(W++(c++(R++P)))):=by rw[jf];intro x;simp only[ie];ac_rfl
open Classical in
theorem pm6(W c F R P:List α):cF (F++(W++(c++(R++P)))) (R++(W++(c++(F++P)))):=by rw[jf];intro x;simp only[ie];ac_rfl
open Classical in
theorem pm7(c W R P I F:List α):cF (c++(W++(R++(P++(I++F))))) ((R++P)++(c++(W++(I++F)))):=by rw[jf];intro x;simp only[ie];ac_rfl
def fQ(rows:List FR):Str:=je "" (iE (rows.flatMap cu))
abbrev TY(R:af):Code:=nc (.call (.ref 250) ⟨[.ref R],[]⟩)
abbrev f9(R:af)(re:Nat)(rows:List FR):List (af×aq):=(R,aA (rows.map λr=>aN r.a) re)::rows.map λr=>(r.a,r.o)
theorem yC:(∀(w:aj)R a sz tk σ,bA ((aI w 0 0 none 400).S [] σ ⟨a,sz,tk,[], .nil⟩ (ma ut ⟨[.ref R],[]⟩) fin) (.ok [("rows", .ref R)],a,sz,tk))/\(∀(w:aj)R a sz tk σ,bA ((aI w 0 0 none 400).S [] σ ⟨a,sz,tk,[2,2], .nil⟩ (md ut.scope ut.globals ut.closure [("rows", .ref R)] (ut.qualname++".<locals>.") (some 250) ut.code none ut.builtins) fin) (.ok (jV sz),[(sz+1,EI),(sz,rK w R sz tk)]++a,sz+2,tk+1))/\(∀(w:aj)R L sz tk t σ,bA ((aI w 0 0 none 400).S [] σ ⟨[(L+1,EI),(L,rK w R L t)],sz,tk,[2,2], .nil⟩ (aV (fD.take 1) (jV L)) fin) (.ok .next,[(sz,aA [] 0),(L+1,iD sz),(L,rK w R L t)],sz+1,tk))/\(∀(w:aj)R L sz tk t σ,bA ((aI w 0 0 none 400).S [] σ ⟨[(L,rK w R L t)],sz,tk,[1], .nil⟩ (fx (yB fD 1) (jV L)) fin) (.ok (.ref R),[(L,rK w R L t)],sz,tk))/\(∀(w:aj)R sz tk σ(vs:List ag)(e:Nat),bA ((aI w 0 0 none 400).S [] σ ⟨[(R,aA vs e)],sz,tk,[1,1,777,0,1,0,1], .nil⟩ (MG (.ref R)) fin) (.ok (.ref sz),[(sz,cV R 0),(R,aA vs e)],sz+1,tk)):=by and_intros<;>intros<;>kernel_rfl
theorem aLo(XK:aK w aa)(NL:aa.NoLimit)(hA:A.handled=none)(hd:A.depth+5<=bk)(hU:U+23< dP)(R:af)(re:Nat)(rows:List FR)(m9:∀r∈rows,r.Ok)(h1:0< rows.length)(Y:rows.length<=10)(hw:∀s∈rows.flatMap cu,s.length<=100):Told True (av w) A U fr aa (TY R) (f9 R re rows) (λx=>⟨.ok (.ret (.str (fQ rows) (x 2))),f9 R re rows,[],x 0,x 1⟩):=by
 refine Dh (body:=fD) XK NL hA hd (aLl w) rfl rfl (by kernel_rfl) (by kernel_rfl) [("rows", .ref R)] [] (λL tk H=>yC.1 ..) jV (λL tk=>[(L+1,EI),(L,rK ..)]) 2 1 [2,2] (λL tk H=>yC.2.1 ..) (λ_=>rfl) ?_;intro kG L tk s ak Q E ar iV hd2 Kt aZ X1 aU SR hz ht dm;have d0:kG.depth+0<=recursionLimit:=b7 [lE (Y2+5) Y1,eQ Y0 (Y2+1)] (lE (Y0+0) Y1) rfl hd hd2;refine rR aLk (da ?_);refine dq (a:=[(L+1,EI),(L,rK ..)]) SR X1 aU iV 0 400 [2,2] .nil (λ_ _ _ _ _=>True.intro) d0 _ _ _ _ (λH=>yC.2.2.1 ..) λ_ s1 S1 _ _ _=>?_;generalize s.heap.objs.size=W at S1;refine da (mV (XM ?_ (aLm L)));have S2:=bj S1 (pm5 [_] [_] [_] [_] _);refine dq (fr:=none) (a:=[(L,rK ..)]) S2 X1 aU iV 0 400 [1] .nil (λ_ _ _ _ _=>True.intro) d0 _ _ _ _ (λH=>yC.2.2.2.1 ..) λ_ J S3 _ _ _=>?_;have S4:=bj S3 (pm6 [_] [_] [_] [_] _);have e3:=λH=>yC.2.2.2.2 w R J.heap.objs.size J.toks H (rows.map λr=>aN r.a) re;generalize Az:(rows.map λr=>aN r.a)=vs at S4 e3 ⊢;have TZ:=S4;clear S4 S3 S2 S1 SR;have key:∀(Q:ag->am->Prop)(E:ag->am->Prop),(∀s3,ay True ar ak ((J.heap.objs.size,cV R 0)::(R,aA vs re)::(W,aA [] 0)::(L+1,iD W)::(L,rK ..)::rows.map λr=>(r.a,r.o)) s3->Q (.ref J.heap.objs.size) s3)->aG (av w) kG (MG (.ref R)) Q E J:=λQ E h=>dq (fr:=none) TZ X1 aU iV 0 400 [1,1,777,0,1,0,1] .nil (λ_ _ _ _ _=>True.intro) d0 (λ_=> .ref J.heap.objs.size) (λ_=>[(J.heap.objs.size,cV R 0),(R,aA vs re)]) (λ_=>J.heap.objs.size+1) (λ_=>J.toks) e3 λ_ s3 S5 _ _ _=>h s3 S5;refine key _ _ λs3 S5=>?_;clear key e3 TZ;subst Az;generalize J.heap.objs.size=I at S5 ⊢;refine TJ iV (Kg w R L W rows (rows.map λr=>(r.a,r.o))) ⟨λ_=>0,0,λ_=>tk,⟨0,"",0,0,0,0,0⟩,⟨0,0,[],0,0,0,0,0,0,0,0,0,0⟩,0, .inl rfl,rfl⟩ S5 (λi x led s Q E J hJ S hQ=>aK5 X1 aU iV (b7 [lE (Y2+5) Y1,eQ Y0 (Y2+1)] (lE (Y0+4) Y1) rfl hd hd2) (b7 [lL (Y2+23) Y1,lE Y0 (Y2+3)] (lL (Y0+20) Y1) rfl hU Kt) m9 Y (λr hr=>b6 (f:=λr=>(r.a,r.o)) hr) J hJ S hQ) λled s4 hJ S6=>?_;obtain⟨y,e,k,d,r,f,_,rfl⟩:=hJ;replace S6:=B5 .. ▸(dA .. ▸S6)
 refine qC ?_;have hn:=aE (Kh rows) (qM [lE Y0 10] (lE (.m 8 Y0) 80) [8] 1 rfl Y);have h2:2<=(rows.flatMap cu).length:=by
  induction rows with
  |nil=>exact absurd h1 (jH 0)|cons r l=>
   refine rR jg (rR bQ ?_);have:2<=(cu r).length:=by unfold cu;exact rR bQ (fF 2 _)
   exact aT [lE 2 Y0] (lE 2 (Y0+Y1)) rfl this
 have T2:(iE (rows.flatMap cu)).length=(rows.flatMap cu).length:=by unfold iE;rw[Gp]
 have hs:∀s∈iE (rows.flatMap cu),s.length<=101:=λs hs=>by obtain⟨j,hj,rfl⟩:=List.mem_mapIdx.mp hs;exact rR (Yo ..) (yY (hw _ (uW hj)) 1)
 refine d7 (TX (l:=iE (rows.flatMap cu)) (m:=101) (rR T2 (fz [lE Y1 80,eQ Y0 (Ax.m 101 Y1)] (lE Y0 1000000) [101,1] 1 rfl hn (dU ((List.flatMap cu rows).length) _))) hs) λJ Y=>?_;have join:∀(D:af)(c:Nat->Nat)(t:ab){A U fr aQ},Told True (av w) A U fr aQ (bC "str.join" [.str "" t, .ref D]) [(D,aA (bn (iE (rows.flatMap cu)) c) (rows.flatMap cu).length)] (λx=>⟨.ok (.ret (.str (fQ rows) (x 2))),[(D,aA (bn (iE (rows.flatMap cu)) c) (rows.flatMap cu).length)],[],x 0,x 1⟩):=λD c t{A U fr aQ}=>by have:=Jc (ao:=True) (w:=w) (A:=A) (U:=U) (fr:=fr) (aa:=aQ) (D:=D) (l:=(iE (rows.flatMap cu)).mapIdx λi s=>(s,c (100+i))) (e:=(rows.flatMap cu).length) (sep:="") (t:=t) (rR Gp (rR T2 h2)) (rR (Ks ..) J) (rR (Ks ..) Y);rw[Ks,aLn]at this;exact this
 have T5:ay True ar ak ([(L+1,iD W),(W,aA (bn (rows.flatMap cu) y) e)]++([(R,aA (rows.map λr=>aN r.a) re)]++((rows.map λr=>(r.a,r.o))++([(I,jU rows.length)]++[(L,jW ..)])))) s4:=(bj S6 (pm4 [_] [_] [_] [_] [_] _))
 generalize bZ:[(R,aA (rows.map λr=>aN r.a) re)]++((rows.map λr=>(r.a,r.o))++([(I,jU rows.length)]++[(L,jW ..)]))=ro at T5;have gn:∀aQ:aw,aK w aQ->aQ.NoLimit->(TU w L W (rows.flatMap cu) (bn (rows.flatMap cu) y) e (rows.flatMap cu).length s4.toks (fQ rows) (λa=>a 1) (λa=>a 2) (λa=>a 1+1)).Ok True (av w) kG kG.units none aQ ([(L+1,iD W),(W,aA (bn (rows.flatMap cu) y) e)].map (·.1)):=λaQ X2 N2=>
  AX (yn _ _) (bu [lE Y0 80] (lE Y0 1001) rfl hn) λa _=>⟨rfl,by decide,λA' _ _=>aK9 (a 0) _ _ _ _ (bu [lE Y0 80] (lE Y0 1000) rfl hn),λb _ _=>⟨rfl,by decide,λA' J Y=>aLh X2 N2 J (Y (by decide)) L (b 0+1) (b 0) (b 2) W (rows.flatMap cu) (bu [lE 2 Y0] (lL 0 Y0) rfl h2) (bu [lE Y0 80] (lE Y0 900) rfl hn) (λs hs=>aE (hw s hs) (by decide)) y e,λc _ _=>⟨rfl,by decide,λA' _ _=>join (b 0) c s4.toks,λ_ _ _=>True.intro⟩⟩⟩;have J:∀(Q:dk->am->Prop)(E:ag->am->Prop),(∀(H:Xs)Z,ay True ar ak ([(L+1,iD W),(W,aA (bn (rows.flatMap cu) y) e)]++ro) Z->Z.heap.objs.size=H 3 0->Z.toks=H 3 1->Q (.ret (.str (fQ rows) (H 3 2))) Z)->aG (av w) kG (aV (fD.drop 2) (jV L)) Q E s4:=λQ E h=>
  fN (fr:=none) T5 X1 aU iV 2 600 TS [4,5] _ (λaQ _ X2 N2 _=>gn aQ X2 N2) (b7 [lE (Y2+5) Y1,eQ Y0 (Y2+1)] (lE (Y0+2) Y1) rfl hd hd2) (by decide) (λH=> .ret (.str (fQ rows) (H 3 2))) (λ_=>[(L+1,iD W),(W,aA (bn (rows.flatMap cu) y) e)]) (λH=>H 3 0) (λH=>H 3 1) (λH=>aLj w L W s4.heap.objs.size s4.toks (rows.flatMap cu).length e H (rows.flatMap cu) (bn (rows.flatMap cu) y) (fQ rows)) λH Z S8 Ku Kv _=>h H Z S8 Ku Kv;refine J _ _ λH Z S8 Ku Kv=>?_;subst bZ;exact dm (H 3) _ Z rfl Ku Kv (qb (bj S8 (pm7 [_] [_] [_] _ [_] [_])))
def uw:FuncData:=match ve.1.data with
 | .func fd=>fd|_=>default
abbrev iF:List Stmt:=bodyOf ve.1
abbrev dS(L:af):Env:={ mB ve.1 267 L with cells:=[("spelled",L+1)] }
abbrev cW:List Stmt:=nD iF 2
def ldN:List Str:=nc (["rows","bare","told","ways","deep","name","dress","turn","share","value","place","full","bright","lights","corner","way","both","apart","tag","hue","pure"])
noncomputable def Kw(w:aj)(k:Nat->ab)(v:Nat->ag):Nat->List Str->Nat->List XO
 |i,n::ns,m+1=>⟨aS w.params n, .str n (k i),v i⟩::Kw w k v (i+1) ns m|_,_,_=>[]
structure UV where
 R:af
 b:Bool
 T:Str
 t:ab
 W:af
 r:FR
 P:Int
 tP:ab
 F:Int
 tF:ab
 B:Int
 tB:ab
 Lt:af
 co:Int
 Kx:ab
 wy:Int
 Ky:ab
 bo:Int
 Bm:ab
 ap:Int
 Bn:ab
 tg:Str
 rM:ab
 hu:Int
 Bp:ab
 pu:Int
 Bq:ab
def UV.v(U:UV):Nat->ag
 |0=> .ref U.R|1=> .bool U.b|2=> .str U.T U.t|3=> .ref U.W|4=> .int U.r.dp U.r.t0|5=> .str (aW U.r.nm) U.r.t1|6=> .int U.r.dr U.r.t2|7=> .int U.r.tu U.r.t3|8=> .int U.r.sh U.r.t4|9=> .int U.r.va U.r.t5|10=> .int U.P U.tP|11=> .int U.F U.tF|12=> .int U.B U.tB|13=> .ref U.Lt|14=> .int U.co U.Kx|15=> .int U.wy U.Ky|16=> .int U.bo U.Bm|17=> .int U.ap U.Bn|18=> .str U.tg U.rM|19=> .int U.hu U.Bp|_=> .int U.pu U.Bq
def UV.aJ(U:UV)(w:aj)(k:Nat->ab)(n:Nat):Obj:=⟨.type "frame",none, .dict (Kw w k U.v 0 ldN n).toArray n,#[]⟩
abbrev b9(a:Option ag):Obj:=nc (⟨.type "cell",none, .cell a,#[]⟩)
structure WD where
 a:af
 tg:Str
 t:ab
 pl:Int
 tp:ab
 fu:Int
 tf:ab
 br:Int
 tb:ab
noncomputable abbrev WD.o(y:WD):af×Obj:=(y.a,⟨.type "tuple",none, .seq #[.str y.tg y.t, .int y.pl y.tp, .int y.fu y.tf, .int y.br y.tb] 0,#[]⟩)
variable {o:aq}
noncomputable def dD(B:List ag):List WD->List ag
 |[]=>B|y::ys=>dD B ys++[aN y.a]
def Kz(W:af)(B:List ag)(n:Nat)(H:Int)(u:ab):List WD->Str->ab->Nat->aF
 |[],_,_,e=>vm 0 W B e n λa=>iR "int.__gt__" n H false (a 2) u λ_=> .nil|y::ys,T,t,e=>vm 0 W (dD B (y::ys)) e (n+(y::ys).length) λa=>iR "int.__gt__" ((n+(y::ys).length:Nat):Int) H true (a 2) u λc=>cP T "</" (T++"</") t (c 1) λd=>xi 0 W (dD B ys) (.ref y.a) e λ_=>cP (T++"</") y.tg (T++"</"++y.tg) (d 2) y.t λf=>cP (T++"</"++y.tg) ">" (T++"</"++y.tg++">") (f 2) (f 1) λg=>Kz W B n H u ys (T++"</"++y.tg++">") (g 2) (e+1)
noncomputable def ux:List WD->Str->Str
 |[],T=>T|y::ys,T=>ux ys (T++"</"++y.tg++">")
noncomputable def T6(f:Nat):Nat->Nat->List Nat
 |_,0=>[0,0,0,f,0,2,f,777,2]|y,n+1=>[0,0,0,f,0,2,f,777,2,f,2,f,1,1,1,1,2,y,y,y,0,y,0,y,0,2,2,f,f]++T6 f (y+1) n
noncomputable def aLq(U:UV)(H:Xs):List WD->ab
 |[]=>U.t|y::ys=>H (6*ys.length+5) 2
theorem aLr(w:aj)(k:Nat->ab)(L:af)(U:UV)(B:List ag)(n e:Nat)(sz tk:Nat)(H:Xs)(m:Nat)(J:m=10\/m=21)(ys:List WD)(Y:ys.length<=2):bA ((aI w 2 0 none 900).S [] H ⟨(U.W,aA (dD B ys) e)::(ys.map WD.o++[(L,U.aJ w k m)]),sz,tk,T6 (ys.length+2) 2 ys.length,Kz U.W B n U.r.dp U.r.t0 ys U.T U.t e⟩ (aV (cW.take 1) (dS L)) fin) (.ok .next,(U.W,aA B (e+ys.length))::(ys.map WD.o++[(L,{ U with T:=ux ys U.T,t:=aLq U H ys }.aJ w k m)]),H (6*ys.length+1) 0,H (6*ys.length+1) 1):=by
 rcases ys with _|⟨y,_|⟨z,_|⟨x,ys⟩⟩⟩
 ·rcases J with rfl|rfl<;>kernel_rfl
 ·rcases J with rfl|rfl<;>kernel_rfl
 ·rcases J with rfl|rfl<;>kernel_rfl
 ·exact absurd Y (FV.mpr (dF ..))
abbrev iO(id:String)(a b r:Int)(t u:ab)(next:aM):aF:=cK id [.int a t, .int b u] (λk=> .int r k) next
def T7(d:Bool):List Nat:=(dN 45 0x108441080200842208401004211042008021088210040108020f8421)++(match d with
 |true=>(dN 101 0xc600026318c0004c631800000c6318c6318108441080200842208401004211042008021088210040108020f84210042109c0701ce7114a5000e2f9ce739ce7)|false=>(dN 33 0x528000014a528000014a528000014a2f94a5294a5))
def T8(U:UV)(y:WD)(H:List ag)(e tb:Nat)(J Y:Int):aF:=iR "int.__gt__" U.r.dp 0 true U.r.t0 (tb+6) λx=>xY 4 U.W H (.ref y.a) e (x 1+1) λ_=>iO "int.__mul__" y.fu U.r.sh J y.tf U.r.t4 λ_=>iO "int.__mul__" y.br U.r.va Y y.tb U.r.t5 λ_=> .nil
def T9(U:UV)(tb:Nat):aF:=iR "int.__gt__" U.r.dp 0 false U.r.t0 (tb+6) λ_=> .nil
section
variable (w:aj)(k:Nat->ab)(L:af)(U:UV)(Bs:List ag)(y:WD)(e sz tk:Nat)(σ:Xs)(m2 m3:Int)
noncomputable def plK(k:Nat->ab)(tk:Nat):Nat->ab
 |10=>tk+3|11=>tk+4|12=>tk+5|i=>k i
end
theorem Ua:(∀(w:aj)k L(U:UV)Bs(y:WD)e sz tk σ(H:Int)(m3:Int),Ends [9,10,11] ((aI w 2 0 none 900).S [] σ ⟨[(U.W,aA (Bs++[aN y.a]) e),y.o,(L,U.aJ w k 21)],sz,tk,T7 true,T8 U y Bs e tk H m3⟩ (aV ((cW.drop 1).take 5) (dS L)) fin) (.ok .next,[(U.W,aA (Bs++[aN y.a]) e),y.o,(L,{ U with P:=(y.pl+U.r.tu).fmod 64,tP:=σ 1 1+6,F:=H.fdiv 4,tF:=σ 2 1+1,B:=m3.fdiv 4,tB:=σ 3 1+1 }.aJ w k 21)].map some,σ 3 0,σ 3 1+3))/\(∀(w:aj)k L(U:UV)sz tk σ,Ends [4] ((aI w 2 0 none 900).S [] σ ⟨[(L,U.aJ w k 10)],sz,tk,T7 false,T9 U tk⟩ (aV ((cW.drop 1).take 5) (dS L)) fin) (.ok .next,[(L,{ U with P:=(0+U.r.tu).fmod 64,tP:=σ 0 1+2,F:=(256*U.r.sh).fdiv 4,tF:=σ 0 1+6,B:=(256*U.r.va).fdiv 4,tB:=σ 0 1+10 }.aJ w (plK k tk) 13)].map some,σ 0 0,σ 0 1+12)):=by and_intros<;>intros<;>kernel_rfl
def aLs(r q:Bool):List Nat:=(dN 23 0x4211086210040104010041f08400)++((dN 13 0x2f88431080200820)++((bif r then [1,1,1]else [])++((dN 13 0x2f88431080200820)++((bif q then [1,1,1]else [])++(dN 15 0xc63088431080200820)))))
def mlX(t u v:ab)(r q:Bool)(H:Xs):Nat->Nat
 |0=>H 1 0+2|1=>H 1 1|_=>bif q then v else(bif r then u else t)
abbrev wA(a b c:Int)(t u v:ab):List Value:=nc ([.int a t, .int b u, .int c v])
abbrev KA(H:String)(a b c:Int)(t u v:ab)(r q:Bool):aF:=iR H b a r u t λ_=>iR H c (bif r then b else a) q v (bif r then u else t) λ_=> .nil
abbrev Ub(l:af)(vs:List ag)(e:Nat)(m:Int)(y:Nat->Nat):Out:=⟨.ok (.ret (.int m (y 2))),[(l,aA vs e)],[],y 0,y 1⟩
section
variable (w:aj)(l:af)(e:Nat)(a b c:Int)(t u v:ab)(r q:Bool)(sz tk:Nat)(σ:Xs)
abbrev Uc(f H:String):Rs (cw×WS):=(aI w 2 0 none 500).C [] σ ⟨[(l,aA (wA a b c t u v) e)],sz,tk,aLs r q,KA H a b c t u v r q⟩ (bC f [.ref l]) fin
def Ud:cw×List (Option (af×aq))×Nat×Nat:=bW (Ub l (wA a b c t u v) e (bif q then c else(bif r then b else a)) (mlX t u v r q σ))
theorem aLt:Ends [4] (Uc w l e a b c t u v r q sz tk σ "max" "int.__gt__") (Ud l e a b c t u v r q σ):=by induction r<;>induction q<;>kernel_rfl
theorem aLu:Ends [4] (Uc w l e a b c t u v r q sz tk σ "min" "int.__lt__") (Ud l e a b c t u v r q σ):=by induction r<;>induction q<;>kernel_rfl
end
theorem Ue(a b:Int):(bif decide (b>a)then b else a)=max a b:=by
 by_cases h:b>a;·rw[decide_eq_true h];exact(Xm (gh h)).symm
 ·rw[decide_eq_false h];exact(Xn (fG.mp h)).symm
theorem Uf(a b:Int):(bif decide (b< a)then b else a)=min a b:=by
 by_cases h:b< a;·rw[decide_eq_true h];exact(L6 (gh h)).symm
 ·rw[decide_eq_false h];exact(BF (fG.mp h)).symm
theorem aLv(a b c:Int):(bif decide (c>(bif decide (b>a)then b else a))then c else(bif decide (b>a)then b else a))=max (max a b) c:=(Ue _ c).trans (rR (Ue ..) rfl)
theorem aLw(a b c:Int):(bif decide (c<(bif decide (b< a)then b else a))then c else(bif decide (b< a)then b else a))=min (min a b) c:=(Uf _ c).trans (rR (Uf ..) rfl)
abbrev yD(f:String)(i:Nat)(l:af)(vs:List ag)(e:Nat)(m:Int)(next:aM):aF:= .cons (some 2) (bC f [.ref l]) [i] [(l,aA vs e)] (Ub l vs e m) next
section
variable (XK:aK w aa)(NL:aa.NoLimit){l:af}{v:ab}
include XK NL
theorem Ug(H:max (max a b) c=m)(k:bJ next True w A U fr aa):(yD "max" i l (wA a b c t u v) e m next).Ok True (av w) A U fr aa lv:=⟨rfl,ci.mpr ⟨bi,bN⟩,by refine rL (H ..) (rL (aLv ..) ?_);exact bS XK NL 500 _ [4] (λz z=>KA "int.__gt__" a ..) (by decide) _ (λz=>rfl) (λH H z z z=>qZ rfl λz z=>qZ rfl λz z=>True.intro) λsz tk H=>aLt ..,λx z z=>k x _⟩
theorem Uh(H:min (min a b) c=m)(k:bJ next True w A U fr aa):(yD "min" i l (wA a b c t u v) e m next).Ok True (av w) A U fr aa lv:=⟨rfl,ci.mpr ⟨bi,bN⟩,by refine rL (H ..) (rL (aLw ..) ?_);exact bS XK NL 500 _ [4] (λz z=>KA "int.__lt__" a ..) (by decide) _ (λz=>rfl) (λH H z z z=>HP rfl λz z=>HP rfl λz z=>True.intro) λsz tk H=>aLu ..,λx z z=>k x _⟩
end
abbrev Ui(a:Int)(t:ab)(next:aM):aF:=cK "int.__abs__" [.int a t] (λk=> .int (if a< 0 then -a else a) k) next
section
theorem EJ(h:a*b=m)(H:IntMulOk a b)(k:bJ next True w A U fr aa):(iO "int.__mul__" a b m t u next).Ok True (av w) A U fr aa lv:=by subst h;exact dY (λz=>eM PySem.F.slot_int_mul PySem.F.entry_int_mul (PySem.F.args_int_mul_2 _ _) (aXq a t b u H) (λs=>jJ ..) λQ s k=>k _ _) λe z=>k e lv
theorem aLx(k:bJ next True w A U fr aa):(Ui a t next).Ok True (av w) A U fr aa lv:=by
 by_cases h:a< 0;·refine dY (λz=>eM aVv aVw (aVx _) (aXr a t h) (λs=>jJ ..) λQ s k=>by rw[if_pos h]at k;exact k _ _) λe z=>k e lv
 ·refine dY (λz=>eM aVv aVw (aVx _) (aXs a t h) (λs=>jJ ..) λQ s k=>by rw[if_neg h]at k;exact k _ _) λe z=>k e lv
end
def EK(P c:Int):Int:=if 3*P - c< 0 then -(3*P - c)else 3*P - c
def yE(P c:Int):Int:=min (EK P c) (192 - EK P c)
def uy(P c:Int):Int:=max 0 (min 32 (64 - yE P c))
def lR(P F B c:Int):Int:=B*(32*(256 - F)+F*uy P c)
def EL(P F B:Int)(tF tB:ab)(c:Int)(t:ab)(next:aM):aF:=Ui (3*P - c) t λH=>vE "min" (EK P c) (192 - EK P c) (yE P c) (H 2) (H 1+2) λH=>vE "min" 32 (64 - yE P c) (min 32 (64 - yE P c)) (H 1+6) (H 1+8) λJ=>vE "max" 0 (min 32 (64 - yE P c)) (uy P c) (H 1+5) (J 2) λH=>iO "int.__mul__" F (uy P c) (F*uy P c) tF (H 2) λH=>iO "int.__mul__" B (32*(256 - F)+F*uy P c) (lR P F B c) tB (H 1) λH=>next H
abbrev UV.l(U:UV)(c:Int):Int:=lR U.P U.F U.B c
abbrev UV.ls(U:UV)(a b c:ab):List Value:=wA (U.l 0) (U.l 64) (U.l 128) a b c
noncomputable def UV.mx(U:UV):Int:=max (max (U.l 0) (U.l 64)) (U.l 128)
noncomputable def UV.mn(U:UV):Int:=min (min (U.l 0) (U.l 64)) (U.l 128)
def Uj(U:UV)(sz tk:Nat):aF:=EL U.P U.F U.B U.tF U.tB 0 (tk+7) λa=>EL U.P U.F U.B U.tF U.tB 64 (a 1+3) λb=>EL U.P U.F U.B U.tF U.tB 128 (b 1+3) λc=>yD "max" 4 sz (U.ls (a 2) (b 2) (c 2)) 3 U.mx λ_=>yD "min" 4 sz (U.ls (a 2) (b 2) (c 2)) 3 U.mn λ_=>yD "max" 4 sz (U.ls (a 2) (b 2) (c 2)) 3 U.mx λ_=>yD "min" 4 sz (U.ls (a 2) (b 2) (c 2)) 3 U.mn λ_=> .nil
def KB:List Nat:=(dN 65 0x318c03008001084001000000800000420c63190841000420004208000008001000210211042008020)
def Uk:List Nat:=[2,2,1,1,777,0,1,0,1]++(KB++(KB++(KB++(dN 42 0xc6318c6318001180011800318001180011800004211042008020))))
def liK(m:Nat)(k:Nat->ab)(tk:Nat)(H:Xs)(i:Nat):Tok:=nc (bif FF i m then k i else(match i with
 |13=>tk|14=>tk+4|15=>H 0 1|16=>H 19 1+1|17=>H 21 1+1|18=>H 21 1+3|19=>H 21 1+5|_=>H 21 1+7))
def UV.lit(U:UV)(sz tk:Nat)(H:Xs):UV:={ U with Lt:=sz,co:=128,Kx:=tk+3,wy:=yE U.P 128,Ky:=H 13 2,bo:=U.mx+U.mn,Bm:=H 19 1,ap:=U.mx - U.mn,Bn:=H 21 1,tg:="c",rM:=H 21 1+2,hu:=0,Bp:=H 21 1+4,pu:=0,Bq:=H 21 1+6 }
section
variable (w:aj)(k:Nat->ab)(L:af)(U:UV)(sz tk:Nat)(σ:Xs)(m:Nat)
abbrev liR:Rs (Except ag dk×WS):=(aI w 3 0 none 900).S [] σ ⟨[(L,U.aJ w k m)],sz,tk,Uk,Uj U sz tk⟩ (aV ((cW.drop 6).take 7) (dS L)) fin
theorem aLy(H:m=13\/m=21):Ends [4,5] (liR w k L U sz tk σ m) (.ok .next,[(sz,aA (U.ls (σ 5 2) (σ 11 2) (σ 17 2)) 3),(L,(U.lit sz tk σ).aJ w (liK m k tk σ) 21)].map some,σ 21 0,σ 21 1+8):=by rcases H with rfl|rfl<;>kernel_rfl
end
def gN(x:Nat):Str:=nc (⟨#[x,58,99]⟩)
def Ul(U:UV)(tk x:Nat)(m q:Int)(d:Bool):aF:=iR "int.__gt__" U.ap 0 d U.Bn tk λa=>match d with
 |true=>EH "rygcbm" ((3*U.P).fdiv 32) x (a 1) (a 1+4) λb=>cP ⟨#[x]⟩ ":c" (gN x) (b 2) (b 1) λc=>vE "min" U.bo (4194304 - U.bo) m U.Bm (c 1+5) λe=>iO "int.__floordiv__" (1024*U.ap) m q (c 1+3) (e 2) λf=>cP U.T "<" (U.T++"<") U.t (f 1+1) λg=>cP (U.T++"<") (gN x) (U.T++"<"++gN x) (g 2) (c 2) λ_=> .nil|false=>cP U.T "<" (U.T++"<") U.t (a 1) λb=>cP (U.T++"<") U.tg (U.T++"<"++U.tg) (b 2) U.rM λ_=> .nil
def aLz(d:Bool):List Nat:=match d with
 |true=>(dN 34 0x211044108442000210000008421084420000008be1)|false=>[1,777,2,1,2,1,2,1,1]
def UV.ct(U:UV)(x:Nat)(q:Int)(d:Bool)(H:Xs):UV:=match d with
 |true=>{ U with tg:=gN x,rM:=H 2 2,hu:=U.P,Bp:=U.tP,pu:=q,Bq:=H 4 2,T:=U.T++"<"++gN x,t:=H 6 2 }|false=>{ U with T:=U.T++"<"++U.tg,t:=H 2 2 }
def Um(d:Bool):Nat:=nc (match d with
 |true=>6|false=>2)
noncomputable def wB(T:Str)(x:Nat):Str:=T++" xmlns:"++⟨#[x]⟩++"=\"urn:"++⟨#[x]⟩++"\""
abbrev Un(i:Nat)(l:af)(vs:List ag)(e:Nat)(x:Str)(t:ab)(b:Bool)(next:aM):aF:= .cons (some 0) (b2 "list.__contains__" (.ref l) (.str x t)) [i] [(l,aA vs e)] (λy=>⟨.ok (.ret (.bool b)),[(l,aA vs e)],[],y 0,y 1⟩) next
def Uo(U:UV)(H:List WD)(tk x:Nat)(d b:Bool):aF:=iR "int.__gt__" U.ap 0 d U.Bn tk λa=>match d with
 |false=> .nil|true=>Un 3 (a 0+1) (H.map λy=>ag.str y.tg y.t) H.length U.tg U.rM b λH=>match b with
  |true=> .nil|false=>cP U.T " xmlns:" (U.T++" xmlns:") U.t (H 1) λH=>EH U.tg 0 x U.rM (H 1) λJ=>cP (U.T++" xmlns:") ⟨#[x]⟩ (U.T++" xmlns:"++⟨#[x]⟩) (H 2) (J 2) λH=>cP (U.T++" xmlns:"++⟨#[x]⟩) "=\"urn:" (U.T++" xmlns:"++⟨#[x]⟩++"=\"urn:") (H 2) (H 1) λH=>EH U.tg 0 x U.rM (H 1) λJ=>cP (U.T++" xmlns:"++⟨#[x]⟩++"=\"urn:") ⟨#[x]⟩ (U.T++" xmlns:"++⟨#[x]⟩++"=\"urn:"++⟨#[x]⟩) (H 2) (J 2) λH=>cP (U.T++" xmlns:"++⟨#[x]⟩++"=\"urn:"++⟨#[x]⟩) "\"" (wB U.T x) (H 2) (H 1) λ_=> .nil
def Up:Nat->Nat->List Nat
 |5,0=>(dN 15 0x8841846320c6018060)|_,0=>(dN 17 0x2210631846320c6018060)|y,n+1=>[0,3,0,3,0,3,3,4,3,3,1,1,1,y,y,y,0,y,0,y,0,2,0,2,2,2]++Up (y+1) n
def aL0(t:Bool)(n:Nat)(d b:Bool):List Nat:=[n+2,777,2]++(match d with
 |false=>[]|true=>[n+2,n+2,1,1,777,0,1,0,1,0]++((match t with
  |true=>[]|false=>[3,3,777,0,3,0,3])++(Up 5 n++(match b with
  |true=>[]|false=>[n+7,2,n+7,2,2,2,n+7,2,2,2,n+7,n+7]))))
def UV.dc(U:UV)(x:Nat)(d b:Bool)(H:Xs):UV:=match d,b with
 |true,false=>{ U with T:=wB U.T x,t:=H 8 2 }|_,_=>U
def Uq(d b:Bool):Nat:=nc (match d,b with
 |true,false=>8|true,true=>1|_,_=>0)
def dcK(d b:Bool):Nat:=nc (match d,b with
 |true,false=>1|_,_=>0)
def dcP(d:Bool):Nat:=nc (match d with
 |true=>5|_=>0)
section
variable (w:aj)(k:Nat->ab)(L:af)(U:UV)(e sz tk:Nat)(σ:Xs)(x:Nat)(m q:Int)(d b:Bool)(zs:List WD)
abbrev ctR:Rs (Except ag dk×WS):=(aI w 3 0 none 900).S [] σ ⟨[(L,U.aJ w k 21)],sz,tk,aLz d,Ul U tk x m q d⟩ (aV ((cW.drop 13).take 2) (dS L)) fin
theorem aL1:bA (ctR w k L U sz tk σ x m q d) (.ok .next,[(L,(U.ct x q d σ).aJ w k 21)],σ (Um d) 0,σ (Um d) 1+1):=by induction d<;>kernel_rfl
abbrev dcR:Rs (Except ag dk×WS):=(aI w 3 0 none 900).S [] σ ⟨(U.W,aA (zs.map λy=>aN y.a) e)::(zs.map WD.o++[(L,U.aJ w k 21)]),sz,tk,aL0 (w.params.followText "comprehension-iter-twice") zs.length d b,Uo U zs tk x d b⟩ (aV ((cW.drop 15).take 1) (dS L)) fin
theorem aL2(H:zs.length<=3):Ends (MH (dcP d) (zs.length+2)) (dcR w k L U e sz tk σ x d b zs) (.ok .next,((U.W,aA (zs.map λy=>aN y.a) e)::(zs.map WD.o++[(L,(U.dc x d b σ).aJ w k 21)])).map some,σ (Uq d b) 0,σ (Uq d b) 1+dcK d b):=by
 rcases zs with _|⟨J,_|⟨J,_|⟨J,_|⟨J,zs⟩⟩⟩⟩
 ·induction d<;>induction b<;>(revert w;refine byRow2 "comprehension-iter-twice" (λw=>?_) (λw=>?_)<;>kernel_rfl)
 ·induction d<;>induction b<;>(revert w;refine byRow2 "comprehension-iter-twice" (λw=>?_) (λw=>?_)<;>kernel_rfl)
 ·induction d<;>induction b<;>(revert w;refine byRow2 "comprehension-iter-twice" (λw=>?_) (λw=>?_)<;>kernel_rfl)
 ·cases d<;>cases b<;>(revert w;refine byRow2 "comprehension-iter-twice" (λw=>?_) (λw=>?_)<;>kernel_rfl)
 ·exact absurd H (FV.mpr (dF ..))
end
abbrev Ur(i:Nat)(P:af)(vs:List ag)(f:Str)(t:ab)(r:Str)(next:aM):aF:= .cons (some 0) (b2 "str.__mod__" (.str f t) (.ref P)) [i] [(P,⟨.type "tuple",none, .seq vs.toArray 0,#[]⟩)] (λy=>⟨.ok (.ret (.str r (y 2))),[(P,⟨.type "tuple",none, .seq vs.toArray 0,#[]⟩)],[],y 0,y 1⟩) next
def Us(b:Nat):List DE:=nc ([⟨"&",b+1, .str "&amp;" (b+2)⟩,⟨"<",b+3, .str "&lt;" (b+4)⟩,⟨"\"",b+5, .str "&quot;" (b+6)⟩,⟨"\t",b+7, .str "&#x9;" (b+8)⟩,⟨"\n",b+9, .str "&#xA;" (b+10)⟩,⟨"\r",b+11, .str "&#xD;" (b+12)⟩])
def Ut(b:Nat):List DE:=nc ([⟨"&",b+1, .str "&amp;" (b+2)⟩,⟨"<",b+3, .str "&lt;" (b+4)⟩,⟨">",b+5, .str "&gt;" (b+6)⟩,⟨"\r",b+7, .str "&#xD;" (b+8)⟩])
def Uu:List Nat:=(dN 76 0x2102108400f84210801f08421003e10842007c2108400f84210801f2104208c61004010846100401084610040108463)
def UV.an(U:UV)(a b c:ab):List Value:=nc ([.int (U.l 0) a, .int (U.l 64) b, .int (U.l 128) c, .int U.hu U.Bp, .int U.bo U.Bm])
def Uv(U:UV)(a b c:ab)(sz tk:Nat)(r:Str):aF:=Ur 0 sz (U.an a b c) " c=\"%d %d %d\" h=\"%d\" l=\"%d\"" tk r λx=>cP U.T r (U.T++r) U.t (x 2) λ_=> .nil
def aL3(b:Bool):List Nat:=(dN 37 0x31082108400f84210801f08421003e10842007c4210842)++(match b with
 |true=>[3,2,3,3]|false=>[])
def Uw(U:UV)(tk:Nat)(r:Str)(nm:List Nat)(b:Bool):aF:=cK "str.__mod__" [.str "\" s=\"%d\">" tk, .int U.pu U.Bq] (λk=> .str r k) λx=>cP U.T r (U.T++r) U.t (x 2) λy=>match b with
 |true=>cK "str.strip" [.str (aW U.r.nm) U.r.t1, .str " \t\n\r" (y 1+13)] (λk=> .str (aW nm) k) λ_=> .nil|false=> .nil
def UV.sd(U:UV)(r:Str)(nm:List Nat)(b:Bool)(H:Xs):UV:=nc (match b with
 |true=>{ U with T:=U.T++r,t:=H 1 2,r:={ U.r with nm:=nm,t1:=H 2 2 } }|false=>{ U with T:=U.T++r,t:=H 1 2 })
def Ux(b:Bool):Nat:=nc (match b with
 |true=>2|false=>1)
def sdS(b:Bool):Nat:=nc (match b with
 |true=>0|false=>1)
def sdK(b:Bool):Nat:=nc (match b with
 |true=>1|false=>13)
section
variable (w:aj)(k:Nat->ab)(L:af)(U:UV)(o:Option ag)(e sz tk:Nat)(σ:Xs)(r:Str)(nm:List Nat)(a b c:ab)(vs:List ag)
abbrev anR:Rs (Except ag dk×WS):=(aI w 3 0 none 900).S [] σ ⟨[(U.Lt,aA (U.ls a b c) 3),(L+1,b9 o),(L,U.aJ w k 21)],sz,tk,Uu,Uv U a b c sz tk r⟩ (aV ((cW.drop 16).take 2) (dS L)) fin
theorem aL4:Ends [0,3,4] (anR w k L U o sz tk σ r a b c) (.ok .next,[(σ 1 0,cD w (Us (σ 1 1)) 6),(L+1,b9 (some (.ref (σ 1 0)))),(L,{ U with T:=U.T++r,t:=σ 1 2 }.aJ w k 21)].map some,σ 1 0+1,σ 1 1+19):=by kernel_rfl
abbrev sdR(d:Bool):Rs (Except ag dk×WS):=(aI w 3 0 none 900).S [] σ ⟨[(L+1,b9 o),(L,{ U with b:=d }.aJ w k 21)],sz,tk,aL3 d,Uw U tk r nm d⟩ (aV ((cW.drop 19).take 3) (dS L)) fin
theorem aL5(d:Bool):Ends [0,1,2] (sdR w k L U o sz tk σ r nm d) (.ok .next,[(σ 1 0,cD w (Ut (σ 1 1)) 4),(L+1,b9 (some (.ref (σ 1 0)))),(L,{ (U.sd r nm d σ)with b:=d }.aJ w k 21)].map some,σ (Ux d) 0+sdS d,σ (Ux d) 1+sdK d):=by induction d<;>kernel_rfl
end
abbrev Uy(i:Nat)(w:aj)(D:af)(l:List DE)(ep:Nat)(k:Str)(u:ab)(v:ag)(next:aM):aF:= .cons (some 0) (bC "dict.get" [.ref D, .str k u, .str k u]) [i] [(D,cD w l ep)] (λx=>⟨.ok (.ret v),[(D,cD w l ep)],[],x 0,x 1⟩) next
def EM(w:aj)(D:af)(l:List DE)(ep:Nat)(f:Nat->ab->Str×ab)(next:List (Str×ab)->aF):List Nat->ab->List (Str×ab)->aF
 |[],_,acc=>next acc|c::cs,t,acc=>Uy 3 w D l ep ⟨#[c]⟩ t (.str (f c t).1 (f c t).2) λx=>EM w D l ep f next cs (x 1) (acc++[f c t])
abbrev lS:Str:=nc (" n=\"")
def Uz(w:aj)(D:af)(l:List DE)(ep:Nat)(f:Nat->ab->Str×ab)(S:Str)(U:UV)(nm:List Nat)(tk:Nat)(a:Bool):aF:=match a with
 |true=>cP U.T lS (U.T++lS) U.t tk λx=>C5 (aW nm) U.r.t1 λy=>EM w D l ep f (λH=>Bl [3] (y 0) "" (x 1) (pI H) H.length S λz=>cP (U.T++lS) S (U.T++lS++S) (x 2) (z 2) λ_=> .nil) nm (y 1) []|false=>C5 (aW nm) U.r.t1 λy=>EM w D l ep f (λH=>Bl [3] (y 0) "" tk (pI H) H.length S λz=>cP U.T S (U.T++S) U.t (z 2) λ_=> .nil) nm (y 1) []
def UA:List Nat->List Nat->List Nat
 |e,[]=>e|_,_::cs=>(dN 25 0x21080200821210842842318c6018060)++UA (dN 17 0x84084318c2318c6018060) cs
def aL6(t a:Bool)(nm:List Nat):List Nat:=(match a with
 |true=>[3,2,3,777,2,1,0]|false=>[3,3,777,2,1,0])++((match t with
 |true=>[]|false=>[3,3,777,0,3,0,3])++UA (dN 15 0x210210c2318c6018060) nm)
abbrev UV.rD(U:UV)(nm:List Nat):UV:=nc ({ U with r:={ U.r with nm:=nm } })
def esJ(a:Bool):Nat:=nc (match a with
 |true=>18|false=>22)
def KC(a:Bool)(n:Nat):Nat:=nc (match a with
 |true=>n+3|false=>n+2)
def UV.es(U:UV)(S:Str)(a:Bool)(t:ab):UV:=match a with
 |true=>{ U with T:=U.T++lS++S,t:=t }|false=>{ U with T:=U.T++S,t:=t }
section
variable (w:aj)(k:Nat->ab)(L:af)(U:UV)(D:af)(l:List DE)(ep e sz tk:Nat)(f:Nat->ab->Str×ab)(S:Str)(a:Bool)(nm:List Nat)(σ:Xs)(vs:List ag)
abbrev esR:Rs (Except ag dk×WS):=(aI w 3 0 none 900).S [] σ ⟨[(D,cD w l ep),(L+1,b9 (some (.ref D))),(L,(U.rD nm).aJ w k 21)],sz,tk,aL6 (w.params.followText "comprehension-iter-twice") a nm,Uz w D l ep f S U nm tk a⟩ (aV ((cW.drop (esJ a)).take 1) (dS L)) fin
theorem UB(hn:nm.length<=2):Ends [5,6,7] (esR w k L U D l ep sz tk f S a nm σ) (.ok .next,[(D,cD w l ep),(L+1,b9 (some (.ref D))),(L,((U.rD nm).es S a (σ (KC a nm.length) 2)).aJ w k 21)].map some,σ (KC a nm.length) 0,σ (KC a nm.length) 1+1):=by
 rcases nm with _|⟨c,_|⟨d,_|⟨x,nm⟩⟩⟩
 ·induction a<;>(revert w;refine byRow2 "comprehension-iter-twice" (λw=>?_) (λw=>?_)<;>kernel_rfl)
 ·induction a<;>(revert w;refine byRow2 "comprehension-iter-twice" (λw=>?_) (λw=>?_)<;>kernel_rfl)
 ·induction a<;>(revert w;refine byRow2 "comprehension-iter-twice" (λw=>?_) (λw=>?_)<;>kernel_rfl)
 ·exact absurd hn (FV.mpr (dF ..))
abbrev UV.wd(U:UV)(A:af):WD:=nc (⟨A,U.tg,U.rM,U.P,U.tP,U.F,U.tF,U.B,U.tB⟩)
theorem aL7:bA ((aI w 3 0 none 900).S [] σ ⟨[(U.W,aA vs e),(L,U.aJ w k 21)],sz,tk,[2,1,1,1,1,2,2,2,2,2],ik 1 U.W vs e (.ref sz) λ_=> .nil⟩ (aV (cW.drop 23) (dS L)) fin) (.ok .next,[(U.wd sz).o,(U.W,aA (vs++[aN sz]) (e+1)),(L,U.aJ w k 21)],σ 0 0,σ 0 1):=by kernel_rfl
end
noncomputable abbrev bO(n:Int):Str:=gB (toString n)
def iG(a b c d e:Int):Str:=((((((((((" c=\"":Str)++bO a)++" ")++bO b)++" ")++bO c)++"\" h=\"")++bO d)++"\" l=\"")++bO e)++"\""
structure aL8(M:fU)(A:aD)(E:ag->am->Prop)(k:Nat)(f:Nat->List ag×w8×List Nat->ca (ForInStep (List ag×w8×List Nat))):Prop where
 lit:∀{x:Nat}{l:List Nat}{p:List ag}{w:w8}{T:Str}{N:Nat}{r:List Nat}{Q:List ag×w8×List Nat->am->Prop}{s:am}(a rest:List Nat),zj w T N->N<=1000->r.isEmpty=false->r.span (· !=37)=(a,rest)->a.isEmpty=false->(a.length==k)=false->
  (∀w',zj w' (T++⟨a.toArray⟩) (N+a.length)->aG M A (forIn l (p,w',rest) f) Q E s)->aG M A (forIn (x::l) (p,w,r) f) Q E s
 num:∀{x:Nat}{l:List Nat}{p:List ag}{w:w8}{T:Str}{N:Nat}{rest:List Nat}{n:Int}{t:ab}{Q:List ag×w8×List Nat->am->Prop}{s:am},zj w T N->N<=1000->0<=n->n< 10 ^ 10->
  (∀w' k,zj w' (T++bO n) (N+10)->aG M A (forIn l (p,w',rest) f) Q E { s with toks:=k })->aG M A (forIn (x::l) (.int n t::p,w,37::100::rest) f) Q E s
 fin:∀{x:Nat}{l:List Nat}{p:List ag}{w:w8}{T:Str}{N:Nat}{Q:List ag×w8×List Nat->am->Prop}{s:am},zj w T N->N<=1000->Q (p,w,[]) s->aG M A (forIn (x::l) (p,w,[]) f) Q E s
def cr5:List Nat:=nc ([34])
def UC:List Nat:=37::100::cr5
def UD:List Nat:=37::100::34::32::108::61::34::UC
def UE:List Nat:=37::100::34::32::104::61::34::UD
def UF:List Nat:=37::100::32::UE
def cr0:List Nat:=37::100::32::UF
theorem UG{Z:Str}{v:ag}{p:List ag}{bt:Bool}{Q:lj->am->Prop}(hI:∀{Q:Bool->am->Prop},Q bt s->aG (aR prog w) A (MK v (.type "tuple")) Q E s)(hS:∀{Q:Option Str->am->Prop},Q none s->aG (aR prog w) A (asStr? v) Q E s)(hF:∀{Q:Bool->am->Prop},(∀b,Q b s)->aG (aR prog w) A (fillsMappingSlot v) Q E s)(hP:∀{J:List ag->ca lj},aG (aR prog w) A (J p) Q E s->aG (aR prog w) A (if bt=true then(do match <-seqItems? v with|some xs=>let y <-pure xs.toList;J y|none=>let y <-Xz "internal:str.__mod__";J y)else do let y <-pure [v];J y) Q E s)(k:∀J f Q',zj J pF 0->(∀A' E',aL8 (aR prog w) A' E' Z.length f)->(∀Y T N s',zj Y T N->N<=1000->(∀t k,Q (.done (.ret (.str T t))) { s' with toks:=k })->Q' ([],Y,[]) s')->aG (aR prog w) A (forIn (MH 0 Z.length 1) (p,J,Z.cps.toList) f) Q' E s):
  aG (aR prog w) A (aXt (.str Z t) Z v) Q E s:=by
 refine au (hI ?_);refine au (hS ?_);refine au (hF λb=>?_);refine hP (au ?_);refine rR (KPc.range_list ..) (KPc.start ?_);refine λJ Z=>k J _ _ Z ?_ ?_
 ·intro A' E';constructor
  ·intro x l p w T N r Q s a rest g H he Z ha J k;refine Ys (Gt (MU (Yt g (aE H (by decide))) ?_));refine Gt (MU (rR he F6) ?_);refine rR Z (Gt (KPc.ite_yes (by refine rR ha ?_;rfl) ?_));exact aH (KPc.after_add g rfl (KPc.obj_none (if_neg (by exact rR J F6))) k)
  ·intro x l p w T N rest n t Q s g H h0 h1 k;refine Ys (Gt (MU (Yt g (aE H (by decide))) ?_));refine au (m:=Gm [.int n t] (aXu 100 _>>=_)) (fV (pz (Q:=λa J=>a=(aXv { type:=100 } (decide (n< 0)) (bO ((n.natAbs:Nat):Int)).cps.toList,none,true)/\∃k,J={ s with toks:=k }) ?_ (λa J h=>?_) (λz z h=>h)))
   ·refine au (jd rfl ?_);refine au (wpAny_mkInt ?_);have J:n.natAbs.log2< 1920:=by kpt_hd
    refine au (call_gives F.slot_int_repr (jJ ..) F.entry_int_repr (F.args_int_repr_1 _) (aVg _ _ J) ⟨int_text_fits J,?_⟩);refine au (jd rfl ?_);exact aH ⟨rfl,_,rfl⟩
   obtain⟨rfl,J,rfl⟩:=h;refine aH (KPc.after_int g rfl (by kpc_kind) rfl h0 h1 rfl (by kpc_none) ?_);exact λY J=>k Y _ J
  ·intro x l p w T N Q s g H k;refine Ys (Gt (MU (Yt g (aE H (by decide))) ?_));kpc_if;exact aH k
 ·intro Y T N s' g H h;kpc_if;exact KPc.finish_ok g (aE H (by decide)) rfl h
theorem aL9{b:af}{n1 n2 J Z H:Int}{t3 t4 t5:ab}(h1:0<=n1)(g1:n1< 10 ^ 10)(h2:0<=n2)(g2:n2< 10 ^ 10)(h3:0<=J)(g3:J< 10 ^ 10)(h4:0<=Z)(g4:Z< 10 ^ 10)(h5:0<=H)(g5:H< 10 ^ 10):Meets (Builtin.«str.__mod__» ⟨[.str ⟨#[32,99,61,34,37,100,32,37,100,32,37,100,34,32,104,61,34,37,100,34,32,108,61,34,37,100,34]⟩ t, .ref b],[]⟩) (λ_ R s=>Xd s.heap b #[.int n1 t1, .int n2 t2, .int J t3, .int Z t4, .int H t5]/\∀t' k,R (.ok (.ret (.str (iG n1 n2 J Z H) t'))) { s with toks:=k }):=by apply KPt.meets_tup;intro prog w A s Q E aMa hR;obtain⟨UH,Y,UI,H,UJ⟩:=aMa;refine UG (λh=>mT ⟨UH,Y,UI⟩ KPt.sub_tt h) (λh=>KPt.asStr_ref Y UJ h) (λh=>KPt.fills_ref ⟨UH,Y,UI⟩ h) (λh=>au (wU Y UJ (au (aH h)))) λH f H H J Z=>hO λY Y=>Y ((J _ _).lit [32,99,61,34] cr0 H (by decide) rfl rfl rfl rfl λY H=>?_);refine(J _ _).num H (by decide) h1 g1 λY k H=>(J _ _).lit [32] UF H (by decide) rfl rfl rfl rfl λY H=>(J _ _).num H (by decide) h2 g2 λY k H=>(J _ _).lit [32] UE H (by decide) rfl rfl rfl rfl λY H=>(J _ _).num H (by decide) h3 g3 λY k H=>(J _ _).lit [34,32,104,61,34] UD H (by decide) rfl rfl rfl rfl λY H=>(J _ _).num H (by decide) h4 g4 λY k H=>(J _ _).lit [34,32,108,61,34] UC H (by decide) rfl rfl rfl rfl λY H=>(J _ _).num H (by decide) h5 g5 λY k H=>(J _ _).lit [34] [] H (by decide) rfl rfl rfl rfl λY H=>(J _ _).fin H (by decide) (Z _ _ _ _ H (by decide) ?_);exact λt k=>hR t k
def j0(a:Int):Str:=(("\" s=\"":Str)++bO a)++"\">"
theorem aMb{n:Int}(h1:0<=n)(g1:n< 10 ^ 10)(H:n.natAbs.log2< 1920)(H:((n.natAbs:Nat):Int).natAbs.log2< 1920):Meets (Builtin.«str.__mod__» ⟨[.str ⟨#[34,32,115,61,34,37,100,34,62]⟩ t, .int n u],[]⟩) (λ_ R s=>∀t' k,R (.ok (.ret (.str (j0 n) t'))) { s with toks:=k }):=by apply KPc.meets_of;refine λprog w A s Q E hR=>rR (KPc.entry_is ..) (UG (λh=>mT (jJ ..) F.sub_int_tuple h) (λh=>jd rfl h) (λh=>jd (KPc.fills _ _) (h _)) (λh=>au (aH h)) λH f H H J Z=>?_);refine hO λY Y=>Y ((J _ _).lit [34,32,115,61,34] [37,100,34,62] H (by decide) rfl rfl rfl rfl λY H=>?_);refine(J _ _).num H (by decide) h1 g1 λY k H=>(J _ _).lit [34,62] [] H (by decide) rfl rfl rfl rfl λY H=>(J _ _).fin H (by decide) (Z _ _ _ _ H (by decide) ?_);exact λt k=>hR t k
section
theorem yF{J:Nat}{c:bB}{l:af}(Y:∀H:aD,H.handled=none->Told True (av w) H H.units none aa c [(l,o)] out)(k:∀x lv,(next x).Ok True (av w) A U fr aa lv):(aF.cons (some J) c [i] [(l,o)] out next).Ok True (av w) A U fr aa lv:=⟨rfl,ci.mpr ⟨bi,bN⟩,λH J z=>Y H J,λx z z=>k x _⟩
structure Sm(n:Int):Prop where
 lo:0<=n
 hi:n< 10 ^ 10
theorem Sm.log{n:Int}(h:Sm n):n.natAbs.log2< 1920:=shown (kU (by decide) h.lo) (Mk h.hi (by decide)) (fv _)
theorem aMc{P:af}{d e:Int}{ta tc td te:ab}(Z:Sm a)(J:Sm b)(hc:Sm c)(hd:Sm d)(Y:Sm e)(k:∀x lv,(next x).Ok True (av w) A U fr aa lv):(Ur i P [.int a ta, .int b tb, .int c tc, .int d td, .int e te] " c=\"%d %d %d\" h=\"%d\" l=\"%d\"" t (iG a b c d e) next).Ok True (av w) A U fr aa lv:=by refine yF (λA' z=>?_) k;refine λu s ak R hu H j hR=>dJ MV.plain aVy (MV.check _ _ _ _ _ _ _ _ (ib ..) (aVz _ _) ((aL9 Z.lo Z.hi J.lo J.hi hc.lo hc.hi hd.lo hd.hi Y.lo Y.hi) _ _ _ R s ⟨⟨_,(H.h.at_ _ az),rfl,0,rfl⟩,λJ tk=>?_⟩));exact hR (λi=>bif bY i 0 then s.heap.objs.size else bif bY i 1 then tk else J) _ rfl rfl rfl (λp J=>absurd J bi) ⟨H.h,H.os,H.gens,H.same⟩ λb o H J=>H
theorem aMd{n:Int}(hn:Sm n)(k:∀x lv,(next x).Ok True (av w) A U fr aa lv):(cK "str.__mod__" [.str "\" s=\"%d\">" t, .int n u] (λk=> .str (j0 n) k) next).Ok True (av w) A U fr aa lv:=by refine dY (λH=>?_) λx z=>k x _;refine λv s ak R H H j Y=>dJ MV.plain aVy (MV.check _ _ _ _ _ _ _ _ (ib ..) (aVz _ _) ((aMb hn.lo hn.hi hn.log hn.log) _ _ _ R s λJ tk=>?_));exact Y (λi=>bif bY i 0 then s.heap.objs.size else bif bY i 1 then tk else J) _ rfl rfl rfl (λp J=>absurd J bi) ⟨H.h,H.os,H.gens,H.same⟩ λb o H J=>H
theorem aMe{x y z:Str}(h:Yu y.cps.contains true true x=z)(H:MW y.cps.contains true true x=true->x=z)(J:z.length<=gz)(k:∀x lv,(next x).Ok True (av w) A U fr aa lv):(cK "str.strip" [.str x t, .str y u] (λk=> .str z k) next).Ok True (av w) A U fr aa lv:=dY (λj=>eM aU6 aU7 (PySem.F.args_str_strip_2 _ _) (gives_str_strip_chars x y t u) (λs=>ib ..) λQ s c=>by
  induction q:MW y.cps.contains true true x with
  |true=>exact rR (if_pos rfl) (rR (H q) (c t s.toks))|false=>refine rR (if_neg (by decide)) (rR h ?_);exact⟨J,c _ _⟩) λx j=>k x _
theorem aMf{q:Int}(H:¬(b==0)=true)(J:b.natAbs< 2 ^ 1000)(h:a.fdiv b=q)(k:∀x lv,(next x).Ok True (av w) A U fr aa lv):(iO "int.__floordiv__" a b q t u next).Ok True (av w) A U fr aa lv:=by
 subst h;refine dY (λz=>eM PySem.F.slot_int_floordiv PySem.F.entry_int_floordiv (PySem.F.args_int_floordiv_2 _ _) (aXw a t b u H ?_) (λs=>jJ ..) λQ s k=>k _ _) λe z=>k e _;have:b.natAbs.log2< 1000:=(aR6 (λh=>H (beq_iff_eq.mpr (Int.natAbs_eq_zero.mp h)))).mpr J;have J:decide ((if(b==0)=true then 0 else b.natAbs.log2 / 30+1) >300)=false:=by exact rR (if_neg H) (decide_eq_false (dw.mpr (fz [lL Y1 1000,lE (Ax.m 30 Y0) Y1] (lE (Y0+1) 300) [1,1] 30 rfl this (aS3 _ _))))
 show ¬(decide _ && _)=true;exact rR (J ..) (rR (Bool.false_and ..) F6)
theorem aMg{l:af}{J:List (Str×ab)}{x:Str}{b:Bool}(hb:J.any (λp=>decide (p.1=x))=b)(k:∀x lv,(next x).Ok True (av w) A U fr aa lv):(Un i l (J.map λp=>ag.str p.1 p.2) e x t b next).Ok True (av w) A U fr aa lv:=by
 refine yF (λA' z=>?_) k;intro u s ak R hu H j hR;have Z:=H.h.at_ _ az;let f:ag->Bool:=λv=>match v with
  | .str y _=>decide (y=x)|_=>false
 have g:=MeetsSeq.list_contains l (J.map λp=>ag.str p.1 p.2).toArray e (.str x t) f (λy hy=>by
  refine aO (bq.mp (Gk.mp hy)) λp j Y=>?_;subst Y;exact λprog w A E s Q h=>MM h);have hf:(J.map λp=>ag.str p.1 p.2).toArray.any f=b:=by
  simp only[<-hb,List.any_toArray,Yv];rfl
 refine dJ aV0.plain PySem.F.entry_list_contains (aV0.check _ _ _ _ _ _ _ _ ⟨_,Z,rfl⟩ (PySem.F.args_list_contains_2 _ _) (g _ _ _ R s ⟨Z,?_⟩));exact rR hf (hR (λi=>bif bY i 0 then s.heap.objs.size else s.toks) s rfl rfl rfl (λp J=>absurd J bi) ⟨H.h,H.os,H.gens,H.same⟩ λb o H J=>H)
theorem aMh{l:List DE}{c:Str}{v:ag}(Z:(l.map (·.k)).Nodup)(Y:(D==ic)=false)(hv:(g6 (fY l) c).getD (.str c u)=v)(k:∀x lv,(next x).Ok True (av w) A U fr aa lv):(Uy i w D l ep c u v next).Ok True (av w) A U fr aa lv:=by refine yF (λH j=>?_) k;intro z s ak R H H q hR;have J:=zb.mpr ⟨_,H.h.at_ _ az,vY w l ep Z⟩;refine dJ MP.plain aUt (MP.check _ _ _ _ _ _ _ _ J.typeIs (PySem.F.args_dict_get_3 ..) (meets_dict_get_default _ D (mh ..) Y _ _ R s ⟨_,J.mapOf,?_⟩));exact rR hv (hR (λi=>bif bY i 0 then s.heap.objs.size else s.toks+1) _ rfl rfl rfl (λp J=>absurd J bi) ⟨H.h,H.os,H.gens,H.same⟩ λb o H J=>H)
theorem KD{l:List (Str×ab)}{S:Str}(J:sA ((l.map (·.1)).toArray.foldl (· +·.length+("":Str).length) 0)=false)(hz:S.length<=gz)(Z:je "" (l.map (·.1))=S)(k:∀x lv,(next x).Ok True (av w) A U fr aa lv):(Bl [i] D "" t (pI l) e S next).Ok True (av w) A U fr aa lv:=by
 refine yF (λY z=>?_) k;refine λu s ak R Y H j hR=>dJ MS.plain Yi (MS.check _ _ _ _ _ _ _ _ (ib s "" t) (aU5 _ _) ((Yj "" t D l J) _ _ _ R s ⟨⟨_,H.h.at_ _ az,rfl,_,rfl⟩,?_⟩));have lG:∀J Y,R (.ok (.ret (.str S J))) { s with toks:=Y }:=λJ Y=>hR (λi=>bif bY i 0 then s.heap.objs.size else bif bY i 1 then Y else J) _ rfl rfl rfl (λp J=>absurd J bi) ⟨H.h,H.os,H.gens,H.same⟩ λb o H J=>H;induction l using pq with
 |nil=>subst Z;exact⟨hz,lG _ _⟩|cons p l=>
  induction l using pq with
  |nil=>
   have:p.1=S:=by refine rL Z ?_;rfl
   show R _ s;exact this▸lG p.2 s.toks
  |cons b r=>subst Z;exact⟨hz,lG _ _⟩
end
section
theorem ln{x y:Str}{a b:Nat}(J:x.length<=a)(H:y.length<=b):(x++y).length<=a+b:=rR (Yo ..) (FL J H)
theorem gO{x y z:Str}{a b:Nat}(h:x++y=z)(J:x.length<=a)(H:y.length<=b)(Y:yV (a+b) 16777216=true)(k:bJ next True w A U fr aa):(cP x y z t u next).Ok True (av w) A U fr aa lv:=nZ h (aE (FL J H) (dh Y)) k
end
theorem rN(x:Nat):(⟨#[x]⟩:Str).length<=1:=a8 _
section
variable {V:Nat}
theorem aMi{W:af}{B:List ag}{dp:Int}(hn:n<=100):∀(ys:List WD)(T:Str)(t:ab)(e m:Nat)(lv:List af),(∀y∈ys,y.tg.length<=3)->B.length=n->ys.length<=100->T.length<=m->m+6*ys.length<=100000->(∀j,j< ys.length->((n+j+1:Nat):Int) >dp)->¬(n:Int) >dp->(Kz W B n dp u ys T t e).Ok True (av w) A V none aa lv:=by
 have hl:∀ys:List WD,(dD B ys).length=B.length+ys.length:=λys=>by
  induction ys with
  |nil=>rfl|cons y ys ih=>show(dD B ys++[_]).length=_;simp only[bQ,ih,eH];rfl
 intro ys;induction ys with
 |nil=>exact λT t e m lv q J q q q q Z=>AX (hl []|>.trans (by refine rR J ?_;rfl)) (aE hn (by decide)) λa v=>qZ (decide_eq_false Z) λv v=>True.intro|cons y ys ih=>intro T t e m lv Y J H hT hm hj Z;have l1:=aE hT (aE (fF ..) hm);have l2:(T++"</").length<=100002:=ln (b:=2) l1 (by decide+kernel);exact AX ((hl _).trans (rR J rfl)) (aT [lE Y0 100,lE (Y1+1) 100] (lE (Y0+(Y1+1)) 1001) rfl hn H) λa v=>qZ (decide_eq_true (hj ys.length (wY _))) λc v=>gO rfl l1 (b:=2) (by decide+kernel) rfl λd v=>⟨rfl,ci.mpr ⟨bi,bN⟩,λA' v v=>xh _ _ _ _ (rR (hl ..) (rR (J ..) (aT [lE Y0 100,lE (Y1+1) 100] (lE (Y0+Y1) 1000) rfl hn H))),λv v v=>gO rfl l2 (Y y az) rfl λf v=>gO rfl (ln l2 (Y y az)) (b:=1) (by decide+kernel) rfl λg v=>ih _ _ _ _ _ (λz hz=>Y z (aB hz)) J (cR H) (ln (b:=1) (ln (ln hT (by decide+kernel)) (Y y az)) (by decide+kernel)) (aT [lE (Y0+(Ax.m 6 (Y1+1))) 100000] (lE (Y0+6+(Ax.m 6 Y1)) 100000) rfl hm) (λj h=>hj j (aUh h)) Z⟩
structure In(a b x:Int):Prop where
 lo:a<=x
 hi:x<=b
theorem In.mul{x y:Int}(h:In (-100000000) 100000000 x):IntMulOk x y:= .of_left (intBits_le_64 (aV1 (by decide) h.lo) (jE h.hi (by decide)))
variable {U:UV}
theorem aMj{y:WD}{Y:List ag}{tb:Nat}{H J:Int}(hd:U.r.dp>0)(hF:In (-100000000) 100000000 y.fu)(hB:In (-100000000) 100000000 y.br)(e2:y.fu*U.r.sh=H)(Z:y.br*U.r.va=J):(T8 U y Y e tb H J).Ok True (av w) A V none aa lv:=qZ (decide_eq_true hd) λz z=>yF (λH z=>AG _ _ _ _ _) λz z=>EJ e2 hF.mul λz z=>EJ Z hB.mul λz z=>True.intro
theorem aMk{tb:Nat}(hd:¬U.r.dp>0):(T9 U tb).Ok True (av w) A V none aa lv:=qZ (decide_eq_false hd) λz z=>True.intro
theorem KE(J:aK w aa)(H:aa.NoLimit){P F B:Int}{tF tB:ab}(Z:In (-100000000) 100000000 F)(Y:In (-100000000) 100000000 B)(k:bJ next True w A V none aa):(EL P F B tF tB c t next).Ok True (av w) A V none aa lv:=aLx λz z=>C9 J H rfl λz z=>C9 J H rfl λz z=>aDc J H rfl λz z=>EJ rfl Z.mul λz z=>EJ rfl Y.mul λz z=>k _ _
theorem aMl(J:aK w aa)(H:aa.NoLimit)(Z:In (-100000000) 100000000 U.F)(Y:In (-100000000) 100000000 U.B):(Uj U sz tk).Ok True (av w) A V none aa lv:=KE J H Z Y λz z=>KE J H Z Y λz z=>KE J H Z Y λz z=>Ug J H rfl λz z=>Uh J H rfl λz z=>Ug J H rfl λz z=>Uh J H rfl λz z=>True.intro
theorem aMm(x:Nat):(⟨#[x]⟩:Str)++":c"=gN x:=by rfl
structure KF(P:Int)(x:Nat):Prop where
 r:(decide ((3*P).fdiv 32< -(2 ^ 63:Int))||decide ((3*P).fdiv 32>=2 ^ 63))=false
 a:(pA ((3*P).fdiv 32) ("rygcbm":Str).length).bind (("rygcbm":Str).cps[·]?)=some x
structure aMn(U:UV)(x:Nat)(m q:Int):Prop where
 l:KF U.P x
 e:min U.bo (4194304 - U.bo)=m
 z:¬(m==0)=true
 b:m.natAbs< 2 ^ 1000
 q:(1024*U.ap).fdiv m=q
theorem aMo(Z:aK w aa)(Y:aa.NoLimit){x:Nat}{q:Int}{d:Bool}(hd:decide (U.ap>0)=d)(h:d=true->aMn U x m q)(H:U.T.length<=100000)(hg:U.tg.length<=3):(Ul U tk x m q d).Ok True (av w) A V none aa lv:=by
 refine qZ hd λz z=>?_;have J:(U.T++"<").length<=100001:=ln (b:=1) H (by decide+kernel);induction d with
 |true=>have c:=h rfl;exact A9 c.l.r c.l.a λz z=>gO (aMm x) (rN x) (b:=2) (by decide+kernel) rfl λz z=>C9 Z Y c.e λz z=>aMf c.z c.b c.q λz z=>gO rfl H (b:=1) (by decide+kernel) rfl λz z=>gO rfl J (b:=3) (a8 _) rfl λz z=>True.intro|false=>exact gO rfl H (b:=1) (by decide+kernel) rfl λz z=>gO rfl J hg rfl λz z=>True.intro
theorem aMp{H:List WD}{x:Nat}{d b:Bool}(hd:decide (U.ap>0)=d)(J:H.any (λy=>decide (y.tg=U.tg))=b)(Z:d=true->(pA 0 U.tg.length).bind (U.tg.cps[·]?)=some x)(Y:U.T.length<=100000):(Uo U H tk x d b).Ok True (av w) A V none aa lv:=by
 refine qZ hd λz z=>?_;induction d with
 |false=>exact True.intro|true=>
  have e:(H.map λy=>ag.str y.tg y.t)=(H.map λy=>(y.tg,y.t)).map λp=>ag.str p.1 p.2:=by refine rR BO ?_;rfl
  refine rR e (aMg (rR Yv J) λz z=>?_);induction b with
  |true=>exact True.intro|false=>
   have r0:(decide ((0:Int)< -(2 ^ 63:Int))||decide ((0:Int)>=2 ^ 63))=false:=by decide
   have H:(U.T++" xmlns:").length<=100007:=ln (b:=7) Y (by decide+kernel);have J:=ln H (rN x);have l3:(U.T++" xmlns:"++⟨#[x]⟩++"=\"urn:").length<=100014:=ln (b:=6) J (by decide+kernel);exact gO rfl Y (b:=7) (by decide+kernel) rfl λz z=>A9 r0 (Z rfl) λz z=>gO rfl H (rN x) rfl λz z=>gO rfl J (b:=6) (by decide+kernel) rfl λz z=>A9 r0 (Z rfl) λz z=>gO rfl l3 (rN x) rfl λz z=>gO rfl (ln l3 (rN x)) (b:=1) (by decide+kernel) rfl λz z=>True.intro
theorem aMq{a b c:ab}(h0:Sm (U.l 0))(h1:Sm (U.l 64))(H:Sm (U.l 128))(h3:Sm U.hu)(J:Sm U.bo)(Y:U.T.length<=100000)(Z:(iG (U.l 0) (U.l 64) (U.l 128) U.hu U.bo).length<=100000):(Uv U a b c sz tk (iG (U.l 0) (U.l 64) (U.l 128) U.hu U.bo)).Ok True (av w) A V none aa lv:=aMc h0 h1 H h3 J λz z=>gO rfl Y Z rfl λz z=>True.intro
structure KG(a b:List Nat):Prop where
 s:Yu (" \t\n\r":Str).cps.contains true true (aW a)=aW b
 e:MW (" \t\n\r":Str).cps.contains true true (aW a)=true->aW a=aW b
 l:b.length<=100
theorem aMr{d:Bool}(J:Sm U.pu)(H:d=true->KG U.r.nm nm)(Y:U.T.length<=100000)(Z:(j0 U.pu).length<=100000):(Uw U tk (j0 U.pu) nm d).Ok True (av w) A V none aa lv:=by
 refine aMd J λz z=>gO rfl Y Z rfl λz z=>?_;induction d with
 |true=>exact aMe (H rfl).s (H rfl).e (aE (H rfl).l (by decide)) λz z=>True.intro|false=>exact True.intro
end
def rO(a:Bool)(c:Nat):Str:=nc (cond (c==38) "&amp;" (cond (c==60) "&lt;" (match a with
 |true=>cond (c==34) "&quot;" (cond (c==9) "&#x9;" (cond (c==10) "&#xA;" (cond (c==13) "&#xD;" ⟨#[c]⟩)))|false=>cond (c==13) "&#xD;" (cond (c==62) "&gt;" ⟨#[c]⟩))))
def nF(a:Bool)(b:Nat):List DE:=match a with
 |true=>Us b|false=>Ut b
def wC(l:List DE)(c:Nat)(t:ab):Str×Tok:=match (g6 (fY l) ⟨#[c]⟩).getD (.str ⟨#[c]⟩ t)with
 | .str s u=>(s,u)|_=>("",0)
theorem key_ne{c d:Nat}{k:Str}(H:k=⟨#[d]⟩)(h:c≠d):¬k=⟨#[c]⟩:=λe=>by rw[H]at e;have:=congrArg (λs:Str=>s.cps.toList) e;rw[uO]at this;exact h this.1.symm
theorem qo{c d:Nat}{k:Str}{v:ag}{l:List (Str×ag)}(H:k=⟨#[d]⟩)(h:c≠d):g6 ((k,v)::l) ⟨#[c]⟩=g6 l ⟨#[c]⟩:=by have:=key_ne H h;simp[g6,this]
theorem UK:("&":Str)=⟨#[38]⟩:=by decide+kernel
theorem UL:("<":Str)=⟨#[60]⟩:=by decide+kernel
theorem k62:(">":Str)=⟨#[62]⟩:=by decide+kernel
theorem k34:("\"":Str)=⟨#[34]⟩:=by decide+kernel
theorem k9:("\t":Str)=⟨#[9]⟩:=by decide+kernel
theorem k10:("\n":Str)=⟨#[10]⟩:=by decide+kernel
theorem UM:("\r":Str)=⟨#[13]⟩:=by decide+kernel
theorem uz{b:Bool}{x y z:Str}(h:b=false)(k:y=z):cond b x y=z:=by subst h;exact k
theorem UN{a:Bool}{c:Nat}(Z:c≠38)(Y:c≠60)(H:a=true->c≠34/\c≠9/\c≠10)(J:c≠13)(h5:a=false->c≠62):rO a c=⟨#[c]⟩:=by
 refine uz (beq_false_of_ne Z) (uz (beq_false_of_ne Y) ?_);induction a with
 |true=>exact uz (beq_false_of_ne (H rfl).1) (uz (beq_false_of_ne (H rfl).2.1) (uz (beq_false_of_ne (H rfl).2.2) (uz (beq_false_of_ne J) rfl)))|false=>exact uz (beq_false_of_ne J) (uz (beq_false_of_ne (h5 rfl)) rfl)
theorem UO(a:Bool)(b c:Nat)(t:ab):∃u,(g6 (fY (nF a b)) ⟨#[c]⟩).getD (.str ⟨#[c]⟩ t)= .str (rO a c) u:=by
 induction a with
 |true=>
  show ∃u,(g6 [(("&":Str), .str "&amp;" _),("<", .str "&lt;" _),("\"", .str "&quot;" _),("\t", .str "&#x9;" _),("\n", .str "&#xA;" _),("\r", .str "&#xD;" _)] _).getD _= .str _ u;by_cases Y:c=38;·subst Y;exact⟨_,by rfl⟩
  refine rR (qo UK Y) ?_;by_cases H:c=60;·subst H;exact⟨_,by rfl⟩
  refine rR (qo UL H) ?_;by_cases Z:c=34;·subst Z;exact⟨_,by rfl⟩
  refine rR (qo k34 Z) ?_;by_cases J:c=9;·subst J;exact⟨_,by rfl⟩
  refine rR (qo k9 J) ?_;by_cases h5:c=10;·subst h5;exact⟨_,by rfl⟩
  refine rR (qo k10 h5) ?_;by_cases h6:c=13;·subst h6;exact⟨_,by rfl⟩
  exact rR (qo UM h6) (rR (UN Y H (λz=>⟨Z,J,h5⟩) h6 aV2) ⟨t,rfl⟩)
 |false=>
  show ∃u,(g6 [(("&":Str), .str "&amp;" _),("<", .str "&lt;" _),(">", .str "&gt;" _),("\r", .str "&#xD;" _)] _).getD _= .str _ u;by_cases Y:c=38;·subst Y;exact⟨_,by rfl⟩
  refine rR (qo UK Y) ?_;by_cases H:c=60;·subst H;exact⟨_,by rfl⟩
  refine rR (qo UL H) ?_;by_cases Z:c=62;·subst Z;exact⟨_,by rfl⟩
  refine rR (qo k62 Z) ?_;by_cases J:c=13;·subst J;exact⟨_,by rfl⟩
  exact rR (qo UM J) (rR (UN Y H aV2 J (λz=>Z)) ⟨t,rfl⟩)
theorem aMs(a:Bool)(b c:Nat)(t:ab):(g6 (fY (nF a b)) ⟨#[c]⟩).getD (.str ⟨#[c]⟩ t)= .str (wC (nF a b) c t).1 (wC (nF a b) c t).2:=by obtain⟨u,e⟩:=UO ..;unfold wC;exact rR e rfl
theorem aMt(a:Bool)(b c:Nat)(t:ab):(wC (nF a b) c t).1=rO a c:=by obtain⟨u,e⟩:=UO ..;unfold wC;exact rR e rfl
theorem aMu(a:Bool)(b:Nat):((nF a b).map (·.k)).Nodup:=by
 induction a with
 |true=>show [("&":Str),"<","\"","\t","\n","\r"].Nodup;decide+kernel|false=>show [("&":Str),"<",">","\r"].Nodup;decide+kernel
theorem uA{b:Bool}{x y:Str}(J:x.length<=n)(H:y.length<=n):(cond b x y).length<=n:=by
 induction b with
 |false=>exact H|true=>exact J
theorem UP(a:Bool)(c:Nat):(rO a c).length<=6:=by
 refine uA (by decide+kernel) (uA (by decide+kernel) ?_);induction a with
 |true=>exact uA (by decide+kernel) (uA (by decide+kernel) (uA (by decide+kernel) (uA (by decide+kernel) (by decide:1<=6))))|false=>exact uA (by decide+kernel) (uA (by decide+kernel) (by decide:1<=6))
section
variable {V:Nat}
theorem UQ{a:Bool}{b:Nat}(J:(D==ic)=false){next:List (Str×ab)->aF}:∀(nm:List Nat)(t:ab)(H:List (Str×ab))(lv:List af),(∀l lv,l.map (·.1)=H.map (·.1)++nm.map (rO a)->(next l).Ok True (av w) A V none aa lv)->(EM w D (nF a b) ep (wC (nF a b)) next nm t H).Ok True (av w) A V none aa lv:=by
 intro nm;induction nm with
 |nil=>exact λt H lv k=>k H lv (by simp only[wT,dQ])|cons c nm ih=>refine λt H lv k=>aMh (aMu a b) J (aMs ..) λx lv=>ih _ _ _ λl lv h=>k l lv ?_;simp only[h,bM,iJ,wT,iJ,aMt,bH];rfl
def gP(a:Bool)(nm:List Nat):Str:=je "" (nm.map (rO a))
theorem EO{a:Bool}(h:nm.length<=2):(gP a nm).length<=12:=by
 have e:("":Str).length=0:=by decide+kernel
 have:=Ef 6 (nm.map _) λs J=>by refine aO (bq.mp J) λc z H=>?_;subst H;exact UP a c
 rw[dA]at this;unfold gP;exact rR (Gr ..) (rR (e ..) (nA [_,_,_,_,_] [lE Y2 2,lE Y0 Y3,eQ Y1 (Ax.m 0 Y4),eQ Y3 (Ax.m 6 Y2)] (lE (Y0+Y1) 12) [6,1,1,1] 1 rfl h this (dU _ _) (dU _ _)))
theorem UR{b:Nat}{U:UV}(hD:(D==ic)=false)(hn:nm.length<=2)(ha:∀c∈nm,c< 128)(Y:U.T.length<=100000)(a:Bool):(Uz w D (nF a b) ep (wC (nF a b)) (gP a nm) U nm tk a).Ok True (av w) A V none aa lv:=by
 have bp:(aW nm).cps.all (· < 128)=true:=by rw[aVn,r6];exact λc hc=>decide_eq_true (ha c hc)
 have Z:=EO (a:=a) hn;have H:∀l:List (Str×ab),l.map (·.1)=([]:List (Str×ab)).map (·.1)++nm.map _->sA ((l.map (·.1)).toArray.foldl _ 0)=false/\je "" (l.map (·.1))=gP a nm:=λl h=>by rw[h];exact⟨(TX (by exact rR (dA ..) (fz [lE Y1 2,eQ Y0 (Ax.m 6 Y1)] (lE Y0 1000000) [6,1] 1 rfl hn (dU _ _))) λs J=>by refine aO (bq.mp (show s∈nm.map _ from J)) λc j eq1=>?_;subst eq1;exact UP a c).1,rfl⟩
 have J:(gP a nm).length<=sizeLine:=aE Z (by decide);induction a with
 |true=>exact gO rfl Y (b:=4) (by decide+kernel) rfl λz z=>HH bp λz z=>UQ hD nm _ _ _ λl z h=>KD (H l h).1 J (H l h).2 λz z=>gO rfl (ln (b:=4) Y (by decide+kernel)) Z rfl λz z=>True.intro|false=>exact HH bp λz z=>UQ hD nm _ _ _ λl z h=>KD (H l h).1 J (H l h).2 λz z=>gO rfl Y Z rfl λz z=>True.intro
end
def US(m:Nat)(k:Nat->ab)(tk i:Nat):Tok:=nc (bif FF i m then k i else tk+(i - 4))
def EP(m:Nat):Nat:=nc (match m with
 |4=>10|m=>m)
def UT:List Nat:=(dN 84 0x294a5294a5294a50842208401004211042008021088210040108441080200842208401004211042008021088210040108020f8421)
section
variable (w:aj)(k:Nat->ab)(L:af)(U:UV)(r:FR)(sz tk m:Nat)(σ:Xs)
abbrev aMv:Rs (Except ag Unit×WS):=(aI w 0 0 none 600).S [] σ ⟨[(r.a,r.o),(L,U.aJ w k m)],sz,tk,UT, .nil⟩ (pD (mK iF 2) (dS L) (.ref r.a)) fin
theorem aMw(H:m=4\/m=21):Ends [3,4] (aMv w k L U r sz tk m σ) (.ok (),[(r.a,r.o),(L,{ U with r:=r }.aJ w (US m k tk) (EP m))].map some,sz+3,tk+6):=by rcases H with rfl|rfl<;>kernel_rfl
theorem aMx(R I:af)(i:Nat)(a:af):bA ((aI w 0 0 none 300).S [] σ ⟨[(I,cV R i)],sz,tk,[1], .nil⟩ (su (mK iF 2) (.ref I) (.ref a)) fin) (.ok (),[(I,cV R i)],sz,tk):=by kernel_rfl
end
theorem aMy:cW=cW.take 1++((cW.drop 1).take 5++(((cW.drop 6).take 7++(cW.drop 13).take 2)++((cW.drop 15).take 1++(((cW.drop 16).take 2++((cW.drop 18).take 1++((cW.drop 19).take 3++(cW.drop 22).take 1)))++cW.drop 23)))):=by kernel_rfl
structure UU(U V:UV)(Lt:af)(T tg:Str)(hu pu:Int):Prop where
 R:V.R=U.R
 b:V.b=U.b
 W:V.W=U.W
 r:V.r=U.r
 P:V.P=U.P
 F:V.F=U.F
 B:V.B=U.B
 Lt:V.Lt=Lt
 T:V.T=T
 tg:V.tg=tg
 hu:V.hu=hu
 bo:V.bo=U.mx+U.mn
 ap:V.ap=U.mx - U.mn
 pu:V.pu=pu
def rP(d:Bool)(x:Nat):Str:=match d with
 |true=>gN x|false=>"c"
def lU(d:Bool)(n:Int):Int:=nc (match d with
 |true=>n|false=>0)
section
variable {k:Nat->ab}
theorem aMz(X1:aK w ar)(aU:ar.NoLimit)(hA:A.handled=none)(bz:A.depth+3<=bk){U:UV}{m x:Nat}{mm q:Int}{d:Bool}(hm:m=13\/m=21)(hF:In (-100000000) 100000000 U.F)(hB:In (-100000000) 100000000 U.B)(hd:decide (U.mx - U.mn>0)=d)(hl:d=true->KF U.P x/\min (U.mx+U.mn) (4194304 - (U.mx+U.mn))=mm/\¬(mm==0)=true/\mm.natAbs< 2 ^ 1000/\(1024*(U.mx - U.mn)).fdiv mm=q)(hT:U.T.length<=100000)(SR:ay True ar ak ((L,U.aJ w k m)::ro) s)(h:∀H a b c k' V s',UU U V H (U.T++"<"++rP d x) (rP d x) (lU d U.P) (lU d q)->ay True ar ak ((H,aA (U.ls a b c) 3)::(L,V.aJ w k' 21)::ro) s'->Q .next s'):aG (av w) A (aV ((cW.drop 6).take 7++(cW.drop 13).take 2) (dS L)) Q E s:=by
 refine da (fN SR X1 aU hA 3 900 Uk [4,5] _ (λaQ z X2 Y z=>aMl X2 Y hF hB) bz (by decide) _ _ _ _ (λJ=>aLy w k L U _ _ J m hm) λJ s1 Z z z z=>?_);generalize s.heap.objs.size=H at Z;generalize hV:U.lit H s.toks J=V at Z;have J:=hV.symm;refine dq (a:=[(L,V.aJ ..)]) (bj Z (jK ..)) X1 aU hA 3 900 _ _ (λaQ z X2 Y z=>aMo X2 Y (J▸hd) (λe=>?_) (J▸hT) (by refine rR J ?_;show("c":Str).length<=3;decide+kernel)) bz _ _ _ _ (λY=>aL1 w _ L V _ _ Y x mm q d) λY Y Z z z z=>?_;·exact qI (hl e) λa b c e f=>rR J ⟨a,b,c,e,f⟩
 refine h H _ _ _ _ _ Y ?_ (bj Z (jK ..));refine rR J ?_;induction d with
 |true=>exact⟨rfl,rfl,rfl,rfl,rfl,rfl,rfl,rfl,rfl,rfl,rfl,rfl,rfl,rfl⟩|false=>exact⟨rfl,rfl,rfl,rfl,rfl,rfl,rfl,rfl,rfl,rfl,rfl,rfl,rfl,rfl⟩
structure UW(U V:UV)(T:Str):Prop where
 R:V.R=U.R
 b:V.b=U.b
 W:V.W=U.W
 P:V.P=U.P
 F:V.F=U.F
 B:V.B=U.B
 T:V.T=T
 tg:V.tg=U.tg
noncomputable def rQ(b:Bool)(nm mN:List Nat):List Nat:=match b with
 |true=>mN|false=>nm
theorem aM0(X1:aK w ar)(aU:ar.NoLimit)(hA:A.handled=none)(bz:A.depth+3<=bk)(hs:∀D:af,ar.get? D=none->(D==ic)=false){U:UV}{o:Option ag}{a b c:ab}{mN:List Nat}(h0:Sm (U.l 0))(h1:Sm (U.l 64))(h2:Sm (U.l 128))(h3:Sm U.hu)(h4:Sm U.bo)(h5:Sm U.pu)(hn:U.r.nm.length<=2)(hc:∀c∈U.r.nm,c< 128)(rm:mN.length<=2)(A7:∀c∈mN,c< 128)(aZ:U.b=true->KG U.r.nm mN)(hT:U.T.length<=50000)(hr:(iG (U.l 0) (U.l 64) (U.l 128) U.hu U.bo).length<=1000)(Dl:(j0 U.pu).length<=1000)(SR:ay True ar ak ((U.Lt,aA (U.ls a b c) 3)::(L+1,b9 o)::(L,U.aJ w k 21)::ro) s)(h:∀o' V s',UW U V (U.T++iG (U.l 0) (U.l 64) (U.l 128) U.hu U.bo++lS++gP true U.r.nm++j0 U.pu++gP false (rQ U.b U.r.nm mN))->ay True ar ak ((L+1,b9 o')::(L,V.aJ w k 21)::ro) s'->Q .next s'):aG (av w) A (aV ((cW.drop 16).take 2++((cW.drop 18).take 1++((cW.drop 19).take 3++(cW.drop 22).take 1))) (dS L)) Q E s:=by
 have UX:=ln hT hr;have UY:(U.T++iG _ _ _ U.hu U.bo++lS++gP true U.r.nm).length<=51016:=ln (ln (b:=4) UX (by decide+kernel)) (EO hn);refine da (fN SR X1 aU hA 3 900 Uu [0,3,4] _ (λaQ z X2 N2 z=>aMq h0 h1 h2 h3 h4 (aE hT (by decide)) (aE hr (by decide))) bz (by decide) _ _ _ _ (λH=>aL4 ..) λH s1 S1 z z z=>?_);generalize H 1 0=D at S1;generalize H 1 1=tb at S1;generalize H 1 2=t1 at S1;obtain⟨V1,KH⟩:∃V1:UV,V1={ U with T:=U.T++iG (U.l 0) (U.l 64) (U.l 128) U.hu U.bo,t:=t1 }:=⟨_,rfl⟩
 have S2:ay True ar ak ((D,cD w (nF true tb) 6)::(L+1,b9 (some (.ref D)))::(L,(V1.rD U.r.nm).aJ w k 21)::ro) s1:=by subst KH;exact S1
 have lV1:V1.T.length<=100000:=by subst KH;exact aE UX (by decide)
 refine da (fN S2 X1 aU hA 3 900 _ [5,6,7] _ (λaQ z X2 N2 z=>UR (hs D (S1.h.off _ az)) hn hc lV1 true) bz (by decide) _ _ _ _ (λH=>UB w k L V1 D _ 6 _ _ _ _ true U.r.nm H hn) λhH s2 S3 z z z=>?_);clear S2;generalize hH _ 2=t2 at S3;obtain⟨V2,KI⟩:∃V2:UV,V2={ U with T:=U.T++iG (U.l 0) (U.l 64) (U.l 128) U.hu U.bo++lS++gP true U.r.nm,t:=t2 }:=⟨_,rfl⟩
 have Y:ay True ar ak ((D,cD w (nF true tb) 6)::(L+1,b9 (some (.ref D)))::(L,UV.aJ { V2 with b:=U.b } w k 21)::ro) s2:=by subst KH KI;exact S3
 have S5:ay True ar ak _ s2:=⟨⟨λq Z=>Y.h.at_ q (aB Z),(ci.mp Y.h.nd).2,Y.h.keep,λq Z=>Y.h.off q (aB Z)⟩,Y.os,Y.gens,Y.same⟩
 clear Y;refine da (fN S5 X1 aU hA 3 900 _ [0,1,2] _ (λaQ z X2 N2 z=>by subst KI;exact aMr h5 aZ (aE UY (by decide)) (aE Dl (by decide))) bz (by decide) _ _ _ _ (λH=>aL5 w k L V2 _ _ _ H (j0 U.pu) mN U.b) λKJ Y S6 z z z=>?_);clear S5;generalize KJ 1 0=D' at S6;have KM:(rQ U.b U.r.nm mN).length<=2/\∀c∈rQ U.b U.r.nm mN,c< 128:=by
  unfold rQ;split;·exact⟨rm,A7⟩
  ·exact⟨hn,hc⟩
 obtain⟨V3,J,e3⟩:∃V3:UV,UW U V3 (U.T++iG (U.l 0) (U.l 64) (U.l 128) U.hu U.bo++lS++gP true U.r.nm++j0 U.pu)/\{ (V2.sd (j0 U.pu) mN U.b KJ)with b:=U.b }=V3.rD (rQ U.b U.r.nm mN):=by
  subst KI;refine⟨{ (UV.sd { U with T:=U.T++iG (U.l 0) (U.l 64) (U.l 128) U.hu U.bo++lS++gP true U.r.nm,t:=t2 } (j0 U.pu) mN U.b KJ)with b:=U.b },?_,?_⟩;·induction hb:U.b<;>exact⟨rfl,hb.symm,rfl,rfl,rfl,rfl,rfl,rfl⟩
  ·cases U.b<;>rfl
 replace S6:=e3▸S6;refine fN S6 X1 aU hA 3 900 _ [5,6,7] _ (λaQ z X2 N2 z=>UR (hs D' (S6.h.off _ az)) KM.1 KM.2 (rR J.T (aE (ln UY Dl) (by decide))) false) bz (by decide) _ _ _ _ (λH=>UB w k L V3 D' _ 4 _ _ _ _ false _ H KM.1) λH Y H z z z=>h _ _ Y ?_ (⟨⟨λq Z=>H.h.at_ q (aB Z),(ci.mp H.h.nd).2,H.h.keep,λq Z=>H.h.off q (aB Z)⟩,H.os,H.gens,H.same⟩);exact⟨J.R,J.b,J.W,J.P,J.F,J.B,by show V3.T++_=_;exact rR J.T rfl,J.tg⟩
end
structure PW where
 tg:Str
 pl:Int
 fu:Int
 br:Int
variable {ys:List PW}
noncomputable def WD.p(y:WD):PW:=⟨y.tg,y.pl,y.fu,y.br⟩
noncomputable def nG:List PW->Str->Str
 |[],T=>T|y::ys,T=>nG ys (T++"</"++y.tg++">")
theorem KN:∀(ys:List WD)(T:Str),ux ys T=nG (ys.map WD.p) T
 |[],_=>rfl|y::ys,T=>KN ys _
def EQ(P F B:Int):Int:=max (max (lR P F B 0) (lR P F B 64)) (lR P F B 128)
def ER(P F B:Int):Int:=min (min (lR P F B 0) (lR P F B 64)) (lR P F B 128)
def wD(ys:List PW):Int×Int×Int:=nc (match ys with
 |[]=>(0,256,256)|y::_=>(y.pl,y.fu,y.br))
def fq(ys:List PW)(r:FR):Int:=((wD ys).1+r.tu).fmod 64
def j5(ys:List PW)(r:FR):Int:=((wD ys).2.1*r.sh).fdiv 4
def j6(ys:List PW)(r:FR):Int:=((wD ys).2.2*r.va).fdiv 4
def gQ(ys:List PW)(r:FR)(c:Int):Int:=lR (fq ys r) (j5 ys r) (j6 ys r) c
def kN(ys:List PW)(r:FR):Int:=EQ (fq ys r) (j5 ys r) (j6 ys r)
def kO(ys:List PW)(r:FR):Int:=ER (fq ys r) (j5 ys r) (j6 ys r)
def gf(ys:List PW)(r:FR):Bool:=decide (kN ys r - kO ys r>0)
def wE(ys:List PW)(r:FR):Int:=min (kN ys r+kO ys r) (4194304 - (kN ys r+kO ys r))
def rS(ys:List PW)(r:FR):Int:=(1024*(kN ys r - kO ys r)).fdiv (wE ys r)
def aM1(z:Int):Nat:=nc (cond (z==0) 114 (cond (z==1) 121 (cond (z==2) 103 (cond (z==3) 99 (cond (z==4) 98 109)))))
def bT(P:Int):Nat:=aM1 ((3*P).fdiv 32)
def fR(ys:List PW)(r:FR):Str:=rP (gf ys r) (bT (fq ys r))
def yG(ys:List PW)(r:FR):Bool:=ys.any λy=>decide (y.tg=fR ys r)
def UZ(c:Nat):Bool:=nc (c==32||c==9||c==10||c==13)
def lV(nm:List Nat):List Nat:=((nm.dropWhile UZ).reverse.dropWhile UZ).reverse
def rT(ys:List PW)(r:FR)(T:Str):Str:=match gf ys r,yG ys r with
 |true,false=>wB T (bT (fq ys r))|_,_=>T
def uB(b:Bool)(r:FR)(T:Str)(ys:List PW):Str:=rT ys r (T++"<"++fR ys r)++iG (gQ ys r 0) (gQ ys r 64) (gQ ys r 128) (lU (gf ys r) (fq ys r)) (kN ys r+kO ys r)++lS++gP true r.nm++j0 (lU (gf ys r) (rS ys r))++gP false (rQ b r.nm (lV r.nm))
noncomputable def kP(ys:List PW)(r:FR):Nat:=ys.length - r.dp.toNat
def gv(b:Bool)(S:Str×List PW)(r:FR):Str×List PW:=(uB b r (nG (S.2.take (kP S.2 r)) S.1) (S.2.drop (kP S.2 r)),⟨fR (S.2.drop (kP S.2 r)) r,fq (S.2.drop (kP S.2 r)) r,j5 (S.2.drop (kP S.2 r)) r,j6 (S.2.drop (kP S.2 r)) r⟩::S.2.drop (kP S.2 r))
structure Br(ys:List PW)(r:FR):Prop where
 F:In (-100000000) 100000000 (j5 ys r)
 B:In (-100000000) 100000000 (j6 ys r)
 l0:Sm (gQ ys r 0)
 l1:Sm (gQ ys r 64)
 l2:Sm (gQ ys r 128)
 bo:Sm (kN ys r+kO ys r)
 P:Sm (fq ys r)
 q:gf ys r=true->Sm (rS ys r)/\¬(wE ys r==0)=true/\(wE ys r).natAbs< 2 ^ 1000/\KF (fq ys r) (bT (fq ys r))
structure ES(b:Bool)(nm:List Nat):Prop where
 l:nm.length<=2
 a:∀c∈nm,c< 128
 l':(lV nm).length<=2
 a':∀c∈lV nm,c< 128
 s:b=true->KG nm (lV nm)
structure yH(b:Bool)(S:Str×List PW)(r:FR):Prop where
 T:S.1.length<=30000
 W:∀y∈S.2,y.tg.length<=3/\In (-100000000) 100000000 y.fu/\In (-100000000) 100000000 y.br
 l:S.2.length<=3
 d0:S.2=[]->r.dp=0
 d1:S.2≠[]->1<=r.dp/\r.dp<=S.2.length/\S.2.length<=r.dp+2
 n:Br (S.2.drop (kP S.2 r)) r
 nm:ES b r.nm
theorem aM2(ys H:List WD):dD [] (ys++H)=dD (dD [] H) ys:=by
 induction ys with
 |nil=>rfl|cons y ys ih=>show dD [] _++_=dD _ ys++_;exact rR ih rfl
theorem ET(ys:List WD):dD [] ys=ys.reverse.map λy=>aN y.a:=by
 induction ys with
 |nil=>rfl|cons y ys ih=>simp only[Xl,bM,<-ih];rfl
section
theorem j7(a b c:α)(Z:List α):(a::b::c::Z).Perm (c::b::a::Z):=(jK ..).trans (((jK ..).cons b).trans (jK ..))
theorem EU(W C F:α)(Y Z:List α):(W::C::F::(Y++Z)).Perm ((W::(Y++[F]))++(C::Z)):=by refine zg W ?_;show(C::F::_).Perm ((Y++[F])++_);simp only[bH];refine(jK ..).trans (Yw ?_ (lh).symm);exact(lh).symm.cons F
theorem aM3(W C F:α)(Y Z:List α):((W::(Y++[F]))++(C::Z)).Perm ((W::C::F::Z)++Y):=(EU ..).symm.trans (((jL.cons F).cons C).cons W)
theorem U1(T F C W:α)(Y Z:List α):(T::F::C::W::(Y++Z)).Perm (W::C::F::(Y++(T::Z))):=((j7 ..).cons T).trans ((lh (l₁:=W::C::F::Y)).symm)
end
structure Kp(U V:UV):Prop where
 R:V.R=U.R
 b:V.b=U.b
 W:V.W=U.W
 r:V.r=U.r
theorem Kp.trans{U V X:UV}(a:Kp U V)(b:Kp V X):Kp U X:=⟨b.R.trans a.R,b.b.trans a.b,b.W.trans a.W,b.r.trans a.r⟩
structure Sa(r:FR)(ys:List PW)(T:Str)(V:UV):Prop where
 P:V.P=fq ys r
 F:V.F=j5 ys r
 B:V.B=j6 ys r
 T:V.T=T
structure Sb(r:FR)(ys:List PW)(V:UV):Prop where
 P:V.P=fq ys r
 F:V.F=j5 ys r
 B:V.B=j6 ys r
 tg:V.tg=fR ys r
 hu:V.hu=lU (gf ys r) (fq ys r)
 bo:V.bo=kN ys r+kO ys r
 ap:V.ap=kN ys r - kO ys r
 pu:V.pu=lU (gf ys r) (rS ys r)
theorem Sa.l{r:FR}{V:UV}(S:Sa r ys T V)(c:Int):V.l c=gQ ys r c:=by show lR V.P V.F V.B c=_;refine rR S.P (rR S.F (rR S.B ?_));rfl
theorem Sb.l{r:FR}{V:UV}(S:Sb r ys V)(c:Int):V.l c=gQ ys r c:=Sa.l ⟨S.P,S.F,S.B,rfl⟩ c
theorem Sa.mx{r:FR}{V:UV}(S:Sa r ys T V):V.mx=kN ys r:=by show EQ V.P V.F V.B=_;refine rR S.P (rR S.F (rR S.B ?_));rfl
theorem Sa.mn{r:FR}{V:UV}(S:Sa r ys T V):V.mn=kO ys r:=by show ER V.P V.F V.B=_;refine rR S.P (rR S.F (rR S.B ?_));rfl
theorem Sa.mid{r:FR}{U V:UV}(S:Sa r ys T U){H:af}(M:UU U V H (U.T++"<"++fR ys r) (fR ys r) (lU (gf ys r) U.P) (lU (gf ys r) (rS ys r))):Sb r ys V/\V.T=T++"<"++fR ys r:=⟨⟨M.P.trans S.P,M.F.trans S.F,M.B.trans S.B,M.tg,S.P▸M.hu,S.mx▸S.mn▸M.bo,S.mx▸S.mn▸M.ap,M.pu⟩,S.T▸M.T⟩
def KO(ys:List PW)(r:FR)(a b c:ab):List Value:=wA (gQ ys r 0) (gQ ys r 64) (gQ ys r 128) a b c
theorem Sa.ls{r:FR}{V:UV}(S:Sa r ys T V)(a b c:ab):V.ls a b c=KO ys r a b c:=by show wA _ _ _ a b c=_;rw[S.l,S.l,S.l];rfl
theorem yI{n:Int}(h:Sm n):(bO n).length<=11:=aE (Yx h.lo (by decide) h.hi) (by decide)
theorem U2{n:Int}(h:Sm n):(j0 n).length<=1000:=aE (ln (ln (a:=5) (by decide+kernel) (yI h)) (b:=2) (by decide+kernel)) (by decide)
theorem U3{d e:Int}(J:Sm a)(Y:Sm b)(Z:Sm c)(hd:Sm d)(H:Sm e):(iG a b c d e).length<=1000:=aE (ln (ln (ln (b:=5) (ln (ln (b:=5) (ln (ln (b:=1) (ln (ln (b:=1) (ln (a:=4) (by decide+kernel) (yI J)) (by decide+kernel)) (yI Y)) (by decide+kernel)) (yI Z)) (by decide+kernel)) (yI hd)) (by decide+kernel)) (yI H)) (b:=1) (by decide+kernel)) (by decide)
theorem sm0:Sm 0:=⟨fv _,by decide⟩
theorem EV{d:Bool}{n:Int}(h:d=true->Sm n):Sm (lU d n):=by
 induction d with
 |true=>exact h rfl|false=>exact sm0
theorem aM4{d:Bool}{x:Nat}(h:d=true):(pA 0 (rP d x).length).bind ((rP d x).cps[·]?)=some x:=by subst h;rfl
theorem KP{d:Bool}{x:Nat}:(rP d x).length<=3:=by
 induction d with
 |true=>exact a8 3|false=>show("c":Str).length<=3;decide+kernel
theorem EW:∀(ys:List PW)(T:Str)(m:Nat),T.length<=m->(∀y∈ys,y.tg.length<=3)->(nG ys T).length<=m+6*ys.length
 |[],_,_,h,_=>h|y::ys,T,m,h,hg=>aE (EW ys _ (m+2+3+1) (ln (ln (ln h (by decide+kernel)) (hg y az)) (by decide+kernel)) λz H=>hg z (aB H)) (aT [] (lE (Y0+2+3+1+(Ax.m 6 Y1)) (Y0+(Ax.m 6 (Y1+1)))) rfl)
theorem aM5{r:FR}(h:T.length<=30016):(rT ys r T).length<=30100:=by
 have H:T.length<=30100:=aE h (by decide);unfold rT;induction gf ys r with
 |false=>exact H|true=>
  induction yG ys r with
  |false=>exact aE (ln (ln (ln (ln (ln (b:=7) h (by decide+kernel)) (rN _)) (b:=6) (by decide+kernel)) (rN _)) (b:=1) (by decide+kernel)) (by decide)|true=>exact H
section
variable {k:Nat->ab}{Z:List (af×aq)}
theorem aM6(X1:aK w ar)(aU:ar.NoLimit)(hA:A.handled=none)(bz:A.depth+3<=bk){U:UV}{r:FR}{W:af}(er:U.r=r)(eT:U.T=T)(eW:U.W=W){m:Nat}{c:af×aq}(ys:List WD)(hm:m=10/\ys=[]/\¬r.dp>0\/m=21/\ys≠[]/\r.dp>0)(hF:∀y∈ys,In (-100000000) 100000000 y.fu/\In (-100000000) 100000000 y.br)(SR:ay True ar ak ((W,aA (dD [] ys) e)::c::(L,U.aJ w k m)::(ys.map WD.o++Z)) s)(h:∀(k':Nat->ab)(Y:Nat)(V:UV)(s':am),(Y=13\/Y=21)->Kp U V->Sa r (ys.map WD.p) T V->ay True ar ak ((W,aA (dD [] ys) e)::c::(L,V.aJ w k' Y)::(ys.map WD.o++Z)) s'->Q .next s'):aG (av w) A (aV ((cW.drop 1).take 5) (dS L)) Q E s:=by
 subst er eT eW;rcases hm with ⟨rfl,rfl,H⟩|⟨rfl,hy,H⟩
 ·refine fN (bj SR (j7 ..)) X1 aU hA 2 900 _ [4] _ (λaQ z X2 N2 z=>aMk H) (cR bz) (by decide) _ _ _ _ (λσ=>Ua.2 ..) λσ J S1 z z z=>h _ 13 _ J (.inl rfl) ?_ ?_ (bj S1 (j7 ..));·exact⟨rfl,rfl,rfl,rfl⟩
  ·exact⟨rfl,rfl,rfl,rfl⟩
 ·induction ys with
  |nil=>exact absurd rfl hy|cons y ys=>
   obtain⟨f1,f2⟩:=hF y az;refine fN (bj SR ((j7 ..).cons _)) X1 aU hA 2 900 _ [9,10,11] _ (λaQ z X2 N2 z=>aMj H f1 f2 rfl rfl) (cR bz) (by decide) _ _ _ _ (λσ=>Ua.1 ..) λσ J S1 z z z=>h _ 21 _ J (.inr rfl) ?_ ?_ (bj S1 ((j7 ..).cons _));·exact⟨rfl,rfl,rfl,rfl⟩
   ·exact⟨rfl,rfl,rfl,rfl⟩
theorem aM7(X1:aK w ar)(aU:ar.NoLimit)(hA:A.handled=none)(bz:A.depth+3<=bk){U:UV}{m:Nat}{c:af×aq}(ys H:List WD)(hm:m=10\/m=21)(J:ys.length<=2)(hz:H.length<=3)(hg:∀y∈ys,y.tg.length<=3)(hd:H=[]/\ys=[]/\U.r.dp=0\/(H.length:Int)=U.r.dp)(hT:U.T.length<=30000)(Y:ay True ar ak ((U.W,aA (dD [] (ys++H)) e)::c::(L,U.aJ w k m)::((ys++H).map WD.o++Z)) s)(h:∀e' V s',Kp U V->V.T=ux ys U.T->ay True ar ak ((U.W,aA (dD [] H) e')::c::(L,V.aJ w k m)::(H.map WD.o++Z)) s'->Q .next s'):aG (av w) A (aV (cW.take 1) (dS L)) Q E s:=by
 have hB:(dD [] H).length=H.length:=by simp only[ET,dA,uU]
 have oo:(H.length:Int)=U.r.dp:=by
  rcases hd with ⟨rfl,v,h⟩|h
  ·exact h.symm
  ·exact h
 rw[aM2,bM,bH]at Y;refine dq (bj Y (EU ..)) X1 aU hA 2 900 _ _ (λaQ z Y Y z=>aMi (bu [lE Y0 3] (lE Y0 100) rfl hz) ys U.T U.t e 30000 _ hg hB (bu [lE Y0 2] (lE Y0 100) rfl J) hT (qM [lE Y0 2] (lE (30000+(Ax.m 6 Y0)) 100000) [6] 1 rfl J) (λj z=>iA [_,(H.length:Nat),(j:Nat)] [eQ Y1 Y0,lE 0 Y2] (lL Y0 (Y1+Y2+1)) [-1,1] 1 rfl oo (bG _)) (fG.mpr (bR [eQ Y0 Y1] (lE Y0 Y1) rfl oo))) (cR bz) _ _ _ _ (λY=>aLr w k L U _ H.length e _ _ Y m hm ys J) λY H J z z z=>h _ _ H ?_ ?_ (qb (bj J (aM3 ..)));·exact⟨rfl,rfl,rfl,rfl⟩
 ·rfl
theorem aM8(X1:aK w ar)(aU:ar.NoLimit)(hA:A.handled=none)(bz:A.depth+3<=bk){U:UV}{m:Nat}{r:FR}(S:Sa r ys T U)(hm:m=13\/m=21)(J:Br ys r)(hT:T.length<=100000)(SR:ay True ar ak ((L,U.aJ w k m)::Z) s)(h:∀H a b c k' V s',Kp U V->Sb r ys V->V.T=T++"<"++fR ys r->V.Lt=H->ay True ar ak ((H,aA (KO ys r a b c) 3)::(L,V.aJ w k' 21)::Z) s'->Q .next s'):aG (av w) A (aV ((cW.drop 6).take 7++(cW.drop 13).take 2) (dS L)) Q E s:=by
 refine aMz X1 aU hA bz hm (x:=bT (fq ys r)) (mm:=wE ys r) (q:=rS ys r) (d:=gf ys r) (S.F▸J.F) (S.B▸J.B) (by refine rR S.mx (rR S.mn ?_);rfl) (λhd=>?_) (S.T▸hT) SR λH a b c k3 V s3 M Y=>?_;·exact zn (J.q hd) λJ q2 q3 J=>rR S.mx (rR S.mn (rR S.P ⟨J,rfl,q2,q3,rfl⟩))
 ·rw[S.ls]at Y;exact h H a b c k3 V s3 ⟨M.R,M.b,M.W,M.r⟩ (S.mid M).1 (S.mid M).2 M.Lt Y
theorem aM9(U:UV)(x:Nat)(d b:Bool)(H:Xs):∃t,U.dc x d b H={ U with T:=(match d,b with|true,false=>wB U.T x|_,_=>U.T),t:=t }:=by
 induction d with
 |false=>exact⟨U.t,rfl⟩|true=>induction b with
  |false=>exact⟨_,rfl⟩|true=>exact⟨U.t,rfl⟩
theorem aNa(X1:aK w ar)(aU:ar.NoLimit)(hA:A.handled=none)(bz:A.depth+3<=bk){U:UV}{c:af×aq}(ys:List WD)(hy:ys.length<=3){r:FR}(S:Sb r (ys.map WD.p) U){W:af}(eT:U.T=T)(H:U.W=W)(hT:T.length<=100000)(SR:ay True ar ak ((W,aA (dD [] ys) e)::c::(L,U.aJ w k 21)::(ys.map WD.o++Z)) s)(h:∀(V:UV)s',Kp U V->Sb r (ys.map WD.p) V->V.Lt=U.Lt->V.T=rT (ys.map WD.p) r T->ay True ar ak ((W,aA (dD [] ys) e)::c::(L,V.aJ w k 21)::(ys.map WD.o++Z)) s'->Q .next s'):aG (av w) A (aV ((cW.drop 15).take 1) (dS L)) Q E s:=by
 subst eT H;have hd:decide _=gf _ r:=congrArg (λz=>decide (z>0)) S.ap;have hx:gf _ r=true->(pA 0 U.tg.length).bind (U.tg.cps[·]?)=some _:=λh=>rR S.tg (aM4 h);have p:(ys.map WD.o).Perm _:=(aV3 ys).symm.map _;have J:=bj SR (((p.append_right Z).cons _|>.cons _|>.cons _).trans (EU ..));have H:=ET ys;rw[H]at J;have f5:ys.reverse.any (λy=>decide (y.tg=U.tg))=yG (ys.map WD.p) r:=by rw[S.tg];simp only[List.any_reverse,yG,Yv];rfl
 unfold rT at h;generalize gf _ r=d at*;generalize yG _ r=b at*;refine fN J X1 aU hA 3 900 _ _ _ (λaQ z J J z=>aMp hd f5 hx hT) (aE bz (by decide)) Yn _ _ _ _ (λJ=>aL2 w k L U e _ _ J _ d b ys.reverse (rR uU hy)) λJ s2 J z z z=>?_;have Y:=bj J ((EU ..).symm.trans ((p.symm.append_right Z).cons _|>.cons _|>.cons _));obtain⟨t,et⟩:=aM9 U _ ..;rw[<-H,et]at Y;refine h _ s2 ?_ ?_ ?_ ?_ Y;·exact⟨rfl,rfl,rfl,rfl⟩
 ·exact⟨S.P,S.F,S.B,S.tg,S.hu,S.bo,S.ap,S.pu⟩
 ·rfl
 ·rfl
theorem aNb(X1:aK w ar)(aU:ar.NoLimit)(hA:A.handled=none)(bz:A.depth+3<=bk)(hs:∀D:af,ar.get? D=none->(D==ic)=false){U:UV}{o:Option ag}{a b c:ab}{r:FR}{Lt:af}{Y:Bool}(S:Sb r ys U)(er:U.r=r)(eb:U.b=Y)(eT:U.T=T)(eL:U.Lt=Lt)(H:Br ys r)(J:ES Y r.nm)(hT:T.length<=30100)(SR:ay True ar ak ((Lt,aA (KO ys r a b c) 3)::(L+1,b9 o)::(L,U.aJ w k 21)::Z) s)(h:∀o'(V:UV)s',V.R=U.R->V.b=U.b->V.W=U.W->PW.mk V.tg V.P V.F V.B=⟨fR ys r,fq ys r,j5 ys r,j6 ys r⟩->V.T=T++iG (gQ ys r 0) (gQ ys r 64) (gQ ys r 128) (lU (gf ys r) (fq ys r)) (kN ys r+kO ys r)++lS++gP true r.nm++j0 (lU (gf ys r) (rS ys r))++gP false (rQ Y r.nm (lV r.nm))->ay True ar ak ((L+1,b9 o')::(L,V.aJ w k 21)::Z) s'->Q .next s'):aG (av w) A (aV ((cW.drop 16).take 2++((cW.drop 18).take 1++((cW.drop 19).take 3++(cW.drop 22).take 1))) (dS L)) Q E s:=by
 subst er eb eT eL;have sP:=EV (d:=gf ys U.r) λ_=>H.P;have sQ:=EV (d:=gf ys U.r) λY=>(H.q Y).1;have e5:iG (U.l 0) (U.l 64) (U.l 128) U.hu U.bo=iG (gQ ys U.r 0) (gQ ys U.r 64) (gQ ys U.r 128) (lU (gf ys U.r) (fq ys U.r)) (kN ys U.r+kO ys U.r):=by rw[S.l,S.l,S.l,S.hu,S.bo]
 rw[<-Sa.ls ⟨S.P,S.F,S.B,rfl⟩]at SR;refine aM0 X1 aU hA bz hs (mN:=lV U.r.nm) (S.l 0▸H.l0) (S.l 64▸H.l1) (S.l 128▸H.l2) (S.hu▸sP) (S.bo▸H.bo) (S.pu▸sQ) J.l J.a J.l' J.a' J.s (aE hT (by decide)) (rR e5 (U3 H.l0 H.l1 H.l2 sP H.bo)) (S.pu▸U2 sQ) SR λH J s5 G Y=>?_;refine h H J s5 G.R G.b G.W ?_ ?_ Y;·rw[G.tg,G.P,G.F,G.B,S.tg,S.P,S.F,S.B]
 ·rw[G.T,e5,S.pu]
end
theorem aNc{b:Bool}{r:FR}{m:Nat}(ys:List WD)(hm:m=10/\ys=[]\/m=21/\ys≠[])(ok:yH b (T,ys.map WD.p) r):∃J H,J++H=ys/\gv b (T,ys.map WD.p) r=(uB b r (ux J T) (H.map WD.p),⟨fR (H.map WD.p) r,fq (H.map WD.p) r,j5 (H.map WD.p) r,j6 (H.map WD.p) r⟩::H.map WD.p)/\Br (H.map WD.p) r/\(H=[]/\J=[]/\r.dp=0\/(H.length:Int)=r.dp)/\J.length<=2/\(m=10/\H=[]/\¬r.dp>0\/m=21/\H≠[]/\r.dp>0)/\(∀y∈J,y.tg.length<=3)/\(∀y∈H,In (-100000000) 100000000 y.fu/\In (-100000000) 100000000 y.br)/\H.length<=3/\(ux J T).length<=30012:=by
 obtain⟨okT,okW,okl,aNd,aNe,gS,_⟩:=ok;have J:(ys.map WD.p).length=ys.length:=dA ..;have U4:=J▸okl;have yJ:ys≠[]->1<=r.dp/\r.dp<=ys.length:=λh=>by have H:=aNe (λe=>h (BZ.mp e));exact⟨H.1,J▸H.2.1⟩
 have KQ:∀y∈ys,y.tg.length<=3/\In _ 100000000 y.fu/\In _ 100000000 y.br:=λy Z=>okW y.p (b6 Z);have hn:kP (ys.map WD.p) r=ys.length - r.dp.toNat:=by unfold kP;rw[J]
 obtain⟨n,Y⟩:∃n,kP (ys.map WD.p) r=n:=⟨_,rfl⟩
 have e1:(ys.map WD.p).drop n=(ys.drop n).map WD.p:=List.map_drop.symm;have e2:(ys.map WD.p).take n=(ys.take n).map WD.p:=List.map_take.symm;have z8:gv b (T,ys.map WD.p) r=(uB b r (ux (ys.take n) T) ((ys.drop n).map WD.p),⟨fR ((ys.drop n).map WD.p) r,fq ((ys.drop n).map WD.p) r,j5 ((ys.drop n).map WD.p) r,j6 ((ys.drop n).map WD.p) r⟩::(ys.drop n).map WD.p):=by unfold gv;exact rR (KN ..) (rL (e1 ..) (rL (e2 ..) (rL (Y ..) rfl)))
 replace gS:=e1▸(Y▸((show(T,ys.map WD.p).2=ys.map WD.p from rfl)▸gS))
 replace hn:=Y▸hn;clear Y e1 e2;have Y:ys=[]/\r.dp=0\/1<=r.dp/\((ys.drop n).length:Int)=r.dp/\m=21:=by
  rcases hm with ⟨_,rfl⟩|⟨hm,cA⟩
  ·exact .inl ⟨rfl,aNd rfl⟩
  ·refine .inr ⟨(yJ cA).1,?_,hm⟩;exact rR Gu (rR hn (Nb (yJ cA).1 (yJ cA).2))
 have kj:(ys.take n).length<=2:=by
  rcases Y with ⟨rfl,_⟩|⟨a,_⟩
  ·exact rR aV4 (fZ _)
  ·exact rR w4 (rR hn (aE (Yr ..) (aE (Nat.sub_le_sub_right U4 _) (Nat.sub_le_sub_left (Int.toNat_le_toNat a) 3))))
 refine⟨ys.take n,ys.drop n,aUx ..,z8,gS,?_,kj,?_,λy Z=>(KQ y (Yy Z)).1,λy Z=>(KQ y (List.mem_of_mem_drop Z)).2,aE (Gu▸nK ..) U4,?_⟩
 ·rcases Y with ⟨rfl,h⟩|⟨_,h,_⟩
  ·exact .inl ⟨Yz,aV4,h⟩
  ·exact .inr h
 ·rcases Y with ⟨rfl,h⟩|⟨a,h,sM⟩
  ·exact .inl ⟨hm.elim And.left λh=>absurd rfl h.2,Yz,by rw[h];decide⟩
  ·refine .inr ⟨sM,λe=>?_,a⟩;rw[e]at h;exact absurd (h▸a) (by decide)
 ·rw[KN];refine aE (EW _ _ 30000 okT λy Z=>?_) (rR (dA ..) (qM [lE Y0 2] (lE (30000+(Ax.m 6 Y0)) 30012) [6] 1 rfl kj));refine aO (bq.mp Z) λz hz eq1=>?_;subst eq1;exact(KQ z (Yy hz)).1
section
variable {k:Nat->ab}{Z:List (af×aq)}
theorem aNf(X1:aK w ar)(aU:ar.NoLimit)(hA:A.handled=none)(bz:A.depth+3<=bk)(hs:∀D:af,ar.get? D=none->(D==ic)=false){U:UV}{m:Nat}{o:Option ag}(ys:List WD)(hm:m=10/\ys=[]\/m=21/\ys≠[])(ok:yH U.b (U.T,ys.map WD.p) U.r)(SR:ay True ar ak ((U.W,aA (dD [] ys) e)::(L+1,b9 o)::(L,U.aJ w k m)::(ys.map WD.o++Z)) s)(h:∀(k':Nat->ab)(e':Nat)(o':Option ag)(V:UV)(wG:List WD)(s':am),V.R=U.R->V.b=U.b->V.W=U.W->(V.T,wG.map WD.p)=gv U.b (U.T,ys.map WD.p) U.r->ay True ar ak ((V.W,aA (dD [] wG) e')::(L+1,b9 o')::(L,V.aJ w k' 21)::(wG.map WD.o++Z)) s'->Q .next s'):aG (av w) A (aV cW (dS L)) Q E s:=by
 rw[aMy];refine YV (aNc ys hm ok) λya J es z8 gS rh kj jt hgt hgd mD U5=>?_;subst es;replace h:=z8▸h;have oT:=ok.T;have wF:=ok.nm;clear ok;refine da (aM7 X1 aU hA bz ya J (jt.imp And.left And.left) kj mD hgt rh oT SR λe1 V1 s1 K1 T1 S1=>?_);refine da (aM6 X1 aU hA bz K1.r T1 K1.W J jt hgd S1 λk2 m2 V2 s2 vV K2 Sa2 S2=>?_);replace K2:=K1.trans K2;refine da (aM8 X1 aU hA bz Sa2 vV gS (aE U5 (by decide)) (bj S2 (j7 ..)) λLt a b c k3 V3 s3 Y Sb3 T3 L3 S3=>?_);have lT:(ux ya U.T++"<"++fR (J.map WD.p) U.r).length<=30016:=ln (ln (b:=1) U5 (by decide+kernel)) KP;refine da ?_;replace Y:=K2.trans Y;refine aNa X1 aU hA bz J mD Sb3 T3 Y.W (aE lT (by decide)) (bj S3 (U1 ..)) λV4 s4 H Sb4 L4 T4 S5=>?_;replace H:=Y.trans H;refine da (aNb X1 aU hA bz hs Sb4 H.r H.b T4 (L4.trans L3) gS wF (aM5 lT) (bj S5 (((U1 ..).symm).trans ((jK ..).cons _))) λo5 Y s5 gR gb gW gp gT S7=>?_);have S8:ay True ar ak ((Y.W,aA (dD [] J) e1)::(L,Y.aJ w k3 21)::(L+1,b9 o5)::(J.map WD.o++Z)) s5:=by exact rR gW (rR H.W (bj S7 (j7 ..)))
 refine dq S8 X1 aU hA 3 900 [2,1,1,1,1,2,2,2,2,2] (ik 1 Y.W (dD [] J) e1 _ λ_=> .nil) (λaQ _ X2 N2 _=>lr (rR (ET ..) (rR (dA ..) (rR (uU ..) (bu [lE Y0 3] (lE Y0 1000) rfl mD)))) λ_ _=>True.intro) bz _ _ _ _ (λσ=>aL7 w k3 L Y e1 _ _ σ _) λσ s6 S9 _ _ _=>h k3 (e1+1) o5 Y (Y.wd s5.heap.objs.size::J) s6 (gR.trans H.R) (gb.trans H.b) (gW.trans H.W) ?_ ?_;·exact rR gT (rR iJ (congrArg _ (congrArg (· ::_) gp)))
 ·exact bj S9 ((jK ..).trans ((j7 ..).cons _))
end
abbrev Bt:PySem.Expr:=SJ iF 3
abbrev KS:List Stmt:=SH iF 3
def aNg:PySem.Expr:=xE Bt 0
def aNh:PySem.Expr:=xE Bt 1
def aNi(b:List ck)(i:Nat):Pos:=(oS b[i]?).pos
theorem aNj:iF=iF.take 2++([.For (mK iF 2) (yB iF 2) cW [] (TV iF 2)]++([.While Bt KS [] (aNi iF 3)]++iF.drop 4)):=by kernel_rfl
section
theorem aNk(l D:af)(vs:List ag)(e:Nat):Told ao (av w) A U fr aa (b2 "list.__ne__" (.ref l) (.ref D)) [(l,aA vs e),(D,aA [] 0)] (λx=>⟨.ok (.ret (.bool (!vs.isEmpty))),[(l,aA vs e),(D,aA [] 0)],[],x 0,x 1⟩):=by
 intro u s ak R H H q hR;have J:=H.h.at_ _ az;have Y:=H.h.at_ _ (aB az);have Z:=hR (λi=>bif bY i 0 then s.heap.objs.size else s.toks) s rfl rfl rfl (λp hp=>absurd hp bi) ⟨H.h,H.os,H.gens,H.same⟩ λb o H nb=>H;refine dJ aV5.plain PySem.F.entry_list_ne (aV5.check _ _ _ _ _ _ _ _ ⟨_,J,rfl⟩ (PySem.F.args_list_ne_2 _ _) ?_);induction vs with
 |nil=>exact SeqAt.list_neAt l D _ _ e 0 none none #[] #[] rfl (λz=>true) _ _ _ R s ⟨J,Y,(λj H=>absurd H (Nat.not_lt_zero j)),Z⟩|cons v vs=>exact SeqAt.list_ne_lengthsAt l D _ _ e 0 none none #[] #[] rfl _ _ _ R s ⟨J,Y,Z⟩
end
section
variable (w:aj)(k:Nat->ab)(L:af)(U:UV)(vs:List ag)(y:WD)(e sz tk:Nat)(σ:Xs)
abbrev U6(U:UV)(vs:List ag)(y:WD)(e tk:Nat):aF:=cP U.T "</" (U.T++"</") U.t tk λa=>xi 0 U.W vs (.ref y.a) e λ_=>cP (U.T++"</") y.tg (U.T++"</"++y.tg) (a 2) y.t λc=>cP (U.T++"</"++y.tg) ">" (U.T++"</"++y.tg++">") (c 2) (c 1) λ_=> .nil
end
section
variable {k:Nat->ab}{Z:List (af×aq)}
theorem EY:(∀(w:aj)k L(U:UV)sz tk σ,bA ((aI w 0 0 none 300).S [] σ ⟨[(L,U.aJ w k 21)],sz,tk,[1], .nil⟩ (fx aNg (dS L)) fin) (.ok (.ref U.W),[(L,U.aJ w k 21)],sz,tk))/\(∀(w:aj)L sz tk σ,bA ((aI w 0 0 none 300).S [] σ ⟨[],sz,tk,[], .nil⟩ (fx aNh (dS L)) fin) (.ok (.ref sz),[(sz,aA [] 0)],sz+1,tk))/\(∀(w:aj)k L(U:UV)sz tk σ,bA ((aI w 0 0 none 300).S [] σ ⟨[(L,U.aJ w k 21)],sz,tk,[1], .nil⟩ (aV (iF.drop 4) (dS L)) fin) (.ok (.ret (.str U.T U.t)),[(L,U.aJ w k 21)],sz,tk))/\(∀(w:aj)k L(U:UV)(vs:List ag)(y:WD)e sz tk σ,bA ((aI w 2 0 none 600).S [] σ ⟨[(U.W,aA (vs++[aN y.a]) e),y.o,(L,U.aJ w k 21)],sz,tk,(dN 20 0x18c4200802008421042108c43),U6 U vs y e tk⟩ (aV KS (dS L)) fin) (.ok .next,[(U.W,aA vs (e+1)),y.o,(L,UV.aJ { U with T:=U.T++"</"++y.tg++">",t:=σ 3 2 } w k 21)],σ 3 0,σ 3 1+1)):=by and_intros<;>intros<;>kernel_rfl
theorem aNl{Q:Bool->am->Prop}(X1:aK w ar)(aU:ar.NoLimit)(Y:A.handled=none)(J:A.depth+3<=bk)(hu:A.units< dP){U:UV}{c:af×aq}{wh:ca ag}(SR:ay True ar ak ((U.W,aA vs e)::c::(L,U.aJ w k 21)::Z) s)(h:∀s',ay True ar ak ((U.W,aA vs e)::c::(L,U.aJ w k 21)::Z) s'->Q (!vs.isEmpty) s'):aG (av w) A (MR Bt (dS L) wh) Q E s:=by refine wpAny_isTrue_Compare1 (dq (bj SR (j7 ..)) X1 aU Y 0 300 [1] .nil (λz z z z z=>True.intro) (aT [lE (Y0+3) Y1] (lE (Y0+0) Y1) rfl J) _ _ _ _ (λH=>EY.1 ..) λH s1 S1 z z z=>?_);refine dq (ro:=_::c::_::Z) S1 X1 aU Y 0 300 [] .nil (λz z z z z=>True.intro) (aT [lE (Y0+3) Y1] (lE (Y0+0) Y1) rfl J) _ _ _ _ (λH=>EY.2.1 ..) λH s2 S2 z z z=>?_;generalize s1.heap.objs.size=D at S2;show aG _ _ (richCompare .NotEq _ _) ..;refine fV (au (X6 hu ?_));have S3:ay True ar ak ([(D,aA [] 0),_]++_) s2:=bj S2 ((j7 ..).cons _);refine dq (fr:=none) S3 X1 aU Y 2 900 [2,1,2,777,2] (.cons (some 0) _ [1,0] [(U.W,aA vs e),_] (λx=>⟨.ok _,[(U.W,aA vs e),(D,aA [] 0)],[],x 0,x 1⟩) λz=> .nil) (λaQ z Y Y z=>⟨rfl,by decide,λY z z=>aNk _ _ _ _,λz z z=>True.intro⟩) (cR J) (λz=> .bool _) (λz=>[(D,aA [] 0),(U.W,aA vs e)]) (λH=>H 0 0) (λH=>H 0 1) (λH=>by kernel_rfl) λH J H z z z=>jd rfl (h J ?_);exact⟨⟨λq J=>H.h.at_ q (aB J),(ci.mp H.h.nd).2,H.h.keep,λq J=>H.h.off q (aB J)⟩,H.os,H.gens,H.same⟩
theorem aNm(X1:aK w ar)(aU:ar.NoLimit)(hA:A.handled=none)(bz:A.depth+3<=bk)(hu:A.units< dP){U:UV}{c:af×aq}(ys:List WD)(hy:ys.length<=100)(J:∀y∈ys,y.tg.length<=3)(hT:U.T.length+6*ys.length<=100000)(Y:ay True ar ak ((U.W,aA (dD [] ys) e)::c::(L,U.aJ w k 21)::(ys.map WD.o++Z)) s)(h:∀V s',V.T=nG (ys.map WD.p) U.T->(∃P,ay True ar ak ((L,UV.aJ V w k 21)::(Z++P)) s')->R (.ok .next) s'):eC (av w) A (.whileLoop Bt KS [] (dS L)) R s:=by
 refine aVo (λn s'=>∃(V:UV)(e':Nat)(H:List WD)(P:List _),H.length=n/\n<=100/\(∀y∈H,y.tg.length<=3)/\V.T.length+6*n<=100000/\nG (H.map WD.p) V.T=nG _ U.T/\ay True ar ak ((V.W,aA (dD [] H) e')::c::(L,V.aJ ..)::(H.map WD.o++(Z++P))) s') ?_ ys.length ⟨U,e,ys,[],rfl,hy,J,hT,rfl,rR (dQ ..) Y⟩;rintro n s1 ⟨V,e',H,P,rfl,hn,J,hT,hE,Y⟩;refine aNl X1 aU hA bz hu Y λs2 S2=>?_;clear Y;induction H with
 |nil=>refine qC (h V s2 hE ⟨P++[c,(V.W,aA (dD [] []) e')],?_⟩);refine bj S2 ((j7 ..).trans (zg _ ?_));exact rL (bH Z P ..) (jL (l₁:=[c,_]))|cons y H=>
  have cA:(!(dD [] (y::H)).isEmpty)=true:=by show(!(dD [] H++[_]).isEmpty)=true;induction dD [] H<;>rfl
  rw[if_pos cA];have Y:=aE (fF ..) hT;have l2:(V.T++"</").length<=100002:=ln (b:=2) Y (by decide+kernel);have KT:=J y az;refine dq (ro:=c::(H.map WD.o++_)) (bj S2 ((j7 ..).cons _)) X1 aU hA 2 600 _ (U6 ..) (λaQ j X2 N2 j=>gO rfl Y (b:=2) (by decide+kernel) rfl λj j=>yF (λY j=>xh _ _ _ _ (by simp only[ET,dA,uU];exact bu [lE (Y0+1) 100] (lE Y0 1000) rfl hn)) λj j=>gO rfl l2 KT rfl λj j=>gO rfl (ln l2 KT) (b:=1) (by decide+kernel) rfl λj j=>True.intro) (cR bz) _ _ _ _ (λY=>EY.2.2.2 ..) λY s3 S3 j j j=>⟨H.length,wY _,UV.mk V.R V.b (V.T++"</"++y.tg++">") (Y 3 2) V.W V.r V.P V.tP V.F V.tF V.B V.tB V.Lt V.co V.Kx V.wy V.Ky V.bo V.Bm V.ap V.Bn V.tg V.rM V.hu V.Bp V.pu V.Bq,e'+1,H,y.o::P,rfl,cR hn,λz H=>J z (aB H),?_,hE,?_⟩
  ·have:(V.T++"</"++y.tg++">").length<=V.T.length+2+3+1:=ln (ln (ln (a8 _) (by decide+kernel)) KT) (by decide+kernel);exact b7 [lE (Y2+(Ax.m 6 (Y1+1))) 100000,lE Y0 (Y2+2+3+1)] (lE (Y0+(Ax.m 6 Y1)) 100000) rfl hT this
  ·refine bj S3 (zg _ ((j7 ..).trans (zg _ (zg _ ?_))));exact rL (bH ..) (rL (bH ..) ((lh).symm))
end
theorem aNn(w:aj):(K w.params).lookup 267=some ⟨ve.1.cls,ve.1.dict, .func uw,ve.1.slots⟩:=by kernel_rfl
def Bu(R:af)(b:Bool)(W:af)(t:ab):UV:=nc (⟨R,b,"",t,W,⟨0,0,[],0,0,0,0,0,0,0,0,0,0⟩,0,0,0,0,0,0,0,0,0,0,0,0,0,0,0,"",0,0,0,0,0⟩)
def EZ(t u i:Nat):Tok:=nc (bif FF i 2 then t+i else u+(i - 1))
section
variable (w:aj)(R L:af)(b:Bool)(a:List (af×aq))(k:Nat->ab)(U:UV)(sz tk t:Nat)(σ:Xs)
end
theorem aNo(L:af)(x:ag):MD (yB iF 2) (dS L) x=pure x:=by kernel_rfl
def mO(b:Bool)(rows:List FR):Str×List PW:=rows.foldl (gv b) ("",[])
def jA(b:Bool)(rows:List FR):Str:=nG (mO b rows).2 (mO b rows).1
structure yK(b:Bool)(rows:List FR):Prop where
 row:∀i r,rows[i]?=some r->yH b (mO b (rows.take i)) r
 T:(mO b rows).1.length<=50000
 l:(mO b rows).2.length<=100
 W:∀y∈(mO b rows).2,y.tg.length<=3
def U7(w:aj)(R L W:af)(b:Bool)(rows:List FR)(P:List (af×aq))(i:Nat)(led:List (af×aq)):Prop:=∃(U:UV)(k:Nat->ab)(m:Nat)(o:Option ag)(e:Nat)(ys:List WD),(m=4/\ys=[]\/m=21/\ys≠[])/\(ys=[]->i=0)/\U.R=R/\U.b=b/\U.W=W/\(U.T,ys.map WD.p)=mO b (rows.take i)/\led=(U.W,aA (dD [] ys) e)::(L+1,b9 o)::(L,U.aJ w k m)::(ys.map WD.o++P)
theorem aNp(b:Bool)(a:List FR)(r:FR):mO b (a++[r])=gv b (mO b a) r:=by unfold mO;refine rR XW ?_;rfl
open Classical in
theorem pmZ(r F I D W c s t:List α):cF (r++(F++(I++(D++(W++(c++(s++t))))))) (W++(c++(F++(s++(r++(t++(I++D))))))):=by rw[jf];intro x;simp only[ie];ac_rfl
theorem aNq(X1:aK w ar)(aU:ar.NoLimit)(hA:A.handled=none)(bz:A.depth+3<=bk)(hs:∀D:af,ar.get? D=none->(D==ic)=false){R W:af}{b:Bool}(ok:yK b rows){x:ag}(H:(rows.map λr=>aN r.a)[i]?=some x)(hJ:U7 w R L W b rows (rows.map λr=>(r.a,r.o)) i led)(SR:ay True ar ak ((I,cV R (i+1))::(R,aA (rows.map λr=>aN r.a) re)::led) s)(hQ:∀ji s',U7 w R L W b rows (rows.map λr=>(r.a,r.o)) (i+1) ji->ay True ar ak ((I,cV R (i+1))::(R,aA (rows.map λr=>aN r.a) re)::ji) s'->Q .next s'):aG (av w) A (su (mK iF 2) (.ref I) x) (λ_ s=>aG (av w) A (pD (mK iF 2) (dS L) x) (λ_ s=>aG (av w) A (aV cW (dS L)) Q E s) E s) E s:=by
 refine hO λcg aY=>?_;obtain⟨U,k,m,o,e,ys,hm,Av,hR,hb,hW,hT,rfl⟩:=hJ;refine aY ?_;replace H:=(dL)▸H;induction Z:rows[i]? with
 |none=>replace H:=Z▸H;injection H|some r=>
  rw[Z]at H;obtain rfl:aN r.a=x:=dG H;have et:rows.take (i+1)=rows.take i++[r]:=by rw[Go,Z];rfl
  refine vg (Gi (b6 (f:=λr:FR=>(r.a,r.o)) (ja Z))) λP1 J hP=>?_;have U8:=ok.row i r Z;rw[<-hT]at U8;have d0:=aE (fF ..) bz;generalize hY:ys.map WD.o=Y at SR;rw[hP]at SR hQ;have H:ay True ar ak ((r.a,r.o)::(L,U.aJ w k m)::(I,cV R (i+1))::(R,aA (rows.map λr=>aN r.a) re)::(U.W,aA (dD [] ys) e)::(L+1,b9 o)::((Y++P1)++J)) s:=by rw[<-bH]at SR;exact bj SR (Kb [_] [_] [_] [_] [_] _ [(r.a,r.o)] J)
  refine dq (bj H (j7 _ _ _ _|>.trans ((jK ..).cons _))) X1 aU hA 0 300 [1] .nil (λz z z z z=>True.intro) d0 _ _ _ _ (λH=>aMx ..) λz s1 Z z z z=>fN (bj Z ((jK ..).trans ((jK ..).cons _))) X1 aU hA 0 600 UT [3,4] .nil (λz z z z z=>True.intro) d0 (by decide) _ _ _ _ (λH=>aMw w k L U r _ _ m H (hm.imp And.left And.left)) λH Z S2 z z z=>?_;have H:EP m=10/\ys=[]\/EP m=21/\ys≠[]:=hm.imp (λh=>⟨by rw[h.1];rfl,h.2⟩) λh=>⟨by rw[h.1];rfl,h.2⟩;have S4:ay True ar ak ((U.W,aA (dD [] ys) e)::(L+1,b9 o)::(L,UV.aJ { U with r:=r } w (US m k s1.toks) (EP m))::(ys.map WD.o++((P1++(r.a,r.o)::J)++[(I,cV R (i+1)),(R,aA (rows.map λr=>aN r.a) re)]))) Z:=by
   rw[hY];have Z:Y++((P1++(r.a,r.o)::J)++[(I,cV R (i+1)),(R,aA (rows.map λr=>aN r.a) re)])=(Y++P1)++([(r.a,r.o)]++(J++([(I,cV R (i+1))]++[(R,aA (rows.map λr=>aN r.a) re)]))):=by simp only[bH,bH];rfl
   simp only[Z];exact(bj S2 (pmZ [(r.a,r.o)] [_] [_] [_] [_] [_] _ J))
  refine aNf (U:={ U with r:=r }) X1 aU hA bz hs ys H (by simp only[hb];exact U8) S4 λJ H Z V wG s' gR gb gW gT S5=>hQ _ s' ⟨V,J,21,Z,H,wG, .inr ⟨rfl,λh=>?_⟩,λh=>?_,gR.trans hR,gb.trans hb,gW.trans hW,?_,rfl⟩ ?_
  ·have:=congrArg (λp=>p.2.length) gT;rw[h]at this;injection this
  ·have:=congrArg (λp=>p.2.length) gT;rw[h]at this;injection this
  ·simp only[gT,et,aNp,<-hT];rw[hb]
  ·refine bj S5 (Yw ?_ (jL (l₁:=[(I,cV R _),_])).symm);show cF _ (_::_::_::((wG.map WD.o++_)++_));rw[bH (wG.map WD.o)]
theorem E0:(∀(w:aj)R b a sz tk σ,bA ((aI w 0 0 none 400).S [] σ ⟨a,sz,tk,[], .nil⟩ (ma uw ⟨[.ref R, .bool b],[]⟩) fin) (.ok [("rows", .ref R),("bare", .bool b)],a,sz,tk))/\(∀(w:aj)R b a sz tk σ,bA ((aI w 0 0 none 400).S [] σ ⟨a,sz,tk,[2,2,2,2], .nil⟩ (md uw.scope uw.globals uw.closure [("rows", .ref R),("bare", .bool b)] (uw.qualname++".<locals>.") (some 267) uw.code none uw.builtins) fin) (.ok (dS sz),[(sz+1,b9 none),(sz,(Bu R b 0 0).aJ w (EZ tk 0) 2)]++a,sz+2,tk+2))/\(∀(w:aj)R L b sz tk t σ,bA ((aI w 0 0 none 400).S [] σ ⟨[(L,(Bu R b 0 0).aJ w (EZ t 0) 2)],sz,tk,[1,1,2,2], .nil⟩ (aV (iF.take 2) (dS L)) fin) (.ok .next,[(sz,aA [] 0),(L,(Bu R b sz tk).aJ w (EZ t tk) 4)],sz+1,tk+3))/\(∀(w:aj)L k(U:UV)sz tk σ,bA ((aI w 0 0 none 400).S [] σ ⟨[(L,U.aJ w k 4)],sz,tk,[1], .nil⟩ (fx (yB iF 2) (dS L)) fin) (.ok (.ref U.R),[(L,U.aJ w k 4)],sz,tk)):=by and_intros<;>intros<;>kernel_rfl
open Classical in
theorem pmE(P F X I:List α):cF (P++(F++(X++I))) (X++(P++(F++I))):=by rw[jf];intro x;simp only[ie];ac_rfl
theorem aNr(XK:aK w aa)(NL:aa.NoLimit)(h1:∃o,aa.get? 1=some o)(hA:A.handled=none)(hd:A.depth+5<=bk)(hU:U+23< dP)(R:af)(re:Nat)(b:Bool)(rows:List FR)(h0:0< rows.length)(ok:yK b rows):Told True (av w) A U fr aa (gF 267 [.ref R, .bool b]) (f9 R re rows) (λx=>⟨.ok (.ret (.str (jA b rows) (x 2))),f9 R re rows,[],x 0,x 1⟩):=by
 refine Dh (body:=iF) XK NL hA hd (aNn w) rfl rfl (by kernel_rfl) (by kernel_rfl) [("rows", .ref R),_] [] (λL tk H=>E0.1 ..) dS _ 2 2 [2,2,2,2] (λL tk H=>E0.2.1 ..) (λz=>rfl) ?_;intro kG L tk s ak Q E ar Y hd2 Kt aZ Z aU SR hz ht dm;have d0:=b7 [lE (Y2+5) Y1,eQ Y0 (Y2+1)] (lE (Y0+0) Y1) rfl hd hd2;have d3:=b7 [lE (Y2+5) Y1,eQ Y0 (Y2+1)] (lE (Y0+3) Y1) rfl hd hd2;have hs:∀D:af,ar.get? D=none->(D==ic)=false:=λD hD=>beq_false_of_ne λe=>by obtain⟨o,ho⟩:=h1;have:=aZ _ _ ho;simp only[e,show ic=1 from rfl,this]at hD;injection hD
 refine rR aNj (da ?_);refine dq (a:=[(L,(Bu ..).aJ ..)]) (bj SR (jK ..)) Z aU Y 0 400 [1,1,2,2] .nil (λz z z z z=>True.intro) d0 _ _ _ _ (λH=>E0.2.2.1 ..) λz s1 S1 z z z=>?_;obtain⟨J,eU⟩:∃J:UV,J=Bu R b s.heap.objs.size s.toks:=⟨_,rfl⟩
 rw[<-eU]at S1;have eR:J.R=R:=by rw[eU];rfl
 have S2:ay True ar ak ((L,J.aJ w _ 4)::(J.W,aA (dD [] []) 0)::_::_::rows.map λr=>_) s1:=rR (show J.W=s.heap.objs.size by rw[eU];rfl) (bj S1 (jK ..));refine da (mV (XM ?_ (aNo L)));refine dq S2 Z aU Y 0 400 [1] .nil (λz z z z z=>True.intro) d0 _ _ _ _ (λH=>E0.2.2.2 ..) λz s2 S3 z z z=>rR eR ?_;have e3:=λH=>yC.2.2.2.2 w R s2.heap.objs.size s2.toks H (rows.map λr=>aN r.a) re;generalize Az:(rows.map λr=>aN r.a)=vs at S3 e3 ⊢;have S4:=bj S3 (((j7 ..).cons _).trans ((jK ..).trans ((j7 ..).cons _)));clear S2 S3;have key:∀(Q:ag->am->Prop)(E:ag->am->Prop),(∀s3,ay True ar ak _ s3->Q _ s3)->aG _ kG _ Q E s2:=λQ E h=>dq S4 Z aU Y 0 400 [1,1,777,0,1,0,1] .nil (λz z z z z=>True.intro) d0 _ _ _ _ e3 λz s3 S5 z z z=>h s3 S5;refine key _ _ λs3 S5=>?_;clear key e3 S4;subst Az;generalize s2.heap.objs.size=I at S5 ⊢;refine TJ Y _ ⟨J,EZ tk s.toks,4,none,0,[], .inl ⟨rfl,rfl⟩,λz=>rfl,eR,by rw[eU];rfl,rfl,by rw[eU];rfl,rfl⟩ S5 (λi x led s Q E J hJ S hQ=>aNq Z aU Y d3 hs ok J hJ S hQ) λled s4 hJ S6=>?_;rw[dA]at hJ S6;refine hO λJ aY=>?_;obtain⟨V,k,m,o,e,ys,hm,Av,j,j,j,hT,rfl⟩:=hJ;refine aY ?_;rw[B5]at hT;obtain rfl:m=21:=hm.elim (λh=>absurd h.2 (λh=>absurd (Av h) (jc (bu [lL 0 Y0] (lL 0 Y0) rfl h0)))) And.left;have eT:V.T=(mO b rows).1:=congrArg WW hT;have eY:ys.map WD.p=(mO b rows).2:=congrArg wS hT;have J:ys.length<=100:=by have:=ok.l;rw[<-eY,dA]at this;exact this
 refine qC ?_;have S7:ay True ar ak ((V.W,aA (dD [] ys) e)::(L+1,b9 o)::(L,V.aJ w k 21)::(ys.map WD.o++((rows.map λr=>(r.a,r.o))++[(I,jU rows.length),(R,aA (rows.map λr=>aN r.a) re)]))) s4:=by exact rL (bH ..) (bj S6 (jL (l₁:=[(I,jU rows.length),_])))
 refine da (mV (wpAny_While (aNm Z aU Y d3 (b7 [lL (Y2+23) Y1,lE Y0 (Y2+3)] (lL Y0 Y1) rfl hU Kt) ys J (λy hy=>ok.W y.p (eY▸b6 hy)) (by have:=ok.T;rw[<-eT]at this;exact fz [lE Y1 100,lE Y0 50000] (lE (Y0+(Ax.m 6 Y1)) 100000) [6,1] 1 rfl J this) S7 λJ s5 hV' hP=>?_)));refine BR hP λP S8=>qC (dq S8 Z aU Y 0 300 [1] .nil (λz z z z z=>True.intro) d0 _ _ _ _ (λH=>EY.2.2.1 ..) λH H Z Y Y z=>?_);have Y:J.T=jA b rows:=by simp only[hV',eT,eY];rfl
 refine dm (λi=>match i with|0=>H.heap.objs.size|1=>H.toks|_=>J.t) _ H (show aV6 _=aV6 _ from rR Y rfl) rfl rfl ?_;have Y:ay True ar ak (((R,aA (rows.map λr=>aN r.a) re)::P)++((L,J.aJ w k 21)::(rows.map λr=>(r.a,r.o))++[(I,jU rows.length)])) H:=by refine bj Z (Yw ?_ (jL));show cF (_::(((rows.map λr=>_)++([(I,jU rows.length)]++[(R,aA (rows.map λr=>aN r.a) re)]))++P)) (_::(((rows.map λr=>_)++[(I,jU rows.length)])++([(R,aA (rows.map λr=>aN r.a) re)]++P)));rw[bH,bH,bH]
 have H:(((R,aA (rows.map λr=>aN r.a) re)::P)++((L,J.aJ w k 21)::(rows.map λr=>(r.a,r.o))++[(I,jU rows.length)])).Perm (f9 R re rows++(P++([(L,J.aJ w k 21)]++[(I,jU rows.length)]))):=by exact zg _ (pmE P [_] _ [_])
 exact qb (bj Y H)
structure PR where
 dp:Int
 nm:List Nat
 dr:Nat
 tu:Int
 sh:Int
 va:Int
noncomputable def PR.at_(p:PR)(y:Nat->Nat)(k:Nat):FR:=⟨y k,p.dp,p.nm,p.dr,p.tu,p.sh,p.va,y (k+1),y (k+2),y (k+3),y (k+4),y (k+5),y (k+6)⟩
noncomputable def gg(p:Nat->PR)(y:Nat->Nat):List FR:=[(p 0).at_ y 3,(p 1).at_ y 10,(p 2).at_ y 17,(p 3).at_ y 24]
abbrev KU(S:af)(so:aq)(p:Nat->PR)(y:Nat->Nat):Out:=⟨.ok (.ret (.ref (y 2))),[(S,so)],f9 (y 2) 4 (gg p y),y 0,y 1⟩
structure RT.Is(T:RT)(h:Int)(p:PR):Prop where
 dp:T.dp=p.dp
 nm:T.nm=aW p.nm
 dr:((lC h T).fdiv 363).fmod 3=(p.dr:Int)
 tu:(((lC h T).fdiv 363).fdiv 3).fmod 64=p.tu
 sh:T.sh=p.sh
 va:T.va=p.va
theorem E1{T:RT}{h:Int}{p:PR}(H:T.Is h p)(k:Nat)(y:Nat->Nat):xH h T k y=((p.at_ y k).a,(p.at_ y k).o):=by unfold xH;simp only[H.dp,H.nm,H.dr,H.tu,H.sh,H.va];rfl
theorem aNs{T:Nat->RT}{p:Nat->PR}(Y:(T 0).Is 5514 (p 0))(J:(T 1).Is 693213 (p 1))(H:(T 2).Is 163261 (p 2))(Z:(T 3).Is 1603350 (p 3))(S:af)(so:aq):Dd S so T=KU S so p:=by funext y;unfold Dd;simp only[E1 Y,E1 J,E1 H,E1 Z];rfl
theorem aNt(XK:aK w aa)(Z:aa.NoLimit)(S:af)(d:Option af)(vs:List ag)(e:Nat)(sl:Array (Option ag))(hz:vs.length<=100)(T:Nat->RT)(p:Nat->PR)(H:(T 0).Ok vs 5514 0 0)(o1:(T 1).Ok vs 693213 1 ((T 0).dp+1))(o2:(T 2).Ok vs 163261 2 ((T 1).dp+1))(J:(T 3).Ok vs 1603350 3 ((T 2).dp+1))(h0:(T 0).Is 5514 (p 0))(h1:(T 1).Is 693213 (p 1))(Y:(T 2).Is 163261 (p 2))(h3:(T 3).Is 1603350 (p 3)):Any True w aa 4 (gF 238 [.ref S]) [(S,iS d vs e sl)] (KU S (iS d vs e sl) p):=by simp only[<-aNs h0 h1 Y h3];exact aDi XK Z S d vs e sl hz T H o1 o2 J
structure LV where
 S:af
 R:af
 b:Bool
 T:Str
 t:ab
 W:af
 tg:af
 sx:Str
 tx:ab
 E:af
variable {V:LV}
noncomputable def LV.v(V:LV):Nat->ag
 |0=> .ref V.S|1=> .ref V.R|2=> .bool V.b|3=> .str V.T V.t|4=> .ref V.W|5=> .ref V.tg|6=> .str V.sx V.tx|_=> .ref V.E
variable {v:ag}
def aNu:List Str:=nc (["script","rows","bare","text","written","target","sixth","ends"])
def LV.aJ(V:LV)(w:aj)(k:Nat->ab)(n:Nat):Obj:=⟨.type "frame",none, .dict (Kw w k V.v 0 aNu n).toArray n,#[]⟩
def oX:FuncData:=match vf.1.data with
 | .func fd=>fd|_=>default
abbrev cM:List Stmt:=bodyOf vf.1
abbrev ff(L:af):Env:={ mB vf.1 272 L with cells:=[("lexer",L+1)] }
theorem aNv(w:aj):(K w.params).lookup 272=some ⟨vf.1.cls,vf.1.dict, .func oX,vf.1.slots⟩:=by kernel_rfl
abbrev KV(H:Nat):Code:=nc (.call (.ref 227) ⟨[.ref H],[]⟩)
def U9:List Nat:=(dN 125 0x4210030000300c001800000c4318c020000200800100000082318c020000200800100000082118c60100001004000800000410042108400000200800000000000000000000000000000000000000)
def KW(w:aj)(H:Nat):(Nat->Nat)->Out:=λy=>⟨.ok (.ret (.ref (y 0+1))),[],[(y 0+1,dW 227 (y 0)),(y 0,Cz w 1 (y 1+2) H (y 0+3) (y 1+4) (y 1+6) (y 1+9) (y 1+11) (y 1+7)),(y 0+3,aA [] 0)],y 0+4,y 1+12⟩
theorem aNw(w:aj)(H sz tk:Nat)(J:Xs):Ends [2,3,0] ((aI w 4 0 none 600).C [] J ⟨[],sz,tk,U9, .nil⟩ (KV H) fin) (bW (KW w H (two sz tk))):=by kernel_rfl
theorem aNx(Y:aK w aa)(J:aa.NoLimit)(H:Nat):Any ao w aa 4 (KV H) [] (KW w H):=bS Y J 600 U9 [2,3,0] (λz z=> .nil) (by decide) _ (λz=>rfl) (λH H z z z=>True.intro) λsz tk H=>aNw ..
noncomputable def j8(x:Nat->Nat):List NE:=[⟨x 3,"http://www.w3.org/XML/1998/namespace",x 20,"xml",330⟩,⟨x 4,"http://www.w3.org/1999/xhtml",x 21,"html",332⟩,⟨x 5,"http://www.w3.org/1999/02/22-rdf-syntax-ns#",x 22,"rdf",334⟩,⟨x 6,"http://schemas.xmlsoap.org/wsdl/",x 23,"wsdl",336⟩,⟨x 7,"http://www.w3.org/2001/XMLSchema",x 24,"xs",338⟩,⟨x 8,"http://www.w3.org/2001/XMLSchema-instance",x 25,"xsi",340⟩,⟨x 9,"http://purl.org/dc/elements/1.1/",x 26,"dc",342⟩]
def Va:List (Str×ab×ag):=nc ([("http://www.w3.org/XML/1998/namespace",329, .str "xml" 330),("http://www.w3.org/1999/xhtml",331, .str "html" 332),("http://www.w3.org/1999/02/22-rdf-syntax-ns#",333, .str "rdf" 334),("http://schemas.xmlsoap.org/wsdl/",335, .str "wsdl" 336),("http://www.w3.org/2001/XMLSchema",337, .str "xs" 338),("http://www.w3.org/2001/XMLSchema-instance",339, .str "xsi" 340),("http://purl.org/dc/elements/1.1/",341, .str "dc" 342)])
def E2(p:pg)(l:List (Str×ab×ag)):List DictEntry:=nc (l.map λx=>⟨aS p x.1, .str x.1 x.2.1,x.2.2⟩)
abbrev Vb(p:pg):Obj:=⟨.type "dict",none, .dict (E2 p Va).toArray 7,#[]⟩
theorem aNy(p:pg):(K p).lookup 44=some (Vb p):=by kernel_rfl
section
theorem aNz(l:List (Str×ab×ag)):KeysOf (strKind prog w) (E2 w.params l).toArray:=by intro e H;rw[E2,Gk,bq]at H;obtain⟨x,z,rfl⟩:=H;exact⟨x.1,mh ..,rfl⟩
theorem Vc:∀(l:List (Str×ab×ag)),Pairs (strKind prog w) (E2 w.params l) (l.map λx=>(x.1,x.2.2))
 |[]=> .nil|x::l=> .cons (mh ..) rfl (Vc l)
theorem aN0:Obj.IsDictOf (strKind prog w) (Vb w.params) (Va.map λx=>(x.1,x.2.2)):=⟨_,7,⟨rfl,rfl,rfl⟩,rfl,aNz _,Vc _,by decide+kernel⟩
end
abbrev E3:Obj:=nc (⟨.type "dict_items",none, .fields #[.ref 44],#[]⟩)
theorem aN1{Q:ag->am->Prop}{r:cw}(h:FX Q (λ_ _=>False) r s):∃v,r= .ok (.ret v)/\Q v s:=by
 induction r with
 |error e=>exact h.elim|ok f=>induction f with
  |ret v=>exact⟨v,rfl,h⟩|_=>exact h.elim
theorem aN2(a:ag):Told ao (av w) A U fr aa (bC "list.__new__" [.type "list",a]) [] (λy=>⟨.ok (.ret (.ref (y 0))),[],[(y 0,listOf ([]:List ag).toArray 0)],y 0+1,y 1⟩):=by intro u s ak R hu H j hR;refine Mo (code_list_new (Q₁:=λv s'=>v= .ref s.heap.objs.size/\s'={ s with heap:=s.heap.push { cls:= .type "list",data:= .seq #[] } }) a ⟨rfl,rfl⟩) λr s' hr=>ig (aN1 hr) λv Z Y J=>?_;subst Z;subst Y;subst J;refine hR (λi=>bif bY i 0 then s.heap.objs.size else s.toks) _ (qv ..) rfl rfl (λp J=>?_) ⟨H.h.alloc rfl,H.os,H.gens,H.same⟩ λb o e z=>cZ _ e;exact rR (bI.mp J) (wR (a8 _))
def Vd(a b c:Nat)(f t:Nat->Nat)(i:Nat):Nat:=nc (([a,b,c,f 0,f 1,f 2,f 3,f 4,f 5,f 6][i]?).getD (t (i - 20)))
theorem aN3{H:List Nat}(h:H.length=7):∃f:Nat->Nat,H=[f 0,f 1,f 2,f 3,f 4,f 5,f 6]:=⟨λi=>H.getD i 0,(aUl (by refine rR h ?_;rfl) λi J Y=>by simp[J]:H=(fH 7).map λi=>H.getD i 0)⟩
theorem aN4(hA:A.handled=none)(X:aK w aa)(S v:Nat):Told ao (av w) A U fr aa (bC "list.__init__" [.ref S, .ref v]) [(S,listOf ([]:List ag).toArray 0),(v,E3)] (λx=>⟨.ok (.ret .none),[(S,listOf ((j8 x).map hM).toArray (x 2)),(v,E3)],(j8 x).map λe=>(e.t,fA e),x 0,x 1⟩):=by
 intro u s ak R hu H m hR;have Y:=H.h.at_ _ az;have hv:=H.h.at_ _ (aB az);have E4:S≠v:=λe=>(ci.mp H.h.nd).1 (e▸az);have Ve:=X _ _ (aNy w.params);have h4:44≠S:=λe=>by have:=H.h.off _ az;simp only[<-e,Ve]at this;injection this
 obtain⟨ep,d9⟩:=KdkAt.of (aN0);refine dJ aV7.plain PySem.F.entry_list_init (aV7.check _ _ _ _ _ _ _ _ ⟨_,Y,rfl⟩ (PySem.F.args_list_init_2 _ _) ?_);refine au (au (wU Y rfl (aH ?_)));refine au (FP Y rfl ?_);have kK:=nM (mS (λz=>(#[]:Array ag))) Y rfl;have xS:∀b o,b≠S->s.heap.get? b=some o->(s.heap.update S (mS (λz=>(#[]:Array ag)))).get? b=some o:=λb o Z e=>(X0 _ _ (Ne.symm Z)).trans e;refine au (wpAny_letGo ?_);refine kdx_extend (A:={ A with units:=u }) hA ⟨_,xS _ _ E4.symm hv,rfl,rfl⟩ (d9.dictAt (xS _ _ h4 (H.h.keep _ _ Ve))) S E4 h4 .none _ kK (λh' tk acc c as hk kE hl hG zZ=>?_) (by decide+kernel);have KY:∀b o,b≠S->s.heap.get? b=some o->h'.get? b=some o:=λb o Z e=>hk b o Z (xS b o Z e);have key:∀j:Nat,∃t:Nat,∀(a:af)(k:Str)(x:ag),as[j]?=some a->_[j]?=some (k,x)->h'.get? a=some ⟨.type "tuple",none, .seq #[.str k t,x] 0,#[]⟩:=λj=>by
  induction ha:as[j]? with
  |none=>exact⟨0,λa k x e=>nomatch e⟩|some a=>
   refine hO λZ aY=>M7 (hG.pairs j a ha) λZ k x e1 e2 e3=>?_;obtain⟨t,rfl⟩:=Gf e2;refine aY ⟨t,λZ Z Z ea ek=>?_⟩;injection ea with ea;subst ea
   replace ek:=e1▸ek;cases ek;exact e3
 obtain⟨tt,J⟩:=Classical.axiomOfChoice key;have Bb:∀a∈as,s.heap.get? a=none:=λa ha=>wR (cR (by have:=hG.above a ha;rw[((ia ..).1)]at this;exact this));obtain⟨f,rfl⟩:=aN3 hl;have ob:∀p∈(j8 (Vd 0 0 0 f tt)).map (λe=>(e.t,fA e)),h'.get? p.1=some p.2/\p.1∈[f 0,f 1,f 2,f 3,f 4,f 5,f 6]:=by simp only[j8,iJ,wT,w9];exact⟨⟨J 0 _ _ _ rfl rfl,ja (i:=0) rfl⟩,⟨J 1 _ _ _ rfl rfl,ja (i:=1) rfl⟩,⟨J 2 _ _ _ rfl rfl,ja (i:=2) rfl⟩,⟨J 3 _ _ _ rfl rfl,ja (i:=3) rfl⟩,⟨J 4 _ _ _ rfl rfl,ja (i:=4) rfl⟩,⟨J 5 _ _ _ rfl rfl,ja (i:=5) rfl⟩,⟨J 6 _ _ _ rfl rfl,ja (i:=6) rfl⟩,λz h=>nomatch h⟩
 refine hR (Vd h'.objs.size tk c f tt) _ rfl rfl rfl (λp hp=>Bb _ (ob p hp).2) ⟨⟨λp hp=>?_,?_,λb o e=>KY b o (λq=>by have:=H.h.off _ az;simp only[<-q,e]at this;injection this) (H.h.keep b o e),λp hp=>?_⟩,H.os,H.gens,H.same⟩ λb o e J=>KY b o (λq=>J _ az q.symm) e
 ·rcases cq.mp hp with hp|hp
  ·exact(ob p hp).1
  ·rcases a9.mp hp with rfl|hp
   ·rw[show acc=[aN (f 0), .ref (f 1), .ref (f 2), .ref (f 3), .ref (f 4), .ref (f 5), .ref (f 6)].toArray from aV8.mp zZ]at kE;exact kE
   ·exact rR (bI.mp hp) (KY _ _ E4.symm hv)
 ·refine fi.mpr ⟨hG.rise.imp du,ci.mpr ⟨λh=>E4 (bI.mp h),ci.mpr ⟨bi,bN⟩⟩,λx J y hy e=>?_⟩;have h1:=Bb x J;rcases a9.mp hy with rfl|hy
  ·simp only[e,Y]at h1;injection h1
  ·simp only[e,bI.mp hy,hv]at h1;injection h1
 ·rcases cq.mp hp with hp|hp
  ·have:=Bb _ (ob p hp).2;induction q:aa.get? p.1 with
   |none=>rfl|some o=>replace this:=(H.h.keep _ _ q)▸this;injection this
  ·rcases a9.mp hp with rfl|hp
   ·exact(H.h.off _ az:)
   ·exact rR (bI.mp hp) (H.h.off _ (aB az):)
abbrev KZ(wm:Nat)(b:Bool):Code:=nc (.call (.ref 150) ⟨[.ref wm],[("strip_text", .bool b)]⟩)
def Vf:List Nat:=(dN 478 0x294a02600026098013000009ca94a02600026098013000009ca94a02600026098013000009ca94a02600026098013000009ca94a02600026098013000009ca73982400024090012000009456b581605294a88210000100000083d4a5014010422000000000000000004210a007380003800001cc64210038000380e001c00000e639ce030000300c001800000c521080180001806000c00000621108400c0000c030006000003108842006000060180030000018844210030000300c001800000c4221080180001806000c00000621108400c0000c030006000003108842006000060180030000018844210030000300c001800000c4318c020000200800100000082100421084210842108421084200000000400000200800000000000000000000000000000000000000)
def Vg(sz:Nat):aF:= .cons (some 0) (bC "list.__new__" [.type "list", .ref (sz+8)]) [] [] (λy=>⟨.ok (.ret (.ref (y 0))),[],[(y 0,aA [] 0)],y 0+1,y 1⟩) λy=>
 .cons (some 0) (bC "list.__init__" [.ref (y 0), .ref (sz+8)]) [0,1] [(y 0,aA [] 0),(sz+8,E3)] (λx=>⟨.ok (.ret .none),[(y 0,aA ((j8 x).map hM) (x 2)),(sz+8,E3)],(j8 x).map λe=>(e.t,fA e),x 0,x 1⟩) λ_=> .nil
def tgK(y:Nat->Nat)(i:_root_.Fin 17):Tok:=nc (([y 1+10,y 1+12,y 1+14,y 1+16,y 1+18,y 1+20,y 1+22,y 1+24,y 1+26,y 1+30,y 1+32,y 101+2,y 101+4,y 101+6,y 101+8,y 101+10,y 101+13][i.val]?).getD 0)
def uC(wm:Nat)(b:Bool)(y:Nat->Nat):TG where
 tg:=y 0+1
 td:=y 0
 dl:=y 0+3
 ds:=y 0+6
 ns:=y 0+7
 pm:=y 100+1
 ps:=y 100+2
 wr:= .ref wm
 b:=b
 rs:=false
 rn:=false
 ti:=y 101+11
 ep:=17
 kt:=tgK y
 cT:=[⟨y 0+5,0,[.ref (y 0+4)]⟩]
 dep:=0
 aL:=[⟨y 2,y 102,(j8 λi=>y (100+i)).map hM⟩,⟨y 100,0,[]⟩]
 ei:=2
 ents:=[⟨y 0+4,"http://www.w3.org/XML/1998/namespace",y 1+27,"xml",y 1+28⟩]
 nh:=j8 λi=>y (100+i)
def K0(w:aj)(G:TG):List (af×aq):=[(G.tg,dW 150 G.td),(G.td,fk w G.wr G.b G.rs G.rn G.dl G.ds G.ns G.pm G.ps G.ti G.ep G.kt),(G.dl,listOf ([]:List ag).toArray 0),(G.ds,listOf (G.cT.map λl=>aN l.a).toArray G.dep),(G.ns,listOf (G.aL.map λl=>aN l.a).toArray G.ei),(G.ps,listOf [dX false].toArray 0)]++((G.cT.map λl=>(l.a,listOf l.items.toArray l.ep))++((G.ents.map λe=>(e.t,fA e))++((G.aL.map λl=>(l.a,listOf l.items.toArray l.ep))++G.nh.map λe=>(e.t,fA e))))
def K5(w:aj)(wm:Nat)(b:Bool):(Nat->Nat)->Out:=λy=>⟨.ok (.ret (.ref (y 0+1))),[],K0 w (uC wm b y),y 100+3,y 101+14⟩
def tgX(sz tk:Nat)(H:Xs)(i:Nat):Nat:=nc (bif bY i 0 then sz else bif bY i 1 then tk else bif bY i 2 then H 0 0 else H 1 (i - 100))
theorem aN5(w:aj)(wm:Nat)(b:Bool)(sz tk:Nat)(H:Xs):Ends [18,19,16,13,12,0,14,15,10,2,3,4,5,6,7,8,9] ((aI w 4 0 none 900).C [] H ⟨[],sz,tk,Vf,Vg sz⟩ (KZ wm b) fin) (bW (K5 w wm b (tgX sz tk H))):=by kernel_rfl
theorem aN6(H:aK w aa)(J:aa.NoLimit)(wm:Nat)(b:Bool):Any ao w aa 4 (KZ wm b) [] (K5 w wm b):=bS H J 900 Vf [18,19,16,13,12,0,14,15,10,2,3,4,5,6,7,8,9] (λsz z=>Vg sz) (by decide) _ (λz=>rfl) (λJ J sz z z=>⟨rfl,bN,λz z z=>aN2 _,λy z h=>⟨rfl,by decide,λz J z=>aN4 J H _ _,λz z z=>True.intro⟩⟩) λsz tk H=>aN5 ..
def Vh:List Nat:=(dN 74 0x41098c63004529400180420000200000104802008021060108000080000041000601080000800000410042108421)
def Vi(G:TG)(H:Nat)(J:List ag)(Z:Nat)(Y:List ag)(tk:Nat):aF:=xY 4 G.ns Y (.ref H) G.ei (tk+9) λl=>ik 6 H J Z (.ref (l 0)) λ_=> .nil
def K6(G:TG)(w:aj)(H:Nat)(J:List ag)(ne:Nat)(Z:List ag)(Y:Nat)(p u:Str)(t t2:ab):(Nat->Nat)->Out:=nc (λy=>⟨.ok (.ret .none),[(G.tg,dW 150 G.td),(G.td,G.dict w),(G.dl,listOf ([]:List ag).toArray Y),(G.ns,listOf (Z++[aN H]).toArray G.ei),(H,listOf (J++[aN (y 2)]).toArray (ne+1))],[(y 2,⟨.type "tuple",none, .seq (cE [.str u t2, .str p t]) 0,#[]⟩)],y 0,y 1⟩)
theorem aN7(w:aj)(G:TG)(J:Nat)(Y:List ag)(ne:Nat)(Z:List ag)(de:Nat)(p u:Str)(t t2:ab)(sz tk:Nat)(H:Xs):Ends [0,2,3,4,5,6] ((aI w 2 0 none 500).C [] H ⟨um G w J Y ne Z de,sz,tk,Vh,Vi G J Y ne Z tk⟩ (JJ G p u t t2) fin) (bW (K6 G w J Y ne Z de p u t t2 λi=>match i with|0=>H 1 0|1=>H 1 1|_=>H 0 0)):=by kernel_rfl
theorem aN8(XK:aK w aa)(NL:aa.NoLimit)(G:TG)(Z:Nat)(H:List ag)(Y:Nat)(J:List ag)(de:Nat)(p u:Str)(t t2:ab)(hz:H.length<=1000):Any ao w aa 2 (JJ G p u t t2) (um G w Z H Y J de) (K6 G w Z H Y J de p u t t2):=bS XK NL 500 Vh [0,2,3,4,5,6] (λz tk=>Vi ..) (by decide) _ (λz=>rfl) (λH H z z z=>RO λz z=>lr hz λz z=>True.intro) λsz tk H=>aN7 ..
def l1O(V:LV)(so:aq)(p:Nat->PR)(v:List ag)(s:Int)(b:Bool):aF:= .cons (some 4) (gF 238 [.ref V.S]) [0] [(V.S,so)] (KU V.S so p) λa=>Dc 6 V.S so (a 0) (xG .none (.int 60 (a 1+1)) .none) v λc=>O3 0 (c 2) v 0 s λf=>iR "int.__eq__" (s.fmod 2) 1 b (f 1+1) (f 1+2) λ_=> .nil
noncomputable def l1K(k:Nat->ab)(H:Xs):Nat->ab
 |1=>H 0 1|2=>H 3 1|i=>k i
def l2O(w:aj)(V:LV)(re:Nat)(rows:List FR)(T:Str):aF:= .cons none (TY V.R) [0,1,2,3,4] (f9 V.R re rows) (λx=>⟨.ok (.ret (.str T (x 2))),f9 V.R re rows,[],x 0,x 1⟩) λa=> .cons (some 2) (gF 257 [.str T (a 2)]) [5] [(252,jI #[])] (HM w T) λb=> .cons (some 4) (KV (b 1+7)) [] [] (KW w (b 1+7)) λ_=> .nil
section
variable (w:aj)(L S:af)(V:LV)(so:aq)(d:Option af)(vs v:List ag)(e:Nat)(sl:Array (Option ag))(p:Nat->PR)(s:Int)(b:Bool)(k:Nat->ab)(sz tk re:Nat)(rows:Nat->FR)(T:Str)(σ:Xs)(a:List (af×aq))
def K7(S:af):LV:=nc (⟨S,0,false,"",0,0,0,"",0,0⟩)
end
theorem K8:(∀(w:aj)S sz tk σ a,bA ((aI w 0 0 none 400).S [] σ ⟨a,sz,tk,[], .nil⟩ (ma oX ⟨[.ref S],[]⟩) fin) (.ok [("script", .ref S)],a,sz,tk))/\(∀(w:aj)S sz tk σ a,bA ((aI w 0 0 none 400).S [] σ ⟨a,sz,tk,[2,2], .nil⟩ (md oX.scope oX.globals oX.closure [("script", .ref S)] (oX.qualname++".<locals>.") (some 272) oX.code none oX.builtins) fin) (.ok (ff sz),[(sz+1,b9 none),(sz,(K7 S).aJ w (λi=>tk+i) 1)]++a,sz+2,tk+1))/\(∀(w:aj)L(V:LV)d vs v e sl p s b k sz tk σ,Ends [2,3,4,5,6,7,8] ((aI w 5 0 none 600).S [] σ ⟨[(V.S,iS d vs e sl),(L,V.aJ w k 1)],sz,tk,(dN 20 0x4a45f0004239ce7000e710040),l1O V (iS d vs e sl) p v s b⟩ (aV (cM.take 2) (ff L)) fin) (.ok .next,(f9 (σ 0 2) 4 (gg p (σ 0))++[(V.S,iS d vs e sl),(L,{ V with R:=σ 0 2,b:=b }.aJ w (l1K k σ) 3)]).map some,σ 3 0,σ 3 1+1)):=by and_intros<;>intros<;>kernel_rfl
def E5(x y:Nat->Nat):LX where
 lx:=y 0+1
 ld:=y 0
 sf:=x 1+7
 sd:=x 1+16
 rd:=x 1+15
 c2:=x 1+14
 ce:=x 0+1
 sl:=x 3
 pb:=y 0+3
 n:=1
 e1:=x 4
 tn:=y 1+2
 k1:=y 1+4
 k2:=y 1+6
 k3:=y 1+9
 k4:=y 1+11
 k5:=y 1+7
 k6:=x 2+15
 kq:=x 2+8
 GN:=OS (x 0+1) (.ref (x 1+6)) (.ref (x 1))
 pm:= .str "law_sc0109_01" 652
 ct:= .ref (x 1+8)
 oct:= .type "code"
 GO:=none
 v0:= .str "<lambda>" (x 2+7)
 vr:=OT (x 1) (x 2)
 sR:=#[]
 GP:= .type "cell"
 GQ:=none
 GR:=#[]
abbrev LX.aN9(X:LX)(w:aj)(vs:List ag):List (af×aq):=[(X.lx,dW 227 X.ld),(X.ld,Cz w X.n X.tn X.sf X.pb X.k1 X.k2 X.k3 X.k4 X.k5),(X.sf,GJ X.GN (some X.sd)),(X.sd,GM w X.rd X.k6),(X.rd,GL xj X.ce X.pm X.c2 X.ct),(X.c2,⟨X.oct,X.GO, .fields (X.v0:: .str xj X.kq::X.vr).toArray,X.sR⟩),(X.ce,⟨X.GP,X.GQ, .cell (some (.ref X.sl)),X.GR⟩),(X.sl,listOf vs.toArray X.e1)]
noncomputable def l2K(k:Nat->ab)(H:Xs):Nat->ab
 |3=>H 0 1|4=>H 2 1+12|i=>k i
noncomputable def l3K(k:Nat->ab)(H:Xs):Nat->ab
 |5=>H 0 101+14|i=>k i
noncomputable def l4K(k:Nat->ab)(tk:Nat):Nat->ab
 |6=>tk+2|i=>k i
def wI(c:Nat)(a t u:Nat):NE:=⟨a,bv c,u,⟨#[c]⟩,t⟩
def rU:List NE->List ag
 |[]=>[]|e::es=>rU es++[hM e]
def K9(w:aj)(G:TG)(H:Nat)(Y:List ag)(J:Nat):List Nat->Nat->Nat->Nat->List NE->aF
 |[],_,_,_,_=> .nil|c::cs,i,s,u,es=> .cons (some 2) (JJ G ⟨#[c]⟩ (bv c) s u) [i+1,i+2,i+3,i+4,i+5] (um G w H (rU es) i Y J) (K6 G w H (rU es) i Y J ⟨#[c]⟩ (bv c) s u) λx=>K9 w G H Y J cs (i+1) (x 1) (x 1+3) (wI c (x 2) s u::es)
def Vj:List Nat:=(dN 213 0x9ce7380e0380400018c41c00000e0000e0000ec630c631806018020000b59cc00000600006000065ad65294a0280a010000528c50000028000280002a94a210840100400800025252000001000010000112948c6318060180400010820c000006000060000684204210802008020000738c4000002000020000239ce108420080200801f)
def yL(tk:Nat)(H:Xs):List NE:=[wI 109 (H 5 2) (H 4 1) (H 4 1+3),wI 98 (H 4 2) (H 3 1) (H 3 1+3),wI 99 (H 3 2) (H 2 1) (H 2 1+3),wI 103 (H 2 2) (H 1 1) (H 1 1+3),wI 121 (H 1 2) (H 0 1) (H 0 1+3),wI 114 (H 0 2) (tk+1) (tk+4)]
section
variable (w:aj)(L:af)(V:LV)(k:Nat->ab)(sz tk re:Nat)(r0 r1 r2 r3:FR)(T:Str)(σ:Xs)(G:TG)(na de:Nat)(eO:List ag)
end
theorem La:(∀(w:aj)L(V:LV)k sz tk re r0 r1 r2 r3(T:Str)σ,Ends [1,2,4,5,6,7,8,9,3,0,10,11,12,13,14,15,16,17] ((aI w 6 0 none 600).S [] σ ⟨f9 V.R re [r0,r1,r2,r3]++[(252,jI #[]),(L+1,b9 none),(L,V.aJ w k 3)],sz,tk,(dN 18 0x25284040008080010810100),l2O w V re [r0,r1,r2,r3] T⟩ (aV ((cM.drop 2).take 3) (ff L)) fin) (.ok .next,((E5 (σ 1) (σ 2)).aN9 w (on T.cps.toList.reverse λi=>σ 1 (i+1))++((((E5 (σ 1) (σ 2)).pb,aA [] 0)::(σ 2 0+4,aA [] 0)::f9 V.R re [r0,r1,r2,r3])++[(252,z7 (σ 1 1)),(L+1,b9 (some (.ref (E5 (σ 1) (σ 2)).lx))),(L,{ V with T:=T,t:=σ 0 2,W:=σ 2 0+4 }.aJ w (l2K k σ) 5)])).map some,σ 2 0+5,σ 2 1+13))/\(∀(w:aj)L(V:LV)k sz tk σ,bA ((aI w 5 0 none 600).S [] σ ⟨[(V.W,aA [] 0),(L,V.aJ w k 5)],sz,tk,(dN 18 0x29410003080010840100440), .cons (some 4) (KZ sz V.b) [] [] (K5 w sz V.b) λ_=> .nil⟩ (aV ((cM.drop 5).take 1) (ff L)) fin) (.ok .next,K0 w (uC sz V.b (σ 0))++[(sz,fX V.W),(V.W,aA [] 0),(L,{ V with tg:=(uC sz V.b (σ 0)).tg }.aJ w (l3K k σ) 6)],σ 0 100+3,σ 0 101+15))/\(∀(w:aj)L(V:LV)k sz tk σ(G:TG)na de eO,Ends [2,3,4,5,6,7,9,10,11,12,13,14] ((aI w 4 0 none 900).S [] σ ⟨um G w na [] 0 eO de++[(L,{ V with tg:=G.tg }.aJ w k 6)],sz,tk,Vj,K9 w G na eO de [114,121,103,99,98,109] 0 (tk+1) (tk+4) []⟩ (aV ((cM.drop 6).take 1) (ff L)) fin) (.ok .next,((yL tk σ).map (λe:NE=>(e.t,fA e))++(um G w na (rU (yL tk σ)) 6 eO de++[(L,{ V with tg:=G.tg,sx:="m",tx:=σ 4 1 }.aJ w (l4K k tk) 7)])).map some,σ 5 0+2,σ 5 1)):=by and_intros<;>intros<;>kernel_rfl
abbrev E6(x y:Str)(t u:ab)(b:Bool)(next:aM):aF:=cK "str.__ne__" [.str x t, .str y u] (λ_=> .bool b) next
def aOa(t:Bool):List Nat:=(dN 23 0x210840107c21080200840000000)++((match t with
 |true=>[]|false=>[3,3,777,0,3,0,3])++(dN 128 0x18c7188463180601804210040100c50000028000280002b82118c6318c6018060108401004031400000a0000a0000ae0846318c63180601804210040100c50000028000280002b82118c6318c6018060))
abbrev dE:Str:=nc (⟨([]:List Nat).toArray⟩)
def l9O(w:aj)(X:LX)(l:List (Nat×ab))(t1 t2:ab)(e2:Nat)(N:Int):aF:= .cons (some 2) (pX X) [4,5,12] (X.im w [.str dE t1, .str "h" t2] e2) (zT X w dE t1 (some ("h",t2)) e2) λ_=> .cons (some 2) (pX X) [4,5,12] (X.im w [.str "h" t2] (e2+1)) (zT X w "h" t2 none (e2+1)) λ_=> .cons (some 8) (pX X) [4,5,6,7,8,9,10,11,12] (X.cC w l [] (e2+2)) (m7 X w [] [] (e2+2) [] N) λ_=> .nil
noncomputable def l9K(k:Nat->ab)(H:Xs):Nat->ab
 |7=>H 2 1|i=>k i
section
variable (w:aj)(L:af)(V:LV)(k:Nat->ab)(sz tk re e e2:Nat)(σ:Xs)(X:LX)(l rest:List (Nat×ab))(W:List Nat)(N:Int)(wv:List ag)(S D:Str)(t1 t2:ab)(r0 r1 r2 r3:FR)(x:Str)
abbrev l9R:Rs (Except ag dk×WS):=(aI w 9 0 none 900).S [] σ ⟨X.cC w l [.str dE t1, .str "h" t2] e2++[(L+1,b9 (some (.ref X.lx))),(L,V.aJ w k 7)],sz,tk,aOa (w.params.followText "comprehension-iter-twice"),l9O w X l t1 t2 e2 N⟩ (aV ((cM.drop 11).take 1) (ff L)) fin
theorem aOb:Ends [3,6,7,8,9,10,11,12,13,14,15,16] (l9R w L V k sz tk e2 σ X l N t1 t2) (.ok .next,((sz+2,listOf [ag.str dE t1, .str "h" t2, .str dE (σ 2 2)].toArray 3)::(LX.cC { X with n:=N,tn:=σ 2 3,e1:=σ 2 4 } w [] [] (e2+2)++[(L+1,b9 (some (.ref X.lx))),(L,{ V with E:=sz+2 }.aJ w (l9K k σ) 8)])).map some,σ 2 0+2,σ 2 1+1):=by revert w;refine byRow2 "comprehension-iter-twice" (λw=>?_) (λw=>?_)<;>kernel_rfl
end
theorem Lb:(∀(w:aj)L(V:LV)k sz tk e2 σ(X:LX)l rest N,bA ((aI w 9 0 none 600).S [] σ ⟨X.cC w l [] e2++[(L+1,b9 (some (.ref X.lx))),(L,V.aJ w k 7)],sz,tk,(dN 20 0x17c401040000020000200002a), .cons (some 8) (pX X) (fH 9) (X.cC w l [] e2) (m7 X w rest [] e2 [48] N) λa=>E6 ⟨[48].toArray⟩ "0" (a 2) (a 1) false λ_=> .nil⟩ (aV ((cM.drop 7).take 1) (ff L)) fin) (.ok .next,LX.cC { X with n:=N,tn:=σ 0 3,e1:=σ 0 4 } w rest [] e2++[(L+1,b9 (some (.ref X.lx))),(L,V.aJ w k 7)],σ 1 0,σ 1 1))/\(∀(w:aj)L(V:LV)k sz tk re e σ(H:List ag)S r0 r1 r2 r3,bA ((aI w 9 0 none 600).S [] σ ⟨(V.W,listOf H.toArray e)::(L,V.aJ w k 7)::f9 V.R re [r0,r1,r2,r3],sz,tk,[2,2,0,2,2,0,2,777,2],Bl [0] V.W "" tk H e S λa=> .cons none (gF 267 [.ref V.R, .bool V.b]) [2,3,4,5,6] (f9 V.R re [r0,r1,r2,r3]) (λx=>⟨.ok (.ret (.str S (x 2))),f9 V.R re [r0,r1,r2,r3],[],x 0,x 1⟩) λb=>E6 S S (a 2) (b 2) false λ_=> .nil⟩ (aV ((cM.drop 9).take 1) (ff L)) fin) (.ok .next,(V.W,listOf H.toArray e)::(L,V.aJ w k 7)::f9 V.R re [r0,r1,r2,r3],σ 2 0,σ 2 1))/\(∀(w:aj)L(V:LV)k sz tk e2 σ(X:LX)t1 x,bA ((aI w 5 0 none 600).S [] σ ⟨X.im w [.str x t1] e2++[(L+1,b9 (some (.ref X.lx))),(L,V.aJ w k 7)],sz,tk,(dN 18 0x4010400000200002000024), .cons (some 2) (zR X "h" tk) (fH 3) (X.im w [.str x t1] e2) (zU X w "h" tk (some (x,t1)) e2) λ_=> .nil⟩ (aV ((cM.drop 10).take 1) (ff L)) fin) (.ok .next,X.im w [.str x t1, .str "h" tk] (e2+1)++[(L+1,b9 (some (.ref X.lx))),(L,V.aJ w k 7)],σ 0 0,σ 0 1)):=by and_intros<;>intros<;>kernel_rfl
def oY:FuncData:=match sC.1.data with
 | .func f=>f|_=>default
theorem Vk(w:aj):(K w.params).lookup 262=some ⟨sC.1.cls,sC.1.dict, .func oY,sC.1.slots⟩:=by kernel_rfl
abbrev Lc:Str:=nc ("_law_tell")
def nH:Scope:=nc (oY.scope)
theorem aOc(L:Nat):kB L=sy Lc ⟨.function,nH.names,nH.isGenerator,nH.isCoroutine,nH.more⟩ L 262 oY.code []:=by kernel_rfl
abbrev aOd(X:LX)(G:TG)(d:Int)(r g b:UInt64)(t1 t2 H J:ab):Args:=nc (⟨[.ref X.lx, .ref G.tg, .int d t1, .float r t2, .float g H, .float b J],[]⟩)
abbrev Ld(X:LX)(G:TG)(d:Int)(r g b:UInt64)(t1 t2 H J:ab):List (Str×ag):=nc ([("lexer", .ref X.lx),("target", .ref G.tg),("deep", .int d t1),("red", .float r t2),("green", .float g H),("blue", .float b J)])
abbrev uD(r g b:UInt64)(t2 H J:ab):DS:=nc (⟨r,g,b,t2,H,J,[],0,0,0,0,0,0,0,0,0,0,0,0,0,0⟩)
abbrev Le(L tk:Nat)(X:LX)(G:TG)(d:Int)(t1:ab):TF:=nc (⟨L,X.lx,G.tg,d,t1,"",0,λi=>tk+i.val⟩)
section
variable (w:aj)(o:aq)(G:TG)(S:SX)(dv:List ag)(de:Nat)(X:LX)(l:List (Nat×ab))(e2:Nat)(d:Int)(r g b:UInt64)(t1 t2 t3 t4:ab)(L' tk:Nat)(σ:Xs)
end
noncomputable def ax.g(κ:ax):Nat:=match κ.c with
 |0=>0|_=>1
variable {g:UInt64}
theorem ax.g2(κ:ax):κ.g=0\/κ.g=1:=by rcases κ with ⟨f,_|c,x⟩<;>first|exact .inl rfl|exact .inr rfl
def Vl(c:Nat):List Nat:=match c with
 |0=>Ie|_=>Pn
def Vm(c:Nat):Nat:=nc (match c with
 |0=>1|_=>4)
def hlM(c:Nat):Nat:=nc (match c with
 |0=>0|_=>4)
theorem aOe(w:aj)(T:TF)(D:DS)(h l p m:UInt64)(k:Int)(x c:Nat)(Y:c=0\/c=1)(sz tk:Nat)(H:Xs)(f:Nat)(J:f=1\/f=2):Ends [4] ((aI w 8 0 none 900).S [] H ⟨[(T.L,T.aJ w D f)],sz,tk,Vl c,Ak D h l p m k x c⟩ (aV ((iw.drop 2).take 3) (kB T.L)) fin) (.ok .next,[some (T.L,T.oA w D (xO h l p x c H) f 0)],H (Vm c) 0,H (Vm c) 1+hlM c):=by
 rcases Y with rfl|rfl
 ·exact aEe w T D h l p m k x sz tk H f J
 ·exact aEf w T D h l p m k x sz tk H f J
theorem aOf(κ:ax)(h l p:UInt64)(H:Xs):(xO h l p κ.x κ.g H).tag=κ.tag:=by rcases κ with ⟨f,_|c,x⟩<;>rfl
theorem aOg(κ:ax):rB κ.g κ.x=κ.tag:=by rcases κ with ⟨f,_|c,x⟩<;>rfl
def iZ(b:Bool)(p:Option Str):List Str:=match p with
 |none=>[]|some x=>oP b x
abbrev wJ(κ:ax)(G:TG)(y:Nat->Nat):List (af×aq):=(y 2,aA [] 0)::(κ.ex y++[(G.ds+1+y 11,aA (κ.aX y) (0+κ.lO))])
abbrev Bv(κ:ax)(w:aj)(G:TG)(S:SX)(H:List Str)(a:AT)(y:Nat->Nat):Out:=⟨.ok (.ret .none),A4 κ w G a S H (G.ds+1+y 11) y,wJ κ G y,y 0,y 1⟩
def oZ(b:Bool)(p:Option Str):Prop:=∀x,p=some x->x.length<=100/\(iY b x).length<=100
theorem aOh{k:KX}{h:aw}(ok:k.Ok w)(hL:k.aa.objs.size<=k.L)(hn:k.dp+10< bk)(hU:U+400< dP)(aZ:∀b o,k.aa.get? b=some o->h.get? b=some o)(κ:ax)(G:TG)(H:Bool)(S:SX)(a:AT)(t u:ab)(p:Option Str)(de:Nat)(bZ:∀p∈G.ro++κ.lx,h.get? p.1=some p.2/\p.1≠k.L/\k.aa.get? p.1=none)(f6:((G.ro++κ.lx).map (·.1)).Nodup)(J:fP G S xs kk)(Z:kk<=100)(F:κ.Fits xs)(ha:qi a)(fp:S.wv.length<=890)(hp:oZ G.b p)(Lf:p≠none->H=true):Told True (av w) k.bE U (some k.L) h (.call (.ref 120) (ym (G.run H) a κ.tag t)) (nw w (G.run H) a S [(123,κ.o)] (jy p u) de) (λy=>⟨.ok (.ret .none),(Bv κ w (G.run H) S (iZ G.b p) a y).post,(Bv κ w (G.run H) S (iZ G.b p) a y).new,(Bv κ w (G.run H) S (iZ G.b p) a y).sz,(Bv κ w (G.run H) S (iZ G.b p) a y).tk⟩):=by
 have g:∀ta,(G.run H).ds< ta->(gW (fO (G.run H)) S.wm).Ok ta []:=λta h=>have g:=J.start ta h;⟨g.hy,g.jr,g.jR,g.mE,g.oz,g.hz,g.tV,g.ra,g.rb,g.rf,g.rh⟩;have Y:κ.Ok (fO (G.run H)) S.wm:=by have Y:=(J.kin F).g;exact⟨Y.imp id (YA (λ⟨a,b,c,d⟩=>⟨a,b,⟨c.hx,c.ni,c.fW,c.hex⟩,d⟩) λ⟨a,c,d⟩=>⟨a,⟨c.hx,c.ni,c.fW,c.hex⟩,d⟩)⟩
 have h1:=aT [lE Y1 100,lE Y0 (10+Y1)] (lE Y0 900) rfl Z J.hd;have h2:S.cv.length<=900:=J.hk▸aE Z (dF ..);have h3:=aT [lE Y1 100,lE Y0 (10+Y1)] (lE Y0 900) rfl Z J.hn;induction p with
 |none=>exact q8 (aI9 κ w _ a S t de g Y ha h1 h2 fp h3) ok hL hn hU aZ (.refl _) bZ f6 (λz=>⟨rfl,rfl,rfl,rfl, .refl _⟩) (λz=>rfl)|some x=>
  obtain rfl:=Lf nofun
  obtain⟨hx,hy⟩:=hp x rfl;exact q8 (aJa κ w _ a S t u x de g Y ha hx hy h1 h2 fp h3) ok hL hn hU aZ (.refl _) bZ f6 (λz=>⟨rfl,rfl,rfl,rfl, .refl _⟩) (λz=>rfl)
theorem E7(x:α)(A R:List α):(x::A++R).Perm (A++x::R):=lh.symm
abbrev ax.rV(κ:ax)(G:TG)(y:Nat->Nat):EX:=nc (⟨G.ds+1+y 11,κ.aX y,0+κ.lO,G.cT.map λl=>aN l.a,G.aL.map λl=>aN l.a,y 2⟩)
noncomputable abbrev TG.at_(G:TG)(rn:Bool)(y:Nat->Nat):TG:={ G with rs:=true,rn:=rn,dep:=y 5,ei:=y 6 }
abbrev SX.mP(S:SX):SX:=nc ({ S with cv:=S.cv++[dX false] })
abbrev Vn(κ:ax)(w:aj)(G:TG)(S:SX)(b:Bool)(Y H:List Str)(y J:Nat->Nat):(Nat->Nat)->Out:=λz=>⟨.ok (.ret .none),(En w ((κ.G3 G y).at_ false J) (S.mP.bV H J) (κ.rV G y) κ.g κ.x b Y z).drop 1,[],z 0,z 1⟩
theorem aOi{k:KX}{h:aw}(ok:k.Ok w)(hL:k.aa.objs.size<=k.L)(hn:k.dp+9< bk)(hU:U+360< dP)(aZ:∀b o,k.aa.get? b=some o->h.get? b=some o)(κ:ax)(G:TG)(S:SX)(t u:ab)(p:Option Str)(de:Nat)(H:List Str)(y J:Nat->Nat)(bZ:∀p∈(G.ds+1+y 11,aA (κ.aX y) (0+κ.lO))::(κ.G3 G y).ro,h.get? p.1=some p.2/\p.1≠k.L/\k.aa.get? p.1=none)(f6:(((G.ds+1+y 11,aA (κ.aX y) (0+κ.lO))::(κ.G3 G y).ro).map (·.1)).Nodup)(Z:fP G S xs kk)(Y:kk<=100)(F:κ.Fits xs)(fp:(S.wv++bn H J).length<=890)(hp:oZ G.b p)(b:Bool)(hb:((((kk+1:Nat):Int)==1)=b)):Told True (av w) k.bE U (some k.L) h (Sv G κ.tag t) (A8 w ((κ.G3 G y).at_ false J) (S.mP.bV H J) (κ.rV G y) (jy p u) de) (Vn κ w G S b (iZ G.b p) H y J):=by
 have hd:=Z.hd;have rm:=Z.hn;have g:(gW ((κ.G3 G y).at_ false J) (S.mP.bV H J).wm).Ok (κ.rV G y).ta (κ.rV G y).aX:=have g:=Z.Tc Y F y _ (fF ..);⟨g.hy,g.jr,g.jR,g.mE,g.oz,g.hz,g.tV,g.ra,g.rb,g.rf,g.rh⟩;have hc:κ.g=0\/(κ.g=1/\(gW ((κ.G3 G y).at_ false J) (S.mP.bV H J).wm).Tag κ.x/\∃e∈((κ.G3 G y).at_ false J).ents,e.u=bv κ.x):=by
  rcases κ.g2 with h|h
  ·exact .inl h
  ·have hc:κ.c≠0:=λq=>by unfold ax.g at h;replace h:=q▸h;injection h
   have hx:κ.x∈dR:=by
    rcases F.g with h|⟨j,j,h2,j⟩|⟨j,h2,j⟩
    ·exact absurd h hc
    ·exact h2
    ·exact h2
   have t:=Z.Td F y κ.x hx;exact .inr ⟨h,⟨t.hx,t.ni,t.fW,t.hex⟩,Z.aJ4 F y hc⟩
 have hk:(S.mP.bV H J).cv.length=kk+1:=by refine rR bQ (rR Z.hk ?_);rfl
 have ng:(κ.rV G y).wi++[aN (κ.rV G y).na]=((κ.G3 G y).at_ false J).aL.map λl=>aN l.a:=by simp only[bM];rfl
 refine rL (aOg ..) ?_;induction p with
 |none=>exact q8 (ent w _ _ _ κ.g κ.x _ b "" t u de 0 hc (.inl rfl) g (by decide) (by induction G.b<;>decide+kernel) rfl ng (rR (dA ..) (aT [lE Y1 100,lE Y0 (10+Y1)] (lE Y0 1000) rfl Y rm)) (aT [lE Y1 100,lE Y0 (10+Y1)] (lE Y0 900) rfl Y hd) hk (bu [lE Y0 100] (lE (Y0+1) 900) rfl Y) hb fp) ok hL hn hU aZ (E7 ..) bZ f6 (λz=>⟨rfl,rfl,rfl,rfl,E7 ..⟩) (λz=>rfl)|some x=>exact d7 (hp x rfl) λhx H=>q8 (ent w _ _ _ κ.g κ.x _ b x t u de 1 hc (.inr rfl) g hx H rfl ng (rR (dA ..) (aT [lE Y1 100,lE Y0 (10+Y1)] (lE Y0 1000) rfl Y rm)) (aT [lE Y1 100,lE Y0 (10+Y1)] (lE Y0 900) rfl Y hd) hk (bu [lE Y0 100] (lE (Y0+1) 900) rfl Y) hb fp) ok hL hn hU aZ (E7 ..) bZ f6 (λz=>⟨rfl,rfl,rfl,rfl,E7 ..⟩) (λz=>rfl)
theorem Vo:(∀(w:aj)o G S dv de X l e2 d r g b t1 t2 t3 t4 L' tk σ,Ends (fH (gu w o G S dv de X l [] e2).length) ((aI w 0 0 none 400).S [] σ ⟨gu w o G S dv de X l [] e2,L',tk,[], .nil⟩ (ma oY (aOd X G d r g b t1 t2 t3 t4)) fin) (.ok (Ld X G d r g b t1 t2 t3 t4),(gu w o G S dv de X l [] e2).map some,L',tk))/\(∀(w:aj)o G S dv de X l e2 d r g b t1 t2 t3 t4 L' tk σ,Ends [1,2,3,4,5,6,7,8,9,10,11,12,13,14,15,16,17,18,0] ((aI w 0 0 none 400).S [] σ ⟨gu w o G S dv de X l [] e2,L',tk,(dN 12 0x84210842108421), .nil⟩ (md oY.scope oY.globals oY.closure (Ld X G d r g b t1 t2 t3 t4) (oY.qualname++".<locals>.") (some 262) oY.code none oY.builtins) fin) (.ok (sy Lc ⟨.function,nH.names,nH.isGenerator,nH.isCoroutine,nH.more⟩ L' 262 oY.code []),(gu w o G S dv de X l [] e2++[(L',(Le L' tk X G d t1).f0 w (uD r g b t2 t3 t4))]).map some,L'+1,tk+6)):=by and_intros<;>intros<;>kernel_rfl
structure mQ where
 d:Int
 r:UInt64
 g:UInt64
 b:UInt64
 F:List Nat
 Dv:DS
 f:Nat
 h:UInt64
 lg:UInt64
 pu:UInt64
 m:UInt64
 ki:Int
 I1:SI
 I2:SI
 I3:SI
 J:Str
 J1:SI
 J2:SI
 J3:SI
 l:List (Nat×ab)
 l1:List (Nat×ab)
 l2:List (Nat×ab)
 W:List Nat
noncomputable abbrev mQ.at_(V:mQ):AT:=⟨0,0,⟨V.F.toArray⟩,V.J,V.J1.s,V.J2.s,V.J3.s,0,0,0,0,0,0,0,0,0,0⟩
structure mQ.Ok(w:aj)(V:mQ)(κ:ax):Prop where
 rel:fb V.l1 V.l V.F
 hz:V.l.length<=1000
 hF:V.F.length<=30
 hf:V.f=1\/V.f=2
 aOj:∀aa:aw,aK w aa->aa.NoLimit->∀(T:TF)(X:LX)(t2 t3 t4:ab)(e2:Nat)(N2:Int),N2=X.n+(aL V.l1 - aL V.l2)->Any True w aa 10 (qU T.L) (ip T X w (uD V.r V.g V.b t2 t3 t4) 0 V.l1 [] e2) (iq T X w V.Dv V.W V.l2 N2 V.f e2)
 hl:∀aa:aw,aK w aa->aa.NoLimit->JQ True w aa V.Dv.r V.Dv.g V.Dv.b V.h V.lg V.pu V.m V.ki κ.x κ.g
 co:JP V.I1 V.I2 V.I3 V.Dv V.J
 j1:V.J1.Ok V.pu 1024
 j2:V.J2.Ok V.lg 4194304
 j3:V.J3.Ok V.h 64
 cl:V.J.length<=30
 sl:V.J1.s.length<=30
 ll:V.J2.s.length<=30
 HD:V.J3.s.length<=30
def ax.p(κ:ax)(n:Nat):Obj:=match κ.f with
 |none=>iz n|some p=>iz (p.1+5)
variable {p:PR}
noncomputable def ax.q(κ:ax)(y:Nat->Nat):Nat×Nat:=match κ.f with
 |none=>(y 6,y 7)|some p=>p
theorem ax.aOk(κ:ax)(y:Nat->Nat):κ.o' y=iz ((κ.q y).1+5):=by rcases κ with ⟨_|p,c,x⟩<;>rfl
theorem ax.p_q(κ:ax)(y:Nat->Nat):κ.p ((κ.q y).1+5)=iz ((κ.q y).1+5):=by rcases κ with ⟨_|p,c,x⟩<;>rfl
open Classical in
theorem aOl(A a e B C c N H L lx:List α)(h:(H=L++e/\lx=[])\/(H=e/\lx=L)):cF (((A++a)++((e++B)++((C++c)++N)))++L) ((c++(H++a))++((A++(B++(C++N)))++lx)):=by rw[jf];intro x;rcases h with ⟨rfl,rfl⟩|⟨rfl,rfl⟩<;>simp only[ie,List.count_nil,aV9]<;>ac_rfl
theorem aOm(κ:ax)(G:TG)(y:Nat->Nat):((κ.G2 G y).ro++uu (κ.q y)).Perm (wJ κ G y++(G.ro++κ.lx)):=by
 have h:=aOl (G.cT.map λl=>(l.a,listOf l.items.toArray l.ep)) [(G.ds+1+y 11,listOf (κ.aX y).toArray (0+κ.lO))] ((κ.es y).map λe=>(e.t,fA e)) (G.ents.map λe=>(e.t,fA e)) (G.aL.map λl=>(l.a,listOf l.items.toArray l.ep)) [(y 2,listOf ([]:List ag).toArray 0)] (G.nh.map λe=>(e.t,fA e)) (κ.ex y) (uu (κ.q y)) κ.lx (by
  rcases κ with ⟨_|p,_|_|_|c,x⟩<;>first|exact .inl ⟨rfl,rfl⟩|exact .inr ⟨rfl,rfl⟩);have e:(κ.G2 G y).ro=((G.cT.map λl=>(l.a,listOf l.items.toArray l.ep))++[(G.ds+1+y 11,listOf (κ.aX y).toArray (0+κ.lO))])++((((κ.es y).map λe=>(e.t,fA e))++G.ents.map λe=>(e.t,fA e))++(((G.aL.map λl=>(l.a,listOf l.items.toArray l.ep))++[(y 2,listOf ([]:List ag).toArray 0)])++G.nh.map λe=>(e.t,fA e))):=by
  show _++_=_;simp only[bM,bM,bM];rfl
 exact rR e h
open Classical in
theorem aOn(A:List α)(a:α)(R:List α):(a::(A++R)).Perm ((A++[a])++R):=by simp only[bH];exact lh.symm
theorem aOo(κ:ax)(G:TG)(y:Nat->Nat):((G.ds+1+y 11,listOf (κ.aX y).toArray (0+κ.lO))::(κ.G3 G y).ro).Perm (κ.G2 G y).ro:=by
 have e:(κ.G2 G y).ro=((G.cT.map λl=>(l.a,listOf l.items.toArray l.ep))++[(G.ds+1+y 11,listOf (κ.aX y).toArray (0+κ.lO))])++(((κ.es y++G.ents).map λe=>(e.t,fA e))++(((G.aL++([⟨y 2,0,[]⟩]:List LS)).map λl=>(l.a,listOf l.items.toArray l.ep))++G.nh.map λe=>(e.t,fA e))):=by show _++_=_;refine rR bM ?_;rfl
 simp only[e];exact aOn ..
theorem Vp(κ:ax)(w:aj)(o:aq)(G:TG)(S:SX)(y H:Nat->Nat)(J:List Str)(Z:List ag)(Y:Nat):mJ w o ((κ.G2 G y).bV false H) (S.mP.bV J H) Z Y=[(123,o),(G.tg,dW 150 G.td),(G.td,fk w (.ref S.wm) G.b true false G.dl G.ds G.ns G.pm G.ps G.ti G.ep G.kt),(G.ds,aA ((G.cT.map λl=>aN l.a)++[aN (G.ds+1+y 11)]) (H 5)),(G.ns,aA ((G.aL.map λl=>aN l.a)++[aN (y 2)]) (H 6)),(G.dl,aA Z Y),(S.wm,fX S.wl),(S.wl,aA (S.wv++bn J H) (H 8)),(G.ps,aA (S.cv++[dX false]++[dX false]) (H 9))]:=by show [_,_,_,_,_,_,_,_,_]=_;simp only[bM,bM];rfl
def mQ.outs(V:mQ)(κ:ax)(b:Bool)(p p2:Option Str)(H:List Str):List Str:=iZ b p++κ.ws V.at_++H++(iZ b p2++["</"++oQ κ.g κ.x++">"])
theorem aOp(κ:ax)(a v:AT)(e:nt a=nt v):κ.ws a=κ.ws v:=by unfold ax.ws wc;rw[e]
theorem Vq{N m:Nat}(hN:n+1<=N)(jp:14<=N)(V:mQ)(κ:ax)(hV:V.Ok w κ)(G:TG)(H:Bool)(S:SX)(X:LX)(p p2:Option Str)(u t1 t2 t3 t4:ab)(de e2:Nat)(xs:List Nat)(l':List (Nat×ab))(W':List Nat)(o2:List Str)(bb:Bool)(SK:fP G S xs kk)(jB:kk<=90)(F:κ.Fits xs)(hp:oZ G.b p)(fW:oZ G.b p2)(Lf:p≠none->H=true)(hz:S.wv.length+(V.outs κ G.b p p2 o2).length<=880)(hb:((((kk+1:Nat):Int)==1)=bb))(KR:rF w n (κ.xs xs) (kk+1) G.b V.d V.Dv.r V.Dv.g V.Dv.b l' W' p2 m (some ⟨V.F.toArray⟩) V.l2 V.W o2):nV w (Eo X (G.run H) V.d V.r V.g V.b t1 t2 t3 t4) N (gu w κ.o (G.run H) S (jy p u) de X V.l [] e2++(G.ro++κ.lx)) (λy=>⟨.ok (.ret .none),gu w (κ.p (y 23)) (G.bV bb y) (S.bV (V.outs κ G.b p p2 o2) y) [] (y 7) (X.bV (X.n+(aL V.l - aL l')) y) l' [.str ⟨W'.toArray⟩ (y 22)] (y 10)++(G.ro++κ.lx),[],y 0,y 1⟩):=by
 refine yd (q:=Lc) (nms:=nH.names) (xe:=nH.isGenerator) (xf:=nH.isCoroutine) (xg:=nH.more) (λ_=>[]) (Vk w) rfl rfl (body:=iw) (by kernel_rfl) (by kernel_rfl) (Ld X (G.run H) V.d V.r V.g V.b t1 t2 t3 t4) [] (Vo.1 w κ.o (G.run H) S (jy p u) de X V.l e2 V.d V.r V.g V.b t1 t2 t3 t4) (λL tk=>[(L,(Le L tk X (G.run H) V.d t1).f0 w (uD V.r V.g V.b t2 t3 t4))]) 1 6 (dN 12 0x84210842108421) _ (by decide) (Vo.2 w κ.o (G.run H) S (jy p u) de X V.l e2 V.d V.r V.g V.b t1 t2 t3 t4) (postA:=λy=>gu w (κ.p (y 23)) (G.bV bb y) (S.bV (V.outs κ G.b p p2 o2) y) [] (y 7) (X.bV (X.n+(aL V.l - aL l')) y) l' [.str ⟨W'.toArray⟩ (y 22)] (y 10)) (λ_=>rfl) (λ_=>rfl) ?_;intro k tk s ak Q' E ar ok hL bz jv aZ bZ f6 SR gG jT dm;rw[<-aOc,aJy];have X1:aK w ar:=λb o e=>aZ _ _ (ok.X b o e);have aU:ar.NoLimit:=ok.T.nolimit.keeps aZ;let T0:=Le k.L tk X (G.run H) V.d t1;have S1:ay True ar ak ((X.cC w V.l [] e2++[(k.L,T0.f0 w (uD V.r V.g V.b t2 t3 t4))])++mJ w κ.o (G.run H) S (jy p u) de) s:=lN SR (ix:=[9,10,11,12,13,14,15,16,17,18,0,1,2,3,4,5,6,7,8]) (by decide) rfl;refine da ?_;refine fN (fr:=none) S1 X1 aU rfl 12 900 SF [0,1,2,3,4,5,6,7,8,9] (JM w T0 X (uD V.r V.g V.b t2 t3 t4) V.Dv V.l V.l1 V.l2 V.W V.F (X.n+(aL V.l - aL V.l1)) (X.n+(aL V.l - aL V.l1)+(aL V.l1 - aL V.l2)) V.f e2) (λaQ _ X2 N2 _=>aJ2 X2 N2 hV.rel hV.hz (aE hV.hF (by decide)) rfl rfl λT X e=>hV.aOj aQ X2 N2 T X t2 t3 t4 e2 _ e) (by show k.dp+12<=_;exact b7 [lE 14 Y2,lL (Y0+Y2) (Y1+1)] (lE (Y0+12) Y1) rfl jp bz) (by decide) (λ_=> .next) _ _ _ (λσ=>aJq w T0 X (uD V.r V.g V.b t2 t3 t4) V.Dv V.l V.l1 V.l2 V.W V.F _ _ V.f hV.hf e2 _ _ σ) λσ s1 S2 _ _ xM=>?_;let Y:=T0.rD V.F (σ 0);let D1:=V.Dv.ext V.W (σ 1);let X2:LX:={ X with n:=X.n+(aL V.l - aL V.l1)+(aL V.l1 - aL V.l2),tn:=σ 1 3,e1:=σ 1 4 }
 have S3:ay True ar ak ([(Y.L,Y.aJ w D1 V.f)]++(X2.cC w V.l2 [.str ⟨V.W.toArray⟩ (σ 1 22)] (e2+1)++mJ w κ.o (G.run H) S (jy p u) de)) s1:=lN S2 (ix:=[9,0,1,2,3,4,5,6,7,8,10,11,12,13,14,15,16,17,18]) (by decide) rfl;refine da ?_;refine fN (fr:=none) S3 X1 aU rfl 8 900 (Vl κ.g) [4] (Ak D1 V.h V.lg V.pu V.m V.ki κ.x κ.g) (λaQ _ X2 N2 _=>aJ0 (hV.hl aQ X2 N2)) (by show k.dp+8<=_;exact b7 [lE 14 Y2,lL (Y0+Y2) (Y1+1)] (lE (Y0+8) Y1) rfl jp bz) (by decide) (λ_=> .next) (λσ=>[(Y.L,Y.oA w D1 (xO V.h V.lg V.pu κ.x κ.g σ) V.f 0)]) _ _ (λσ=>aOe w Y D1 V.h V.lg V.pu V.m V.ki κ.x κ.g κ.g2 _ _ σ V.f hV.hf) λhH s2 S4 _ _ JC=>?_;let H0:=xO V.h V.lg V.pu κ.x κ.g hH;refine da ?_;refine fN (fr:=none) S4 X1 aU rfl 8 900 (Po (w.params.followText "comprehension-iter-twice")) [6] (Ii D1 V.I1 V.I2 V.I3 V.J s2.heap.objs.size s2.toks) (λaQ _ X2 N2 _=>aJ1 (D:=D1) ⟨hV.co.u,hV.co.v,hV.co.w,hV.co.j,hV.co.tl,hV.co.jl⟩) (by show k.dp+8<=_;exact b7 [lE 14 Y2,lL (Y0+Y2) (Y1+1)] (lE (Y0+8) Y1) rfl jp bz) (by decide) (λ_=> .next) (λσ=>[(Y.L,Y.oA w D1 { H0 with col:=V.J,tc:=σ 9 2,kc:=σ 9 1 } V.f 1)]) _ _ (λσ=>aEg w Y D1 H0 V.I1 V.I2 V.I3 V.J _ _ σ V.f hV.hf) λzv s3 S5 _ _ Ka=>?_;let H1:HS:={ H0 with col:=V.J,tc:=zv 9 2,kc:=zv 9 1 }
 have Vr:H1.tag=κ.tag:=aOf κ V.h V.lg V.pu hH;have S6:ay True ar ak ((mJ w κ.o (G.run H) S (jy p u) de++[(Y.L,Y.oA w D1 H1 V.f 1)])++X2.cC w V.l2 [.str ⟨V.W.toArray⟩ (σ 1 22)] (e2+1)) s3:=lN S5 (ix:=[10,11,12,13,14,15,16,17,18,0,1,2,3,4,5,6,7,8,9]) (by decide) rfl;have kr:S.wv.length<=890:=by exact aT [lE (Y0+Y1) 880] (lE Y0 890) rfl hz
 have fM:1< s3.heap.objs.size:=iH (by decide:1<=262) (dH (S6.h.keep _ _ (X1 _ _ (Vk w))));refine da ?_;refine dq (fr:=some Y.L) S6 X1 aU rfl 12 900 SG (JN w Y H1 (G.run H) S κ.o (jy p u) de V.J1 V.J2 V.J3 s3.heap.objs.size s3.toks (λa y=>Bv κ w (G.run H) S (iZ G.b p) a y)) (λaQ sub Lg N2 _=>?_) (by show k.dp+12<=_;exact b7 [lE 14 Y2,lL (Y0+Y2) (Y1+1)] (lE (Y0+12) Y1) rfl jp bz) (λ_=> .next) _ _ _ (λσ=>aJr w Y X2 D1 H1 (G.run H) S κ.o V.f hV.hf (jy p u) de V.J1 V.J2 V.J3 _ _ _ σ) λyw s4 S7 _ _ lv4=>?_
 ·unfold JN;refine yt hV.j1 λa _=>yt hV.j2 λb _=>yt hV.j3 λc _=>⟨rfl,by decide,?_,λ_ _ _=>True.intro⟩;show Told True (av w) k.bE k.bE.units (some k.L) aQ (.call (.ref 120) (ym (G.run H) _ H1.tag H1.tt)) _ _;rw[Vr];exact aOh ok hL (by exact b7 [lE 14 Y2,lL (Y0+Y2) (Y1+1)] (lL (Y0+10) Y1) rfl jp bz) (by show k.un+400< dP;exact cz [lE 14 Y2,lL (Y0+(.m 40 Y2)) (Y1+3)] (lL (Y0+400) Y1) [40,1] 1 rfl jp jv) (λb o e=>sub.st _ _ (aZ b o e)) κ G H S (oU Y H1 V.J1 V.J2 V.J3 s3.heap.objs.size s3.toks a b c) H1.tt u p de (λp hp=>⟨sub.st _ _ (bZ p hp).1,(bZ p hp).2⟩) f6 SK (by exact bu [lE Y0 90] (lE Y0 100) rfl jB) F ⟨(by show(s3.heap.objs.size==1)=false;exact beq_false_of_ne (by exact jc (bu [lL 1 Y0] (lL 1 Y0) rfl fM))),hV.hF,hV.cl,hV.sl,hV.ll,hV.HD⟩ kr hp Lf
 let H:AT:=oU Y H1 V.J1 V.J2 V.J3 s3.heap.objs.size s3.toks (yw 2) (yw 5) (yw 8);let y:Nat->Nat:=yw 9;have ews:κ.ws H=κ.ws V.at_:=aOp κ H V.at_ rfl;let Z:=iZ G.b p++κ.ws V.at_;let yy:Nat->Nat:=ww (λi=>match i with|3=>σ 1 3|4=>σ 1 4|5=>G.dep+1|6=>G.ei+1|7=>y 13+1|8=>y 14|9=>S.dC+1|10=>e2+1|22=>σ 1 22|_=>0) y;have S8:ay True ar ak (wJ κ G y++(([(123,κ.o' y),(G.tg,dW 150 G.td),(G.td,fk w (.ref S.wm) G.b true false G.dl G.ds G.ns G.pm G.ps G.ti G.ep G.kt),(G.ds,listOf ((G.cT.map λl=>aN l.a)++[aN (G.ds+1+y 11)]).toArray (G.dep+1)),(G.ns,listOf ((G.aL.map λl=>aN l.a)++[aN (y 2)]).toArray (G.ei+1)),(G.dl,listOf ([]:List ag).toArray (y 13)),(S.wm,fX S.wl),(S.wl,listOf (S.wv++bn (iZ G.b p++κ.ws H) y).toArray (y 14)),(G.ps,listOf (S.cv++[dX false]++[dX false]).toArray (S.dC+1))]++X2.cC w V.l2 [.str ⟨V.W.toArray⟩ (σ 1 22)] (e2+1))++jw w Y G X2 D1 H1 V.f)) s4:=by rw[bH]at S7;exact AY S7 (ix:=[1,2,3,4,5,6,7,8,9,11,12,13,14,15,16,17,18,19,10]) (by decide) rfl
 rw[ews,κ.aOk y]at S8;refine cI (kF (bj S8 jL)) λS9 vj Lh=>?_;generalize hh:gZ s4.heap _=aQ at S9 vj Lh;have E8:∀b o,k.aa.get? b=some o->aQ.get? b=some o:=λb o e=>Lh _ _ (aZ b o e);have Lg:aK w aQ:=λb o e=>E8 _ _ (ok.X b o e);have tL:aQ.NoLimit:=ok.T.nolimit.keeps E8;have AZ:=S8.h.nd;rw[bM,fi]at AZ;have Vs:∀p∈wJ κ G y,ar.get? p.1=none:=λp hp=>S8.h.off p (bL _ hp);have aOq:∀p∈wJ κ G y++(G.ro++κ.lx),aQ.get? p.1=some p.2/\p.1≠k.L/\k.aa.get? p.1=none:=λp hp=>by
  rcases cq.mp hp with hp|hp
  ·refine⟨vj p hp,λe=>?_,?_⟩;·exact AZ.2.2 p.1 (b6 hp) k.L (by rw[bM];exact bD _ az) e
   ·cases z:k.aa.get? p.1 with
    |none=>rfl|some o=>have:=Vs p hp;rw[aZ _ _ z]at this;cases this
  ·exact⟨Lh _ _ (bZ p hp).1,(bZ p hp).2⟩
 have aOr:((wJ κ G y++(G.ro++κ.lx)).map (·.1)).Nodup:=by rw[bM,fi];refine⟨AZ.1,f6,λa ha b hb e=>?_⟩;obtain⟨p,hp,rfl⟩:=bq.mp ha;obtain⟨q,hq,rfl⟩:=bq.mp hb;have:=Vs p hp;rw[e,(bZ q hq).1]at this;cases this
 have H:=aOm κ G y;have ny:∀p∈(κ.G2 G y).ro++uu (κ.q y),aQ.get? p.1=some p.2/\p.1≠k.L/\k.aa.get? p.1=none:=λp hp=>aOq p (H.mem_iff.mp hp);have Vt:(((κ.G2 G y).ro++uu (κ.q y)).map (·.1)).Nodup:=((H.map (·.1)).nodup_iff).mpr aOr;have ep:=aOo κ G y;have Vu:∀p∈(G.ds+1+y 11,listOf (κ.aX y).toArray (0+κ.lO))::(κ.G3 G y).ro,aQ.get? p.1=some p.2/\p.1≠k.L/\k.aa.get? p.1=none:=λp hp=>ny p (bL _ (ep.mem_iff.mp hp));have aOs:(((G.ds+1+y 11,listOf (κ.aX y).toArray (0+κ.lO))::(κ.G3 G y).ro).map (·.1)).Nodup:=by rw[(ep.map (·.1)).nodup_iff];have:=Vt;rw[bM,fi]at this;exact this.1
 have H:ay True aQ ak ((wn { G.run true with wr:= .ref S.wm } w [] (y 13)++jw w Y G X2 D1 H1 V.f)++([(123,iz ((κ.q y).1+5)),(G.ds,listOf ((G.cT.map λl=>aN l.a)++[aN (G.ds+1+y 11)]).toArray (G.dep+1)),(G.ns,listOf ((G.aL.map λl=>aN l.a)++[aN (y 2)]).toArray (G.ei+1)),(S.wm,fX S.wl),(S.wl,listOf (S.wv++bn Z y).toArray (y 14)),(G.ps,listOf (S.cv++[dX false]++[dX false]).toArray (S.dC+1))]++X2.cC w V.l2 [.str ⟨V.W.toArray⟩ (σ 1 22)] (e2+1))) s4:=lN S9 (ix:=[1,2,5,18,0,3,4,6,7,8,9,10,11,12,13,14,15,16,17]) (by decide) rfl;refine da ?_;refine fN (fr:=none) H Lg tL rfl 2 500 SP (fH 4) (SO w Y (G.run true) S [] (y 13)) (λVv _ X3 N3 _=>⟨rfl,by decide,aJo X3 N3 _ [] _ _ _ (fZ _),λ_ _ _=>True.intro⟩) (by show k.dp+2<=_;exact b7 [lE 14 Y2,lL (Y0+Y2) (Y1+1)] (lE (Y0+2) Y1) rfl jp bz) uY (λ_=> .next) _ _ _ (λσ=>aJv w Y (G.run true) S [] (y 13) X2 D1 H1 V.f hV.hf _ _ σ) λH s5 H _ _ lv5=>?_;have eN:X.n+(aL V.l - aL V.l1)+(aL V.l1 - aL V.l2)=X.n+(aL V.l - aL V.l2):=by exact bw (Cm [] (lE (Y0+(Y1-Y2)+(Y2-Y3)) (Y0+(Y1-Y3))) rfl) (Cm [] (lE (Y0+(Y1-Y2)) (Y0+(Y1-Y3)+(Y3-Y2))) rfl)
 have ew:bn Z yy=bn Z y:=EA _ _ _;have S12:ay True aQ ak (Ez w (κ.q y) Y (κ.G2 G y) S.mP X D1 H1 V.f V.l Y.tn (some ⟨V.F.toArray⟩) V.l2 V.W Z yy D1.ky D1.ty) s5:=by show ay True aQ ak ((mJ w (iz ((κ.q y).1+5)) ((κ.G2 G y).bV false yy) (S.mP.bV Z yy) (jy (some ⟨V.F.toArray⟩) Y.tn) (yy 7)++(X.bV (X.n+(aL V.l - aL V.l2)) yy).cC w V.l2 [.str ⟨V.W.toArray⟩ (yy 22)] (yy 10))++jw w Y G X D1 H1 V.f) s5;rw[Vp,ew,<-eN];exact lN H (ix:=[4,0,1,5,6,2,7,8,9,10,11,12,13,14,15,16,17,18,3]) (by decide) rfl
 have SK2:fP (κ.G2 G y) S.mP (κ.xs xs) (kk+1):=have H:=SK.push (by exact bu [lE Y0 90] (lE Y0 100) rfl jB) F y [] V.at_;⟨H.ok,H.tag,H.us,H.ps,H.hk,H.hd,H.hn,H.hl⟩;have hlen:S.wv.length+(Z++o2).length<=880:=by unfold mQ.outs at hz;rw[bQ]at hz;show _+(iZ G.b p++κ.ws V.at_++o2).length<=880;exact b7 [lE (Y0+(Y1+Y2)) 880] (lE (Y0+Y1) 880) rfl hz
 refine da ?_;refine mV (wpAny_While (aKu ok hL (by exact qN [lE (Y1+1) Y3,lL (Y0+Y3) (Y2+1)] (lL (Y0+Y1) Y2) rfl hN bz) (by exact b7 [lE 14 Y2,lL (Y0+Y2) (Y1+1)] (lE (Y0+2) Y1) rfl jp bz) (by exact lq [lE (Y1+1) Y3,lL (Y0+(Ax.m 40 Y3)) (Y2+3)] (lL (Y0+(Ax.m 40 Y1)) Y2) [40,1] 1 rfl hN jv) E8 rfl hV.hf ny Vt SK2 hlen KR S12 λJ s6 H lv6=>?_));refine qC ?_;have S14:ay True aQ ak ((A8 w ((κ.G3 G y).at_ false J) (S.mP.bV (Z++o2) J) (κ.rV G y) (jy p2 Y.tn) (J 7)++jw w Y G X { D1 with ky:=W',ty:=J 2 } H1 V.f)++((123,iz ((κ.q y).1+5))::(X.bV (X.n+(aL V.l - aL l')) J).cC w l' [.str ⟨W'.toArray⟩ (J 22)] (J 10))) s6:=by have Vw:ay True aQ ak ((mJ w (iz ((κ.q y).1+5)) ((κ.G2 G y).bV false J) (S.mP.bV (Z++o2) J) (jy p2 Y.tn) (J 7)++(X.bV (X.n+(aL V.l - aL l')) J).cC w l' [.str ⟨W'.toArray⟩ (J 22)] (J 10))++jw w Y G X { D1 with ky:=W',ty:=J 2 } H1 V.f) s6:=H;rw[Vp]at Vw;exact lN Vw (ix:=[1,2,3,4,5,8,6,7,18,0,9,10,11,12,13,14,15,16,17]) (by decide) rfl
 refine dq (fr:=some Y.L) S14 Lg tL rfl 2 500 SU (JO w ((κ.G3 G y).at_ false J) (S.mP.bV (Z++o2) J) (κ.rV G y) H1 (jy p2 Y.tn) (J 7) (Vn κ w G S bb (iZ G.b p2) (Z++o2) y J)) (λVv sub X3 N3 _=>?_) (by show k.dp+2<=_;exact b7 [lE 14 Y2,lL (Y0+Y2) (Y1+1)] (lE (Y0+2) Y1) rfl jp bz) (λ_=> .next) _ _ _ (λσ=>aJw w Y ((κ.G3 G y).at_ false J) (S.mP.bV (Z++o2) J) (jy p2 Y.tn) (J 7) X { D1 with ky:=W',ty:=J 2 } H1 V.f hV.hf (κ.rV G y) _ _ _ σ) λTl s7 S15 hz7 ht7 JD=>?_
 ·unfold JO;refine⟨rfl,uY,?_,λ_ _ _=>True.intro⟩;show Told True (av w) k.bE k.bE.units (some k.L) Vv (gF 133 [.ref G.tg, .str H1.tag H1.tt]) _ _;rw[Vr];exact aOi ok hL (by exact b7 [lE 14 Y2,lL (Y0+Y2) (Y1+1)] (lL (Y0+9) Y1) rfl jp bz) (by show k.un+360< dP;exact cz [lE 14 Y2,lL (Y0+(.m 40 Y2)) (Y1+3)] (lL (Y0+360) Y1) [40,1] 1 rfl jp jv) (λb o e=>sub.st _ _ (E8 b o e)) κ G S H1.tt Y.tn p2 (J 7) (Z++o2) y J (λp hp=>⟨sub.st _ _ (Vu p hp).1,(Vu p hp).2⟩) aOs SK (by exact bu [lE Y0 90] (lE Y0 100) rfl jB) F (by rw[bQ,yn];exact aT [lE (Y0+Y1) 880] (lE (Y0+Y1) 890) rfl hlen) fW bb hb
 let z:Nat->Nat:=Tl 0;let H:Nat->Nat:=mH (Z++o2).length (λi=>match i with|0=>z 0|1=>z 1|3=>J 3|4=>J 4|5=>J 5+1|6=>J 6+1|7=>z 13|8=>z 14|9=>J 9+1|10=>J 10|22=>J 22|23=>(κ.q y).1+5|_=>0) J z;have Y:S.wv++bn (Z++o2) J++bn (iZ G.b p2++["</"++oQ κ.g κ.x++">"]) z=S.wv++bn (V.outs κ G.b p p2 o2) H:=by show _=S.wv++bn ((Z++o2)++(iZ G.b p2++["</"++oQ κ.g κ.x++">"])) H;rw[uh,bH]
 refine dm H .next s7 rfl hz7 ht7 ?_ (((((xM.trans JC).trans Ka).trans lv4).trans lv5).trans (lv6.trans JD));show ay True ar ak (gu w (κ.p ((κ.q y).1+5)) (G.bV bb H) { S with wv:=S.wv++bn (V.outs κ G.b p p2 o2) H,we:=z 14,dC:=J 9+1 } [] (z 13) (X.bV (X.n+(aL V.l - aL l')) J) l' [.str ⟨W'.toArray⟩ (J 22)] (J 10)) s7;rw[κ.p_q,<-Y];have H:=q6 (bj S8 jL) (hh▸S15);exact qb (ro:=wJ κ G y) (bj (bj (AY (bj H jL) (ix:=[9,0,1,2,3,4,6,7,5,10,11,12,13,14,15,16,17,18]) (by decide) rfl) jL) (.refl _))
theorem aOt{N m:Nat}(hN:n+1<=N)(Z:14<=N)(V:mQ)(c x:Nat)(hV:∀f,V.Ok w ⟨f,c,x⟩){b:Bool}{p p2:Option Str}{l':List (Nat×ab)}{J:List Nat}{H:List Str}(h1:1<=kk)(jB:kk<=90)(F:∀q,ax.Fits ⟨some q,c,x⟩ xs)(hp:oZ b p)(fW:oZ b p2)(KR:rF w n (ax.xs ⟨none,c,x⟩ xs) (kk+1) b V.d V.Dv.r V.Dv.g V.Dv.b l' J p2 m (some ⟨V.F.toArray⟩) V.l2 V.W H):J9 w N xs kk b p V.d V.r V.g V.b V.l (V.outs ⟨none,c,x⟩ b p p2 H) l' J:=by intro G S X q de e2 u t1 t2 Y t4 SK hb hz;subst hb;exact Vq hN Z V ⟨some q,c,x⟩ (hV _) G true S X p p2 u t1 t2 Y t4 de e2 xs l' J H false SK jB (F q) hp fW (λz=>rfl) hz (beq_false_of_ne (nL (iB [(kk:Nat)] [lE 1 Y0] (lL 1 (Y0+1)) rfl (bK.mpr h1)))) KR
def Lj:PySem.Expr:=pE cM[12]? 0
def aOu:Pos:=(oS cM[12]?).pos
def Bw:PySem.Expr:=xE Lj 0
def Vx:PySem.Expr:=xE Lj 1
def aOv:Pos:=nc (Lj.pos)
def Vy(x:cY):PySem.Expr:=xE x 0
def Vz(x:cY):PySem.Expr:=xE x 1
def cmP(x:cY):Pos:=nc (x.pos)
theorem aOw:cM.drop 12=[.Return (some (.BoolOp .And [.Compare (Vy Bw) [.Eq] [Vz Bw] (cmP Bw),Vx] aOv)) aOu]:=by kernel_rfl
theorem aOx:cM=cM.take 2++((cM.drop 2).take 3++((cM.drop 5).take 1++((cM.drop 6).take 1++((cM.drop 7).take 1++((cM.drop 8).take 1++((cM.drop 9).take 1++((cM.drop 10).take 1++((cM.drop 11).take 1++cM.drop 12)))))))):=by kernel_rfl
section
variable (w:aj)(L:af)(V:LV)(k:Nat->ab)(sz tk de e e2:Nat)(σ:Xs)(X:LX)(l l':List (Nat×ab))(W':List Nat)(N:Int)(G:TG)(SS:SX)(o:aq)(o2:(Nat->Nat)->aq)(outs:List Str)(bb:Bool)(nc:Int)
abbrev VA(y:Nat->Nat):List (af×aq):=gu w (o2 y) (G.bV bb y) (SS.bV outs y) [] (y 7) (X.bV N y) l' [.str ⟨W'.toArray⟩ (y 22)] (y 10)
end
theorem E9:(∀(w:aj)L(V:LV)k sz tk de e2 σ(X:LX)l l' W' N(G:TG)SS o o2 outs bb,bA ((aI w 9 0 (some L) 600).S [] σ ⟨gu w o G SS [] de X l [] e2++[(L+1,b9 (some (.ref X.lx))),(L,LV.aJ { V with tg:=G.tg } w k 7)],sz,tk,[0,19,20,0,2], .cons none (Eo X G 0 0x3FF0000000000000 0 0 tk (tk+1) (tk+2) (tk+3)) (fH 18) (gu w o G SS [] de X l [] e2) (λy=>⟨.ok (.ret .none),VA w X l' W' N G SS o2 outs bb y,[],y 0,y 1⟩) λ_=> .nil⟩ (aV ((cM.drop 8).take 1) (ff L)) fin) (.ok .next,VA w X l' W' N G SS o2 outs bb (σ 0)++[(L+1,b9 (some (.ref X.lx))),(L,LV.aJ { V with tg:=G.tg } w k 7)],σ 0 0,σ 0 1))/\(∀(w:aj)L(V:LV)k sz tk σ,bA ((aI w 0 0 none 300).S [] σ ⟨[(L,V.aJ w k 8)],sz,tk,[1], .nil⟩ (fx (Vy Bw) (ff L)) fin) (.ok (.ref V.E),[(L,V.aJ w k 8)],sz,tk))/\(∀(w:aj)L sz tk σ,bA ((aI w 0 0 none 300).S [] σ ⟨[],sz,tk,[], .nil⟩ (fx (Vz Bw) (ff L)) fin) (.ok (.ref sz),[(sz,listOf [ag.str dE tk, .str "h" (tk+1), .str dE (tk+2)].toArray 0)],sz+1,tk+3))/\(∀(w:aj)L(V:LV)k sz tk e2 σ(X:LX)l nc,bA ((aI w 5 0 none 300).S [] σ ⟨X.cC w l [] e2++[(L+1,b9 (some (.ref X.lx))),(L,V.aJ w k 8)],sz,tk,(dN 20 0x17c0012c4008400004000002a),cK "str.count" [.str V.T V.t, .str "\n" (tk+2)] (λt=> .int nc t) λa=>iR "int.__eq__" X.n (1+nc) true X.tn (a 1) λ_=> .nil⟩ (fx Vx (ff L)) fin) (.ok (.bool true),X.cC w l [] e2++[(L+1,b9 (some (.ref X.lx))),(L,V.aJ w k 8)],σ 1 0,σ 1 1)):=by and_intros<;>intros<;>kernel_rfl
section
variable {t:ca α}{Q:α->am->Prop}{a:List (af×aq)}
theorem aOy(J:ay True ar ak (a++ro) s)(hS:ar.get? S=some so)(X1:aK w ar)(NL:ar.NoLimit)(hK:∀o,(K w.params).lookup S≠some o)(hC:cStatics≠S)(hA:A.handled=none)(dep n:Nat)(ev Z:List Nat)(os:aF)(gn:∀aQ,aK w aQ->aQ.NoLimit->(∀b o,ar.get? b=some o->b≠S->aQ.get? b=some o)->(∀p∈ro,aQ.get? p.1=some p.2)->os.Ok True (av w) A A.units fr aQ (((S,so)::a).map (·.1)))(hd:A.depth+dep<=bk)(nd:Z.Nodup)(res:Xs->α)(ents:Xs->List (af×aq))(b:Xs->List (af×aq))(sz tk:Xs->Nat)(e:∀H,Ends Z ((aI w dep 0 fr n).S [] H ⟨(S,so)::a,s.heap.objs.size,s.toks,ev,os⟩ t fin) (.ok (res H),(ents H).map some,sz H,tk H))(hp:∀H,(ents H).Perm ((S,so)::b H))(h:∀H s',ay True ar ak (b H++ro) s'->s'.heap.objs.size=sz H->s'.toks=tk H->Q (res H) s'):aG (av w) A t Q E s:=by
 have low:=J.h.nd;rw[bM,fi]at low;refine cI low λnda ndr ndx=>?_;have VB:∀p∈a++ro,p.1≠S:=λp hp q=>by have:=J.h.off p hp;rw[q,hS]at this;injection this
 have SA:ay True _ ak ((S,so)::a) s:=⟨⟨λp hp=>by
   rcases a9.mp hp with rfl|hp
   ·exact(J.h.keep _ _ hS)
   ·exact J.h.at_ p (bL _ hp),ci.mpr ⟨(λhm=>aO (bq.mp hm) λp hp q=>VB p (bL _ hp) q),nda⟩,λb o e=>y6 _ e,λp hp=>y7 _ (b6 hp)⟩,J.os,J.gens, .inl True.intro⟩
 have st:∀b o,ar.get? b=some o->b≠S->(gZ s.heap (((S,so)::a).map (·.1))).get? b=some o:=λb o e ne=>kd _ (J.h.keep _ _ e) λhm=>by
  rcases a9.mp hm with q|hm
  ·exact ne q
  ·refine aO (bq.mp hm) λp hp eq3=>?_;subst eq3;have:=J.h.off p (bL _ hp);rw[e]at this;injection this
 have bZ:∀p∈ro,(gZ s.heap (((S,so)::a).map (·.1))).get? p.1=some p.2:=λp hp=>kd _ (J.h.at_ p (bD _ hp)) λhm=>by
  rcases a9.mp hm with q|hm
  ·exact VB p (bD _ hp) q
  ·exact ndx _ hm _ (b6 hp) rfl
 generalize gZ s.heap _=aQ at SA st bZ;have X2:aK w aQ:=λb o e=>st b o (X1 b o e) λq=>hK o (q▸e);have N2:aQ.NoLimit:=by exact aO NL λmc z1 q=>mX z1 λo es ep ho r=>⟨mc,⟨o,es,ep,st _ _ ho hC,r⟩,q⟩
 refine wp_run SA X2 hA dep 0 n ev Z os (λj=>gn aQ X2 N2 st bZ) (λj=>⟨N2,hd⟩) (a8 _) nd res ents sz tk e λH s' S1 h1 Z j=>?_;have Y:=bj S1 (hp H);refine h H s' ?_ h1 Z;obtain⟨n1,n2⟩:=ci.mp Y.h.nd;refine⟨⟨λp hp=>?_,?_,λz o ez=>?_,λp hp=>?_⟩,Y.os,Y.gens, .inl True.intro⟩
 ·rcases cq.mp hp with hp|hp
  ·exact Y.h.at_ p (aB hp)
  ·exact Y.h.keep _ _ (bZ p hp)
 ·rw[bM,fi];refine⟨n2,ndr,λx H y hy q=>?_⟩;refine aO (bq.mp H) λp hp eq1=>?_;subst eq1;refine aO (bq.mp hy) λr hr eq2=>?_;subst eq2;have:=Y.h.off p (aB hp);simp only[q,bZ r hr]at this;injection this
 ·by_cases q:z=S
  ·rw[q,hS]at ez;obtain rfl:=dG ez;exact rR q (Y.h.at_ _ az)
  ·exact Y.h.keep z o (st z o ez q)
 ·rcases cq.mp hp with hp|hp
  ·induction z:ar.get? p.1 with
   |none=>rfl|some o=>have:=Y.h.off p (aB hp);rw[st _ _ z λq=>n1 (bq.mpr ⟨p,hp,q⟩)]at this;injection this
  ·exact J.h.off p (bD _ hp)
end
section
theorem VC{x y:Str}{b:Bool}(h:(x.cps.toList !=y.cps.toList)=b)(k:bJ next True w A U fr aa):(E6 x y t u b next).Ok True (av w) A U fr aa lv:=dY (λz=>eM (r:=λz=> .bool b) PySem.F.slot_str_ne PySem.F.entry_str_ne (PySem.F.args_str_ne_2 _ _) (gives_str_ne x y t u) (λs=>ib ..) λQ s k=>h▸k 0 s.toks) λe z=>k e _
theorem aOz{x y:Str}{n:Int}(h:((ka x y 0 x.length (x.length+1)).length:Int)=n)(k:bJ next True w A U fr aa):(cK "str.count" [.str x t, .str y u] (λt=> .int n t) next).Ok True (av w) A U fr aa lv:=dY (λz=>eM PySem.F.slot_str_count PySem.F.entry_str_count (PySem.F.args_str_count_2 _ _) (gives_str_count x y t u) (λs=>ib ..) λQ s k=>h▸k _ _) λe z=>k e _
theorem VD{r:Bool}(h:(a==b)=r)(k:bJ next True w A U fr aa):(iR "int.__eq__" a b r t u next).Ok True (av w) A U fr aa lv:=dY (λz=>eM (r:=λz=> .bool r) PySem.F.slot_int_eq aVf (PySem.F.args_int_eq_2 _ _) (aXx a t b u) (λs=>jJ ..) λQ s k=>by have:=k 0 s.toks;rw[<-h]at this;exact this) λe z=>k e _
theorem aO0(E D:af)(a b c:Str)(t1 t2 J Z u2 Y:ab)(e f:Nat):Told True (av w) A U fr aa (b2 "list.__eq__" (.ref E) (.ref D)) [(E,listOf [ag.str a t1, .str b t2, .str c J].toArray e),(D,listOf [ag.str a Z, .str b u2, .str c Y].toArray f)] (λx=>⟨.ok (.ret (.bool true)),[(E,listOf [ag.str a t1, .str b t2, .str c J].toArray e),(D,listOf [ag.str a Z, .str b u2, .str c Y].toArray f)],[],x 0,x 1⟩):=by
 intro u s ak R hu H v hR;have h1:=H.h.at_ _ az;refine dJ aWa.plain PySem.F.entry_list_eq (aWa.check _ _ _ _ _ _ _ _ ⟨_,h1,rfl⟩ (PySem.F.args_list_eq_2 _ _) ?_);refine MeetsSeq3.list_eq E D #[ag.str a t1, .str b t2, .str c J] #[ag.str a Z, .str b u2, .str c Y] e f rfl (λz=>true) (λj hj AD=>?_) _ _ _ R s ⟨h1,(H.h.at_ _ (aB az)),(hR (λi=>bif bY i 0 then s.heap.objs.size else s.toks) s rfl rfl rfl (λp hp=>absurd hp bi) ⟨H.h,H.os,H.gens,H.same⟩ λb o H nb=>H)⟩;have H:∀(x:Str)(t u:ab),MeetsSeq.EqGives (.str x t) (.str x u) true:=λx t u prog w A E s Q h=>MM (rR (decide_eq_true rfl) h);match j,hj,AD with
 |0,_,_=>exact H a t1 Z|1,_,_=>exact H b t2 u2|2,_,_=>exact H c J Y|n+3,h,_=>exact absurd h (by simp)
end
section
variable {k:Nat->ab}
theorem aO1(X1:aK w ar)(aU:ar.NoLimit)(Z:A.handled=none)(Y:A.depth+5<=bk)(hu:A.units< dP){l:List (Nat×ab)}{J:ab}{n:Int}(hn:((ka V.T "\n" 0 V.T.length (V.T.length+1)).length:Int)=n)(hX:X.n=1+n)(SR:ay True ar ak ((V.E,listOf [ag.str dE t1, .str "h" t2, .str dE J].toArray 3)::(X.cC w l [] e2++([(L+1,b9 (some (.ref X.lx))),(L,V.aJ w k 8)]++ro))) s)(h:∀s',ay True ar ak ro s'->Q (.ret (.bool true)) s'):aG (av w) A (aV (cM.drop 12) (ff L)) Q E s:=by
 rw[aOw];refine mV (aVm (wpAny_And2 (wpAny_Compare1 ?_)));have S0:ay True ar ak ([(L,V.aJ w k 8)]++((V.E,listOf [ag.str dE t1, .str "h" t2, .str dE J].toArray 3)::(X.cC w l [] e2++((L+1,b9 (some (.ref X.lx)))::ro)))) s:=by exact bj SR (lh (l₁:=_::(X.cC w l [] e2++[(L+1,b9 _)])))
 refine dq S0 X1 aU Z 0 300 [1] .nil (λz z z z z=>True.intro) (aT [lE (Y0+5) Y1] (lE (Y0+0) Y1) rfl Y) _ _ _ _ (λH=>E9.2.1 ..) λH s1 S1 z z z=>dq (ro:=_::_::(X.cC w l [] e2++_)) S1 X1 aU Z 0 300 [] .nil (λz z z z z=>True.intro) (aT [lE (Y0+5) Y1] (lE (Y0+0) Y1) rfl Y) _ _ _ _ (λH=>E9.2.2.1 ..) λH s2 S2 z z z=>?_;generalize s1.heap.objs.size=D at S2;generalize s1.toks=tb at S2;show aG _ _ (richCompare .Eq _ _) ..;refine fV (au (X6 hu ?_));have S3:ay True ar ak ([(D,listOf [ag.str dE tb, .str "h" _, .str dE _].toArray 0),_]++_) s2:=bj S2 ((jK ..).cons _);refine dq (fr:=none) S3 X1 aU Z 2 900 [2,1,2,777,2] (.cons (some 0) _ [1,0] [(V.E,listOf [ag.str dE t1, .str "h" t2, .str dE J].toArray 3),_] _ λz=> .nil) (λaQ z X2 N2 z=>⟨rfl,by decide,λA' z z=>aO0 V.E D dE "h" dE t1 t2 J tb (tb+1) (tb+2) 3 0,λz z z=>True.intro⟩) (aT [lE (Y0+5) Y1] (lE (Y0+2) Y1) rfl Y) (λz=> .bool true) (λz=>[(D,listOf [ag.str dE tb, .str "h" (tb+1), .str dE (tb+2)].toArray 0),(V.E,listOf [ag.str dE t1, .str "h" t2, .str dE J].toArray 3)]) (λH=>H 0 0) (λH=>H 0 1) (λH=>by kernel_rfl) λH s3 S4 z z z=>X8 ?_;have S5:ay True ar ak ((X.cC w l [] e2++[(L+1,b9 (some (.ref X.lx))),(L,V.aJ w k 8)])++(ro++[(V.E,listOf [ag.str dE t1, .str "h" t2, .str dE J].toArray 3),(D,listOf [ag.str dE tb, .str "h" (tb+1), .str dE (tb+2)].toArray 0)])) s3:=by refine bj S4 ((jK ..).trans ?_);exact(jL (l₁:=[(V.E,listOf [ag.str dE t1, .str "h" t2, .str dE J].toArray 3),_])).trans ((lh (l₁:=X.cC w l [] e2++[(L+1,b9 _)])).symm)
 exact dq S5 X1 aU Z 5 300 _ (cK "str.count" [.str V.T V.t, .str "\n" _] _ λa=>iR "int.__eq__" X.n _ true X.tn (a 1) λz=> .nil) (λaQ z X2 N2 z=>aOz hn λz z=>VD (hX▸beq_self_eq_true _) λz z=>True.intro) Y _ _ _ _ (λH=>E9.2.2.2 ..) λH H J z z z=>h H (qb (bj J ((jL).trans (by rw[bH]))))
end
def Lk(wm:Nat)(b:Bool)(y:Nat->Nat)(H:List NE):TG:={ uC wm b y with aL:=[⟨y 2,y 102,(j8 λi=>y (100+i)).map hM⟩,⟨y 100,6,rU H⟩],nh:=H.reverse++j8 λi=>y (100+i) }
theorem Ll(H:List NE):rU H=H.reverse.map hM:=by
 induction H with
 |nil=>rfl|cons e H ih=>simp only[Xl,bM,<-ih];rfl
theorem Lm{u:Str}{x:Nat}(h:u.cps.size≠5):u≠bv x:=λe=>h (by refine rR e ?_;rfl)
theorem aO2{e:NE}{x:Nat}{f:Nat->Nat}(H:e∈j8 f):e.u≠bv x:=by
 have h:∀u∈(j8 f).map (·.u),u.cps.size≠5:=by show ∀u∈(["http://www.w3.org/XML/1998/namespace","http://www.w3.org/1999/xhtml","http://www.w3.org/1999/02/22-rdf-syntax-ns#","http://schemas.xmlsoap.org/wsdl/","http://www.w3.org/2001/XMLSchema","http://www.w3.org/2001/XMLSchema-instance","http://purl.org/dc/elements/1.1/"]:List Str),u.cps.size≠5;decide+kernel
 exact Lm (h e.u (b6 H))
theorem aO3{b:Bool}{y:Nat->Nat}{J:List NE}(uo:J.length<=6)(h1:∀e∈J,∃c∈dR,e.u=bv c/\e.p=⟨#[c]⟩)(h2:∀x∈dR,∃e∈J,e.u=bv x)(S:SX)(hS:S.cv=[]):fP (Lk S.wm b y J) S [] 0:=by
 have Z:("http://www.w3.org/XML/1998/namespace":Str).cps.size≠5:=by decide+kernel
 refine⟨λta h=>⟨rfl,?_,(by decide:1<=1000),?_,?_,fZ _,⟨wY _,WV (by decide) _,h⟩,?_,?_,?_,(by decide:1<=1000)⟩,λx Y=>⟨Y,?_,?_,?_⟩,λx Y=>⟨?_,nofun⟩,?_,by rw[hS];rfl,(by decide:1<=10),(by decide:2<=10),(by decide:1<=10)⟩;·exact λl hl=>rR (bI.mp hl) (by decide:1<=1000)
 ·exact ci.mpr ⟨bi,bN⟩
 ·show(("xml":Str)==""||false)=false;decide+kernel
 ·intro e he;rw[bI.mp he];show("http://www.w3.org/XML/1998/namespace":Str)≠"";decide+kernel
 ·show rU J++((j8 λi=>y _).map hM++[])=(J.reverse++j8 λi=>y _).map hM;simp only[dQ,bM,Ll]
 ·intro l hl;rcases a9.mp hl with rfl|hl
  ·exact(by decide:7<=1000)
  ·rw[bI.mp hl];simp only[Ll,dA,uU];exact aE uo (by decide)
 ·intro e he H;rw[bI.mp he]at H;exact absurd H (Lm Z)
 ·intro e he H;rcases cq.mp he with he|he
  ·refine ig (h1 e (Yp.mp he)) λc z J e2=>?_;rw[J]at H;rw[e2,JR H]
  ·exact absurd H (aO2 he)
 ·exact aO (h2 x Y) λe he H=>⟨e,bL _ (Yp.mpr he),H⟩
 ·rintro ⟨e,he,H⟩;rw[bI.mp he]at H;exact absurd H (Lm Z)
 ·exact λe he=>bI.mp he▸ .inr rfl
theorem aO4(tk:Nat)(J:Xs):(yL tk J).length<=6/\(∀e∈yL tk J,∃c∈dR,e.u=bv c/\e.p=⟨#[c]⟩)/\∀x∈dR,∃e∈yL tk J,e.u=bv x:=by
 refine⟨a8 6,λe H=>?_,λx Y=>?_⟩
 ·unfold yL at H;simp only[a9,bi,or_false]at H;rcases H with rfl|rfl|rfl|rfl|rfl|rfl
  ·exact⟨109,by decide,rfl,rfl⟩
  ·exact⟨98,by decide,rfl,rfl⟩
  ·exact⟨99,by decide,rfl,rfl⟩
  ·exact⟨103,by decide,rfl,rfl⟩
  ·exact⟨121,by decide,rfl,rfl⟩
  ·exact⟨114,by decide,rfl,rfl⟩
 ·unfold dR at Y;simp only[a9,bi,or_false]at Y;rcases Y with rfl|rfl|rfl|rfl|rfl|rfl
  ·exact⟨_,aB (aB (aB (aB (aB az)))),rfl⟩
  ·exact⟨_,aB (aB (aB (aB az))),rfl⟩
  ·exact⟨_,aB (aB (aB az)),rfl⟩
  ·exact⟨_,aB (aB az),rfl⟩
  ·exact⟨_,aB az,rfl⟩
  ·exact⟨_,az,rfl⟩
def aO5(o:aq):Bool:=nc (match o.cls with
 | .type n=>n=="list"|_=>false)
theorem VE(p:pg):(K p).all (λe=>!aO5 e.2)=true:=by kernel_rfl
theorem aO6{h:aw}(X:aK w h){d:Option af}(Z:h.get? S=some (iS d vs e sl)):∀o,(K w.params).lookup S≠some o:=λo H=>by
 have J:=X S o H;rw[Z]at J;obtain rfl:=dG J;have Y:(S,iS d vs e sl)∈K w.params:=by
  have J:=VE w.params;generalize K w.params=l at H;induction l with
  |nil=>injection H|cons p l ih=>
   rw[List.lookup_cons]at H;by_cases q:S==p.1
   ·rw[q]at H;simp only[(eq_of_beq q),<-(dG H)];exact az
   ·rw[Bool.eq_false_iff.mpr q]at H;exact aB (ih H)
 have:=r6.mp (VE w.params) _ Y;exact absurd this (by show ¬(!("list"=="list"))=true;decide)
theorem uE(p:PR)(y z:Nat->Nat)(k j:Nat):cu (p.at_ y k)=cu (p.at_ z j):=by unfold cu oW;have H:b8 (jX (p.at_ y k) 0 0)=b8 (jX (p.at_ z j) 0 0):=rfl;have J:b8 (jY (p.at_ y k) 0 0)=b8 (jY (p.at_ z j) 0 0):=rfl;have e2:b8 (jZ (p.at_ y k) 0 0)=b8 (jZ (p.at_ z j) 0 0):=rfl;have Y:jz (p.at_ y k)=jz (p.at_ z j):=rfl;simp only[H,J,e2,Y];induction jz _<;>induction b8 _<;>induction b8 _<;>induction b8 _<;>rfl
theorem aO7(p:Nat->PR)(y z:Nat->Nat):fQ (gg p y)=fQ (gg p z):=by unfold fQ gg;simp only[jg,nQ];simp only[uE (p 0) y z 3 3,uE (p 1) y z 10 10,uE (p 2) y z 17 17,uE (p 3) y z 24 24]
structure Fa(vs:List ag)(T:Nat->RT)(p:Nat->PR)(v:List ag)(sm:Int)(b:Bool):Prop where
 o0:(T 0).Ok vs 5514 0 0
 o1:(T 1).Ok vs 693213 1 ((T 0).dp+1)
 o2:(T 2).Ok vs 163261 2 ((T 1).dp+1)
 o3:(T 3).Ok vs 1603350 3 ((T 2).dp+1)
 h0:(T 0).Is 5514 (p 0)
 h1:(T 1).Is 693213 (p 1)
 h2:(T 2).Is 163261 (p 2)
 h3:(T 3).Is 1603350 (p 3)
 z:vs.length<=100
 hv:(y5 vs.toArray none (some 60) none).toList=v
 hi:Xp v.toArray
 hs:(y4 v).sum=sm
 hb:((sm.fmod 2)==1)=b
theorem aO8{h:aw}(Y:h.NoLimit){d:Option af}(J:h.get? S=some (iS d vs e sl)):cStatics≠S:=λq=>by refine aO Y λY Y z=>mX Y λo Y ep H r=>?_;rw[q,J]at H;obtain rfl:=dG H;exact absurd r.1 nofun
section
variable {k:Nat->ab}
theorem aO9(X1:aK w ar)(Z:ar.NoLimit)(hA:A.handled=none)(hd:A.depth+5<=bk){d:Option af}{v:List ag}{T:Nat->RT}{p:Nat->PR}{b:Bool}(Y:ar.get? V.S=some (iS d vs e sl))(H:Fa vs T p v sm b)(SR:ay True ar ak ([(L,V.aJ w k 1)]++ro) s)(h:∀(J:LV)y k' s',J={ V with R:=y 2,b:=b }->ay True ar ak ((f9 J.R 4 (gg p y)++[(L,J.aJ w k' 3)])++ro) s'->Q .next s'):aG (av w) A (aV (cM.take 2) (ff L)) Q E s:=by
 have J:=nO;refine aOy SR Y X1 Z (aO6 X1 Y) (aO8 Z Y) hA 5 600 (dN 20 0x4a45f0004239ce7000e710040) [2,3,4,5,6,7,8] _ (λaQ X2 N2 z z=>?_) hd (by decide) _ _ _ _ _ (λJ=>K8.2.2 w L V d vs v e sl p sm b k _ _ J) (λJ=>lh) λJ s' S' z z=>?_
 ·refine⟨rfl,by decide,aNt X2 N2 V.S d vs e sl H.z T p H.o0 H.o1 H.o2 H.o3 H.h0 H.h1 H.h2 H.h3,λa z z=>HW (by decide) qx.none (Mu _ _) qx.none (by decide) (by have:=H.z;omega) H.hv λc z=>⟨rfl,ci.mpr ⟨bi,bN⟩,λY J z=>?_,λf z z=>VD H.hb λz z=>True.intro⟩⟩;have:=OZ (ao:=True) (w:=w) (U:=Y.units) (fr:=none) (aa:=aQ) J (c 2) v 0 H.hi;rw[H.hs]at this;exact this
 ·exact h _ _ _ s' rfl S'
theorem aPa(X1:aK w ar)(aU:ar.NoLimit)(hA:A.handled=none)(hd:A.depth+6<=bk)(hu:A.units+23< dP)(hr:rows=[r0,r1,r2,r3])(m9:∀r∈rows,r.Ok)(hw:∀s∈rows.flatMap cu,s.length<=100)(hT:(fQ rows).length<=1000)(SR:ay True ar ak ((f9 V.R re rows++[(252,jI #[]),(L+1,b9 none),(L,V.aJ w k 3)])++ro) s)(h:∀(H:LV)(X:LX)(l:List (Nat×ab))(k':Nat->ab)s' tA,X.n=1->X.lx≠X.pb->H.T=fQ rows->H.S=V.S->H.R=V.R->H.b=V.b->l.map (·.1)=(fQ rows).cps.toList->ay True ar ak ((X.led w l++(((X.pb,aA [] 0)::(H.W,aA [] 0)::f9 H.R re rows)++[(252,z7 tA),(L+1,b9 (some (.ref X.lx))),(L,H.aJ w k' 5)]))++ro) s'->Q .next s'):aG (av w) A (aV ((cM.drop 2).take 3) (ff L)) Q E s:=by
 have H:=nO;subst hr;generalize Ln:fQ [r0,r1,r2,r3]=T at hT h;refine fN SR X1 aU hA 6 600 (dN 18 0x25284040008080010810100) [1,2,4,5,6,7,8,9,3,0,10,11,12,13,14,15,16,17] _ (λaQ H Z Y z=>?_) hd (by decide) _ _ _ _ (λJ=>La.1 w L V k _ _ re r0 r1 r2 r3 T J) λJ s' S' z z z=>?_
 ·refine⟨rfl,by decide,?_,λa z z=>⟨rfl,ci.mpr ⟨bi,bN⟩,aC7 Z Y T (a 2) (by omega),λH z z=>⟨rfl,bN,aNx Z Y _,λz z z=>True.intro⟩⟩⟩;exact Ln▸aLo Z Y hA (cR hd) hu V.R re _ m9 (dF 1 3) (by show 4<=10;decide) hw
 ·refine aO (aC9 T.cps.toList λi=>J 1 (i+1)) λl H Y=>?_;simp only[Y]at S';exact h { V with T:=T,t:=J 0 2,W:=J 2 0+4 } (E5 (J 1) (J 2)) l _ s' _ rfl (du (bu [] (lL (Y0+1) (Y0+3)) rfl)) rfl rfl rfl rfl H S'
end
open Classical in
theorem aPb(tg Y Z ds ns J D E y2 H M wm W L o:List α):cF (((tg++(Y++(Z++(ds++(ns++J)))))++(D++(E++((y2++H)++M))))++(wm++(W++L))++o) (((tg++(Y++(Z++(ns++H))))++L)++((ds++J)++((D++(E++(y2++M)))++((wm++W)++o)))):=by rw[jf];intro x;simp only[ie];ac_rfl
open Classical in
theorem aPc(tg td H ds ns J D E y2 Z M wm W L o ro N Y:List α)(h:N.Perm Y):cF ((N++((tg++(td++(H++(ns++Z))))++L))++((ds++J)++((D++(E++(y2++M)))++((wm++W)++(o++ro))))) ((o++(tg++(td++(ds++(ns++(H++(wm++(W++J))))))))++(L++((D++(E++((y2++Z)++(Y++M))))++ro))):=by rw[jf];intro x;simp only[ie,h.count_eq x];ac_rfl
def By(wm W:af):SX:=nc (⟨wm,W,0,[],0,[],[],0⟩)
theorem aPd(X2:aK w aQ)(N2:aQ.NoLimit)(G:TG)(Y:Nat)(eO:List ag)(Z:Nat):∀(H:List Nat)(i s u:Nat)(J:List NE)(lv:List af),J.length+H.length<=6->(K9 w G Y eO Z H i s u J).Ok True (av w) A U none aQ lv:=by
 intro H;induction H with
 |nil=>exact λz z z z z z=>True.intro|cons c H ih=>refine λi s u J lv h=>⟨rfl,?_,aN8 X2 N2 G Y _ _ eO Z _ _ _ _ (by simp only[Ll,dA,uU];exact aT [lE (Y0+(Y1+1)) 6] (lE Y0 1000) rfl h),λx z z=>ih _ _ _ _ _ (aT [lE (Y0+(Y1+1)) 6] (lE (Y0+1+Y1) 6) rfl h)⟩;exact Yn (n:=5)
section
variable {k:Nat->ab}
theorem aPe(Z:aK w ar)(aU:ar.NoLimit)(hA:A.handled=none)(hd:A.depth+5<=bk)(Y:ay True ar ak ([(V.W,aA [] 0),(L,V.aJ w k 5)]++ro) s)(h:∀(H:LV)wm y k' s',H={ V with tg:=(uC wm V.b y).tg }->ay True ar ak ((K0 w (uC wm V.b y)++[(wm,fX V.W),(V.W,aA [] 0),(L,H.aJ w k' 6)])++ro) s'->Q .next s'):aG (av w) A (aV ((cM.drop 5).take 1) (ff L)) Q E s:=by refine dq Y Z aU hA 5 600 (dN 18 0x29410003080010840100440) (.cons _ _ [] [] _ λz=> .nil) (λaQ z X2 J z=>⟨rfl,bN,aN6 X2 J _ _,λz z z=>True.intro⟩) hd _ _ _ _ (λH=>La.2.1 ..) λH s' H z z z=>h _ _ _ _ s' rfl H
theorem aPf(X1:aK w ar)(aU:ar.NoLimit)(hA:A.handled=none)(hd:A.depth+4<=bk){G:TG}{Y Z:Nat}{J:List ag}(hV:V.tg=G.tg)(SR:ay True ar ak ((um G w Y [] 0 J Z++[(L,V.aJ w k 6)])++ro) s)(h:∀(H:LV)(es:List NE)k' s',H.S=V.S->H.R=V.R->H.b=V.b->H.T=V.T->H.W=V.W->H.tg=V.tg->(es.length<=6/\(∀e∈es,∃c∈dR,e.u=bv c/\e.p=⟨#[c]⟩)/\∀x∈dR,∃e∈es,e.u=bv x)->ay True ar ak ((es.map (λe:NE=>(e.t,fA e))++(um G w Y (rU es) 6 J Z++[(L,H.aJ w k' 7)]))++ro) s'->Q .next s'):aG (av w) A (aV ((cM.drop 6).take 1) (ff L)) Q E s:=by
 have H:V={ V with tg:=G.tg }:=by rw[<-hV]
 rw[H]at SR;refine fN SR X1 aU hA 4 900 Vj [2,3,4,5,6,7,9,10,11,12,13,14] _ (λaQ z X2 H z=>aPd X2 H G Y J Z _ _ _ _ _ _ (by decide)) hd (by decide) _ _ _ _ (λH=>La.2.2 ..) λH s' J z z z=>h { V with tg:=G.tg,sx:="m",tx:=H 4 1 } _ _ s' rfl rfl rfl rfl rfl hV.symm (aO4 _ H) J
theorem aPg(X1:aK w ar)(aU:ar.NoLimit)(hA:A.handled=none)(hd:A.depth+5<=bk)(Z:ay True ar ak ([(V.W,listOf ([]:List ag).toArray 0),(L,V.aJ w k 5)]++((123,o)::ro)) s)(h:∀(H:LV)(G:TG)wm k' s',H.S=V.S->H.R=V.R->H.b=V.b->H.T=V.T->H.W=V.W->H.tg=G.tg->G.b=V.b->fP G (By wm V.W) [] 0->ay True ar ak (mJ w o (G.run false) (By wm V.W) [] 0++([(L,H.aJ w k' 7)]++(G.ro++ro))) s'->aG (av w) A (aV body (ff L)) Q E s'):aG (av w) A (aV ((cM.drop 5).take 1++((cM.drop 6).take 1++body)) (ff L)) Q E s:=by
 refine da (aPe X1 aU hA hd Z λH wm y k1 s1 e1 S1=>?_);have S2:ay True ar ak ((um _ w (y 100) [] 0 [aN (y 2)] 0++[(L,H.aJ ..)])++_) s1:=bj S1 (aPb [_] [_] [_] [_] [_] [_] _ _ [_] [_] _ [_] [_] [_] _);clear S1 Z;refine da (aPf X1 aU hA (cR hd) (by exact rR e1 rfl) S2 λV2 J k2 s2 a1 a2 a3 a4 a5 a6 Y S3=>?_);subst e1;refine h V2 (Lk ..) wm k2 s2 a1 a2 a3 a4 a5 a6 rfl (aO3 Y.1 Y.2.1 Y.2.2 (By wm V.W) rfl) ?_;have H:(Lk wm V.b y J).ro=((uC wm V.b y).cT.map λl=>(l.a,listOf l.items.toArray l.ep))++(((uC wm V.b y).ents.map λe=>(e.t,fA e))++(([(y 2,listOf ((j8 λi=>y (100+i)).map hM).toArray (y 102))]++[(y 100,listOf (rU J).toArray 6)])++((J.reverse.map λe=>(e.t,fA e))++((j8 λi=>y (100+i)).map λe=>(e.t,fA e))))):=by show _++_=_;refine rR bM ?_;rfl
 simp only[H];exact bj S3 (aPc [_] [_] [_] [_] [_] [_] _ _ [_] [_] _ [_] [_] [_] [_] _ _ _ ((aV3 J).symm.map _))
end
structure uF where
 V:mQ
 c:Nat
 x:Nat
 m:Nat
 p2:Option Str
 o2:List Str
 l':List (Nat×ab)
noncomputable abbrev uF.κ(t:uF):ax:=⟨none,t.c,t.x⟩
variable {κ:ax}
noncomputable abbrev uF.outs(t:uF)(b:Bool):List Str:=t.V.outs t.κ b none t.p2 t.o2
structure uF.Ok(w:aj)(b:Bool)(l:List (Nat×ab))(t:uF):Prop where
 rel:fb t.V.l l [48]
 d:t.V.d=0
 r:t.V.r=0x3FF0000000000000
 g:t.V.g=0
 bl:t.V.b=0
 ok:t.V.Ok w t.κ
 fits:t.κ.Fits []
 p2:oZ b t.p2
 n:(t.outs b).length<=880
 kids:rF w 16 (t.κ.xs []) 1 b t.V.d t.V.Dv.r t.V.Dv.g t.V.Dv.b t.l' [] t.p2 t.m (some ⟨t.V.F.toArray⟩) t.V.l2 t.V.W t.o2
 eof:fb [] t.l' []
section
variable {k:Nat->ab}
theorem aPh(X1:aK w ar)(aU:ar.NoLimit)(hA:A.handled=none)(hd:A.depth+9<=bk){l:List (Nat×ab)}(J:fb rest l [48])(hz:l.length<=1000){N:Int}(hN:N=X.n+(aL l - aL rest))(Z:ay True ar ak ((X.cC w l [] e2++[(L+1,b9 (some (.ref X.lx))),(L,V.aJ w k 7)])++ro) s)(h:∀(H:LX)s',H.n=N->H.lx=X.lx->ay True ar ak ((LX.cC H w rest [] e2++[(L+1,b9 (some (.ref H.lx))),(L,V.aJ w k 7)])++ro) s'->Q .next s'):aG (av w) A (aV ((cM.drop 7).take 1) (ff L)) Q E s:=by refine dq Z X1 aU hA 9 600 (dN 20 0x17c401040000020000200002a) (.cons _ _ _ _ _ λa=>E6 ⟨[48].toArray⟩ "0" (a 2) (a 1) false λz=> .nil) (λaQ z X2 Y z=>⟨rfl,uY,Hv X2 Y J X N e2 hz (by decide) hN,λa z z=>VC (by decide+kernel) λz z=>True.intro⟩) hd _ _ _ _ (λH=>Lb.1 ..) λH s' J z z z=>h { X with n:=N,tn:=H 0 3,e1:=H 0 4 } s' rfl rfl J
end
theorem aPi{k:KX}(ok:k.Ok w)(hL:k.aa.objs.size<=k.L)(hn:k.dp+30< bk)(hU:k.un+1200< dP){kt:Nat->ab}{G:TG}{J:SX}{b:Bool}{l:List (Nat×ab)}{t:uF}(H:t.Ok w b l)(hV:V.tg=G.tg)(hb:G.b=b)(SK:fP G J [] 0)(hw:J.wv=[])(SR:ay True k.aa ak ((gu w (jI #[]) (G.run false) J [] 0 X t.V.l [] e2++[(k.L+1,b9 (some (.ref X.lx))),(k.L,V.aJ w kt 7)])++(G.ro++ro)) s)(h:∀y s',ay True k.aa ak ((gu w (t.κ.p (y 23)) (G.bV true y) (J.bV (t.outs b) y) [] (y 7) (X.bV (X.n+(aL t.V.l - aL t.l')) y) t.l' [.str dE (y 22)] (y 10)++[(k.L+1,b9 (some (.ref X.lx))),(k.L,V.aJ w kt 7)])++(G.ro++ro)) s'->Q .next s'):aG (av w) k.bE (aV ((cM.drop 8).take 1) (ff k.L)) Q E s:=by
 have e1:V={ V with tg:=(G.run false).tg }:=by rw[<-hV]
 rw[e1]at SR h;have low:=SR.h;refine dq SR ok.X ok.T.nolimit rfl 9 600 [0,19,20,0,2] _ (λaQ Y X2 N2 z=>?_) (aT [lL (Y0+30) Y1] (lE (Y0+9) Y1) rfl hn) _ _ _ _ (λσ=>E9.1 w k.L V kt _ _ 0 e2 σ X t.V.l t.l' [] _ _ J _ (λy=>t.κ.p (y 23)) _ true) λσ s' S' z z z=>h (σ 0) s' S';refine⟨rfl,uY,?_,λz z z=>True.intro⟩;subst hb;have hk:=Vq (N:=17) (by decide) (by decide) t.V t.κ H.ok G false J X none t.p2 0 s.toks (s.toks+1) (s.toks+2) (s.toks+3) 0 e2 [] t.l' [] t.o2 true SK (by decide) H.fits (λz h=>nomatch h) H.p2 (λh=>absurd rfl h) (by rw[hw];exact rR (MC ..) H.n) rfl H.kids;simp only[H.d,H.r,H.g,H.bl]at hk;have Z:=low.nd;rw[bM,fi]at Z;refine q8 hk ok hL (aT [lL (Y0+30) Y1] (lL (Y0+17) Y1) rfl hn) (aT [lL (Y0+1200) Y1] (lL (Y0+(Ax.m 40 17)) Y1) rfl hU) Y.st ?_ (λp hp=>⟨Y.ro _ (bL _ hp),λe=>?_,low.off p (bD _ (bL _ hp))⟩) ?_ (λz=>⟨rfl,rfl,rfl,rfl,?_⟩) (λz=>rfl)
 ·show(_++(G.ro++[])).Perm _;exact rR (dQ ..) (.refl _)
 ·refine Z.2.2 k.L ?_ p.1 (b6 (bL _ hp)) e.symm;exact rR bM (bD _ (aB az))
 ·have:=Z.2.1;rw[bM,fi]at this;exact this.1
 ·show(_++(G.ro++[])).Perm _;rw[dQ]
open Classical in
theorem aPj(W f A x y H c r:List α):cF ((W++(f++A))++(((x++y)++H)++(c++r))) (((x++H)++(c++f))++(y++(W++(A++r)))):=by rw[jf];intro z;simp only[ie];ac_rfl
open Classical in
theorem aPk(W f A x y H c r:List α):cF (((x++H)++(c++f))++(y++(W++(A++r)))) ((((x++y)++H)++(c++f))++(W++(A++r))):=by rw[jf];intro z;simp only[ie];ac_rfl
theorem aPl(H:List Str)(y:Nat->Nat):∃J:List (Str×ab),J.map (·.1)=H/\bn H y=pI J:=by
 refine⟨H.mapIdx λi s=>(s,y (100+i)),?_,?_⟩
 ·refine jG λi=>?_;rw[dL,gA];induction H[i]?<;>rfl
 ·show bn H y=qH _ _;unfold bn;refine jG λi=>?_;simp only[dL,gA,gA];induction H[i]?<;>rfl
section
variable {k:Nat->ab}
theorem aPm(X1:aK w ar)(aU:ar.NoLimit)(Y:A.handled=none)(hd:A.depth+9<=bk)(hu:A.units+23< dP)(h1:∃o,ar.get? 1=some o)(hr:rows=[r0,r1,r2,r3])(ok:yK V.b rows){H:List (Str×ab)}(hl:sA ((H.map (·.1)).toArray.foldl (· +·.length+("":Str).length) 0)=false)(Z:(jA V.b rows).length<=gz)(hS:je "" (H.map (·.1))=jA V.b rows)(SR:ay True ar ak (((V.W,listOf (pI H).toArray e)::(L,V.aJ w k 7)::f9 V.R re rows)++ro) s)(h:∀s',ay True ar ak (((V.W,listOf (pI H).toArray e)::(L,V.aJ w k 7)::f9 V.R re rows)++ro) s'->Q .next s'):aG (av w) A (aV ((cM.drop 9).take 1) (ff L)) Q E s:=by subst hr;generalize Ln:jA V.b [r0,r1,r2,r3]=T at Z hS;refine dq SR X1 aU Y 9 600 [2,2,0,2,2,0,2,777,2] _ (λaQ J X2 N2 z=>?_) hd _ _ _ _ (λH=>Lb.2.1 w L V k _ _ re e H _ T r0 r1 r2 r3) λH s' H z z z=>h s' H;refine KD hl Z hS λa z=>⟨rfl,by decide,?_,λb z z=>VC (by simp) λz z=>True.intro⟩;exact BR h1 λZ H=>Ln▸aNr X2 N2 ⟨Z,J.st _ _ H⟩ Y (aT [lE (Y0+9) Y1] (lE (Y0+5) Y1) rfl hd) hu V.R re V.b _ (dF 1 3) ok
theorem aPn(Y:aK w ar)(aU:ar.NoLimit)(hA:A.handled=none)(hd:A.depth+5<=bk){x:Str}(J:ay True ar ak ((X.im w [.str x t1] e2++[(L+1,b9 (some (.ref X.lx))),(L,V.aJ w k 7)])++ro) s)(h:∀t2 s',ay True ar ak ((X.im w [.str x t1, .str "h" t2] (e2+1)++[(L+1,b9 (some (.ref X.lx))),(L,V.aJ w k 7)])++ro) s'->Q .next s'):aG (av w) A (aV ((cM.drop 10).take 1) (ff L)) Q E s:=by refine dq J Y aU hA 5 600 (dN 18 0x4010400000200002000024) (.cons _ _ _ _ _ λz=> .nil) (λaQ J Z H z=>⟨rfl,uY,CY Z H X "h" s.toks (some (x,t1)) e2,λz z z=>True.intro⟩) hd _ _ _ _ (λH=>Lb.2.2 ..) λH s' H z z z=>h _ s' H
theorem aPo(X1:aK w ar)(aU:ar.NoLimit)(hA:A.handled=none)(hd:A.depth+9<=bk){l:List (Nat×ab)}(Z:fb [] l [])(hz:l.length<=1000)(SR:ay True ar ak ((X.cC w l [.str dE t1, .str "h" t2] e2++[(L+1,b9 (some (.ref X.lx))),(L,V.aJ w k 7)])++ro) s)(h:∀(Y:LV)(H:LX)k' t3 s',Y.T=V.T->H.n=X.n+aL l->H.lx=X.lx->ay True ar ak (((Y.E,listOf [ag.str dE t1, .str "h" t2, .str dE t3].toArray 3)::(LX.cC H w [] [] (e2+2)++[(L+1,b9 (some (.ref H.lx))),(L,Y.aJ w k' 8)]))++ro) s'->Q .next s'):aG (av w) A (aV ((cM.drop 11).take 1) (ff L)) Q E s:=by refine fN SR X1 aU hA 9 900 _ [3,6,7,8,9,10,11,12,13,14,15,16] _ (λaQ H X2 J z=>?_) hd (by decide) _ _ _ _ (λH=>aOb ..) λH s' Y z z z=>h { V with E:=s.heap.objs.size+2 } { X with n:=X.n+aL l,tn:=H 2 3,e1:=H 2 4 } _ _ s' rfl rfl rfl Y;exact⟨rfl,by decide,CX X2 J X dE t1 (some ("h",t2)) e2,λz z z=>⟨rfl,by decide,CX X2 J X "h" t2 none _,λz z z=>⟨rfl,by decide,Hv X2 J Z X _ _ hz (by decide) (bw (bR [] (lE (Y0+Y1) (Y0+(Y1-0))) rfl) (bR [] (lE (Y0+(Y1-0)) (Y0+Y1)) rfl)),λz z z=>True.intro⟩⟩⟩
theorem aPp(Z:aK w ar)(Y:ar.NoLimit)(J:A.handled=none)(hd:A.depth+9<=bk)(hu:A.units+23< dP)(h1:∃o,ar.get? 1=some o)(hr:rows=[r0,r1,r2,r3])(ok:yK V.b rows){H:List Str}{y:Nat->Nat}(hl:sA (H.toArray.foldl (· +·.length+("":Str).length) 0)=false)(hz:(jA V.b rows).length<=gz)(hS:je "" H=jA V.b rows){l:List (Nat×ab)}(rel:fb [] l [])(hzl:l.length<=1000){n:Int}(hn:((ka V.T "\n" 0 V.T.length (V.T.length+1)).length:Int)=n)(hX:X.n+aL l=1+n)(SR:ay True ar ak (((V.W,listOf (bn H y).toArray e)::(L,V.aJ w k 7)::f9 V.R re rows)++(X.cC w l [.str dE t1] e2++((L+1,b9 (some (.ref X.lx)))::ro))) s)(h:∀s' led,ay True ar ak led s'->(∀p∈ro,p∈led)->Q (.ret (.bool true)) s'):aG (av w) A (aV ((cM.drop 9).take 1++((cM.drop 10).take 1++((cM.drop 11).take 1++cM.drop 12))) (ff L)) Q E s:=by refine aO (aPl H y) λH H hv2=>?_;rw[hv2]at SR;rw[<-H]at hl hS;refine da (aPm Z Y J hd hu h1 hr ok hl hz hS SR λH H=>?_);refine da (aPn Z Y J (aT [lE (Y0+9) Y1] (lE (Y0+5) Y1) rfl hd) (bj H (aPj [_] [_] _ [_,_] ((X.led w l).drop 2) [_] [_] _)) λt2 H H=>?_);refine da (aPo Z Y J hd rel hzl (bj H (aPk [_] [_] _ [_,_] _ [_] [_] _)) λH H H H H a1 a2 H H=>?_);rw[<-a1]at hn;refine aO1 Z Y J (aT [lE (Y0+9) Y1] (lE (Y0+5) Y1) rfl hd) (aT [lL (Y0+23) Y1] (lL Y0 Y1) rfl hu) hn (rR a2 hX) (by exact H) λH J=>h H _ J λp H=>aB (bD _ H)
end
open Classical in
theorem aPq(A f c tb o:List α):cF ((A++f)++(c++(tb++o))) ((A++(tb++(c++f)))++o):=by rw[jf];intro z;simp only[ie];ac_rfl
open Classical in
theorem aPr(X H W A tb c f o:List α):cF ((X++((H++(W++A))++(tb++(c++f))))++o) ((W++f)++(o++((X++H)++(c++(A++tb))))):=by rw[jf];intro z;simp only[ie];ac_rfl
open Classical in
theorem aPs(T f G X c A tb:List α):cF (T++(f++(G++(X++(c++(A++tb)))))) ((X++(c++f))++(T++(G++(A++tb)))):=by rw[jf];intro z;simp only[ie];ac_rfl
open Classical in
theorem aPt(T f G X c A tb:List α):cF ((X++(c++f))++(T++(G++(A++tb)))) (((T++X)++(c++f))++(G++(A++tb))):=by rw[jf];intro z;simp only[ie];ac_rfl
open Classical in
theorem aPu(a W p f G X c A tb:List α):cF ((((a++(W++p))++X)++(c++f))++(G++(A++tb))) ((W++(f++A))++(X++(c++(a++(p++(G++tb)))))):=by rw[jf];intro z;simp only[ie];ac_rfl
abbrev kR(p:Nat->PR):List FR:=gg p λ_=>0
structure Lo(w:aj)(b:Bool)(p:Nat->PR):Prop where
 fok:∀y,∀r∈gg p y,r.Ok
 fw:∀s∈(kR p).flatMap cu,s.length<=100
 len:(fQ (kR p)).length<=1000
 jh:∀y,yK b (gg p y)
 dt:∀y,jA b (gg p y)=jA b (kR p)
 dz:(jA b (kR p)).length<=gz
 tell:∀l:List (Nat×ab),l.map (·.1)=(fQ (kR p)).cps.toList->∃t:uF,t.Ok w b l/\t.l'.length<=1000/\je "" (t.outs b)=jA b (kR p)/\sA ((t.outs b).toArray.foldl (· +·.length+("":Str).length) 0)=false/\((ka (fQ (kR p)) "\n" 0 (fQ (kR p)).length ((fQ (kR p)).length+1)).length:Int)=aL l
theorem aPv(p:Nat->PR)(y z:Nat->Nat):(gg p y).flatMap cu=(gg p z).flatMap cu:=by unfold gg;simp only[jg,nQ];simp only[uE (p 0) y z 3 3,uE (p 1) y z 10 10,uE (p 2) y z 17 17,uE (p 3) y z 24 24]
theorem aPw{k:KX}(ok:k.Ok w)(hL:k.aa.objs.size<=k.L)(hn:k.dp+30< bk)(hU:k.un+1200< dP)(h1:∃o,k.aa.get? 1=some o){d:Option af}{v:List ag}(hS:k.aa.get? S=some (iS d vs e sl)){T:Nat->RT}{p:Nat->PR}{b:Bool}(sc:Fa vs T p v sm b)(J:Lo w b p){kt:Nat->ab}(SR:ay True k.aa ak ([(k.L+1,b9 none),(k.L,(K7 S).aJ w kt 1)]++[(252,jI #[]),(123,jI #[])]) s)(h:∀s' led a b,ay True k.aa ak led s'->(252,jI a)∈led->(123,jI b)∈led->Q (.ret (.bool true)) s'):aG (av w) k.bE (aV cM (ff k.L)) Q E s:=by
 have Z:=ok.X;have aU:=ok.T.nolimit;obtain⟨H,VF⟩:∃H,H=K7 S:=⟨_,rfl⟩
 rw[<-VF]at SR;have eS:H.S=S:=by rw[VF];rfl
 rw[<-eS]at hS;refine rR aOx (da ?_);refine aO9 Z aU rfl (aT [lL (Y0+30) Y1] (lE (Y0+5) Y1) rfl hn) hS sc (bj SR (jK ..)) λH y k1 s1 e1 S1=>?_;have b1:H.b=b:=by rw[e1]
 have hT:fQ (gg p y)=fQ (kR p):=aO7 ..;have m9:=J.fok y;have VG:∀s∈(gg p y).flatMap cu,s.length<=100:=rR (aPv p y λ_=>0) J.fw;have VH:=J.jh y;have sL:=J.dt y;refine YX (⟨_,_,_,_,rfl⟩:∃r0 r1 r2 r3,gg p y=[r0,r1,r2,r3]) λr0 r1 r2 r3 hr=>?_;obtain⟨rows,Y⟩:∃rows,rows=gg p y:=⟨_,rfl⟩
 rw[<-Y]at S1 hT m9 VG VH sL hr;refine da (aPa Z aU rfl (aT [lL (Y0+30) Y1] (lE (Y0+6) Y1) rfl hn) (aT [lL (Y0+1200) Y1] (lL (Y0+23) Y1) rfl hU) hr m9 VG (rR hT J.len) (bj S1 (aPq _ [_] [_] [_] [_])) λV2 X l H H tA x1 H vT H H vb H S2=>?_);rw[hT]at H vT;refine M2 (J.tell l H) λt Y tz tS tl tn=>?_;have Lr:l.length<=1000:=by have:=J.len;exact rL (dA ..) (rR (H ..) (rR (nP ..) this))
 refine aPg Z aU rfl (by exact aT [lL (Y0+30) Y1] (lE (Y0+5) Y1) rfl hn) (bj S2 (aPr (X.led w l) [_] [_] (f9 V2.R 4 rows) [_] [_] [_] [_])) λV3 G wm k3 H H a2 a3 a4 a5 a6 H SK S3=>da (aPh Z aU rfl (aT [lL (Y0+30) Y1] (lE (Y0+9) Y1) rfl hn) Y.rel Lr rfl (bj S3 (aPs _ [_] G.ro _ [_] _ [_])) λX' s4 n4 l4 S4=>?_);have b3:G.b=b:=by rw[H,vb,b1]
 refine da (aPi ok hL hn hU Y a6 b3 SK rfl (bj S4 (aPt _ [_] G.ro _ [_] _ [_])) λH s5 S5=>?_);rw[a2.symm]at S5;have b4:V3.b=b:=by rw[a3,vb,b1]
 have S6:ay True k.aa ak (((V3.W,listOf (bn (t.outs b) H).toArray (H 8))::(k.L,V3.aJ w k3 7)::f9 V3.R 4 rows)++((X'.bV (X'.n+(aL t.V.l - aL t.l')) H).cC w t.l' [.str dE (H 22)] (H 10)++((k.L+1,b9 (some (.ref X'.lx)))::((mJ w (t.κ.p (H 23)) (G.bV true H) ((By wm V2.W).bV (t.outs b) H) [] (H 7)).take 7++([(G.ps,listOf [dX false].toArray (H 9))]++(G.ro++[(252,z7 tA)])))))) s5:=by exact rR a5 (bj S5 (aPu (List.take 7 (mJ w (t.κ.p (H 23)) (G.bV true H) ((By wm V2.W).bV (t.outs b) H) [] (H 7))) [_] [_] [_] G.ro _ [_] _ [_]))
 refine aPp (n:=aL l) Z aU rfl (aT [lL (Y0+30) Y1] (lE (Y0+9) Y1) rfl hn) (aT [lL (Y0+1200) Y1] (lL (Y0+23) Y1) rfl hU) h1 hr (rR b4 VH) tl (rR b4 (rR sL J.dz)) (rR b4 (rR sL tS)) Y.eof tz (rR a4 (rR vT tn)) ?_ S6 λY led Z J=>h Y led _ _ Z (J (252,z7 tA) (bD _ (bD [_] (bD G.ro az)))) (J (123,iz (H 23)) (bL _ az));exact rR n4 (rR x1 (bw (g9 [] (lE (1+(Y0-Y1)+(Y1-Y2)+Y2) (1+Y0)) rfl) (g9 [] (lE (1+Y0) (1+(Y0-Y1)+(Y1-Y2)+Y2)) rfl)))
abbrev VI:Str:=nc ("law")
def uG:Scope:=nc (oX.scope)
theorem aPy(L:Nat):ff L=sy VI ⟨.function,uG.names,uG.isGenerator,uG.isCoroutine,uG.more⟩ L 272 oX.code [("lexer",L+1)]:=by kernel_rfl
abbrev yM:List (af×af):=nc ([(256,252),(125,123)])
theorem aPz{H:am}{p:c9}{lo:List Str}{sO:WX->Option ag}{mg mb:Str->Option ag}(XS:aK w H.heap)(T:Top p lo sO mg mb H.heap)(J:TabsAt yM H.heap)(hg:H.gens=#[])(h1:∃o,H.heap.get? 1=some o){d:Option af}{v:List ag}(hS:H.heap.get? S=some (iS d vs e sl)){TT:Nat->RT}{pr:Nat->PR}{b:Bool}(sc:Fa vs TT pr v sm b)(pl:Lo w b pr)(h:∀s',OldK H.heap s'.heap->s'.os=H.os->AllBare s'.gens->R (.ok (.ret (.bool true))) s'):eC (av w) uZ (gF 272 [.ref S]) R H:=by
 have XG:=ghost_K J XS (by kernel_rfl);have VJ:=ghost_top J T;have SR:ay True (YB H.heap yM) H [(252,jI #[]),(123,jI #[])] H:=by
  refine⟨⟨λp hp=>?_,by decide,λb o e=>y6 _ e,λp hp=>y7 _ ?_⟩,rfl,λz x hx=>by rw[hg]at hx;simp at hx, .inl True.intro⟩
  ·rcases a9.mp hp with rfl|hp
   ·exact(J _ az).2
   ·exact rR (bI.mp hp) ((J _ (aB az)).2)
  ·rcases a9.mp hp with rfl|hp
   ·exact az
   ·exact rR (bI.mp hp) (aB az)
 refine FO (show uZ.depth< bk by decide) (XS _ _ (aNv w)) rfl (by kernel_rfl) (by kernel_rfl) (body:=cM) (by kernel_rfl) (BQ XS (by kernel_rfl)) (gK SR XG rfl 0 0 400 [] .nil (λz=>True.intro) nofun (a8 _) _ _ _ _ (λσ=>K8.1 ..) λσ0 s2 S2 oi qT z=>?_);have e1:=λσ=>K8.2.1 w S H.heap.objs.size H.toks σ [(252,jI #[]),(123,jI #[])];replace e1:=qT▸(oi▸e1)
 refine gK S2 XG rfl 0 0 400 [2,2] .nil (λz=>True.intro) nofun (a8 _) _ _ _ _ e1 λσ s3 S3 QW I0 z=>⟨(VJ.nolimit.keeps (λb o e=>S3.h.keep b o e)),Mw ?_⟩
 rw[oi]at S3 ⊢;refine rR (aPy ..) ?_;let k:KX:=⟨topProg,lo++qH (λx=>x.name) (recsOf p)++qH (λx=>x.fst) (litsOf p)++qH (λx=>x.name) (clssOf p lo),sO,mg,mb,uZ.depth+1,uZ.units+3,uZ.guards,VI,uG.names,uG.isGenerator,uG.isCoroutine,uG.more,272,oX.code,[("lexer",H.heap.objs.size+1)],[],uZ,YB H.heap yM,YB H.heap yM,H.heap.objs.size⟩
 obtain⟨o1,vQ⟩:=h1;refine aPw (k:=k) (⟨ghost_below J,XG,VJ,(ghost_code J).1⟩) (qu (hideAll_size _ _)) (show uZ.depth+1+30< bk by decide) (show uZ.units+3+1200< dP by decide) ⟨o1,YC vQ (by decide)⟩ (ghost_get J hS λq=>absurd (congrArg Obj.cls q) nofun) sc pl S3 λs' led a b Y m1 H=>?_;have g1:=Y.h.at_ _ m1;have g2:=Y.h.at_ _ H;refine h s' ⟨λb o e=>?_,λb o e=>?_⟩ Y.os (Y.gens True.intro)
 ·by_cases Z:b∈yM.map (·.2)
  ·obtain⟨q,hq,rfl⟩:=bq.mp Z;have e2:=(J q hq).2;rw[e]at e2;obtain rfl:=dG e2;refine .inr (.inl ⟨((J q hq).1.tab (J q hq).2).isCodeTable,rfl,#[],?_⟩);rcases a9.mp hq with rfl|hq
   ·exact⟨_,rfl,rR aWb g1⟩
   ·obtain rfl:=bI.mp hq;exact⟨_,rfl,rR aWb g2⟩
  ·exact .inl (Y.h.keep b o (YC e Z))
 ·by_cases Z:b∈yM.map (·.2)
  ·obtain⟨q,hq,rfl⟩:=bq.mp Z;rcases a9.mp hq with rfl|hq
   ·exact⟨_,g1⟩
   ·obtain rfl:=bI.mp hq;exact⟨_,g2⟩
  ·exact⟨o,Y.h.keep b o (YC e Z)⟩
def signs:List Nat:=nc ([97,38,60,62,34,92,32,10,9,13])
def o8:List (List Nat):=nc ([[],[97],[38],[60],[62],[34],[92],[32],[10],[9],[13]])
def wK:List Int:=nc ([4,3,2,1,4,3,2,0])
structure PR.Ok(p:PR):Prop where
 nm:p.nm.length<=2
 na:∀c∈p.nm,c∈signs
 dr:p.dr< 3
 Fb:0<=p.tu
 tu:p.tu< 64
 wL:0<=p.sh
 sh:p.sh<=4
 wM:0<=p.va
 va:p.va<=4
structure Ls(p:Nat->PR):Prop where
 ok:∀i,(p i).Ok
 d0:(p 0).dp=0
 d1:(p 1).dp=1
 d2:1<=(p 2).dp/\(p 2).dp<=2
 d3:1<=(p 3).dp/\(p 3).dp<=(p 2).dp+1
section
variable (vs:List ag)(h k d:Int)
def Lu:List Value:=nc ((y5 vs.toArray none (some 60) none).toList)
def Lw:List Value:=(y5 (Lu vs).toArray (some k) none (some 4)).toList
def fh:Int:=(h+(y4 (Lw vs k)).sum).fmod 4460544
def rW(c:Int)(n:Int):Nat:=(((fh vs h k).fdiv c).fmod n).toNat
def Fc:Nat:=((((fh vs h k).fdiv 363).fdiv 192).fmod 8).toNat
def Bz:Nat:=(((fh vs h k).fdiv 363).fdiv 1536).toNat
def yN:PR:=⟨min d (1+(fh vs h k).fmod 3),o8.getD (rW vs h k 3 11) []++o8.getD (rW vs h k 33 11) [],(((fh vs h k).fdiv 363).fmod 3).toNat,(((fh vs h k).fdiv 363).fdiv 3).fmod 64,wK.getD (Fc vs h k) 0,wK.getD (Bz vs h k) 0⟩
def yO:RT:=⟨Lu vs,Lw vs k,(y4 (Lw vs k)).sum,min d (1+(fh vs h k).fmod 3),rW vs h k 3 11,rW vs h k 33 11,Fc vs h k,Bz vs h k,aW (o8.getD (rW vs h k 3 11) []),aW (o8.getD (rW vs h k 33 11) []),aW (o8.getD (rW vs h k 3 11) []++o8.getD (rW vs h k 33 11) []),wK.getD (Fc vs h k) 0,wK.getD (Bz vs h k) 0⟩
end
theorem aP0(vs:List ag)(h k:Int):0<=fh vs h k/\fh vs h k< 4460544:=by unfold fh;exact rR (Gs _ (by decide)) ⟨(aWc _ (by decide)),(aWd _ (by decide))⟩
theorem fm{x n:Int}(hn:0< n):0<=x.fmod n/\x.fmod n< n:=rR (Gs _ (gh hn)) ⟨aWc _ (nL hn),aWd _ hn⟩
theorem Fd{k:Int}(H:0<=k)(J:k< n)(hn:n<=100):xI k n k.toNat:=by
 refine⟨?_,?_⟩;·refine rR (decide_eq_false (λh=>absurd (aV1 h (by decide)) (fG.mpr H))) (rR (decide_eq_false (wP.mpr (iB [_,(n:Nat)] [lL Y0 Y1,lE Y1 100] (lL Y0 9223372036854775808) rfl J (bK.mpr hn)))) ?_);rfl
 ·have e:(if k< 0 then k+(n:Int)else k)=k:=if_neg (fG.mpr (bf [lE 0 Y0] (lE 0 Y0) rfl H));show(if _=true then some (if k< 0 then k+_ else k).toNat else none)=some k.toNat;refine rR e (rR (decide_eq_true H) (rR (decide_eq_true J) ?_));rfl
theorem o9:("":Str)=aW []/\("a":Str)=aW [97]/\("&":Str)=aW [38]/\("<":Str)=aW [60]/\(">":Str)=aW [62]/\("\"":Str)=aW [34]/\("\\":Str)=aW [92]/\(" ":Str)=aW [32]/\("\n":Str)=aW [10]/\("\t":Str)=aW [9]/\("\r":Str)=aW [13]:=by decide+kernel
theorem VK(b j:Nat)(h:j< 11):(z9 b)[j]?=some (.str (aW (o8.getD j [])) (b+6+j)):=by
 have k:∀{x y:Str}{n m:Nat},x=y->n=m->some (ag.str x n)=some (ag.str y m):=λh h'=>by rw[h,h']
 match j,h with
 |0,_=>exact k o9.1 rfl|1,_=>exact k o9.2.1 rfl|2,_=>exact k o9.2.2.1 rfl|3,_=>exact k o9.2.2.2.1 rfl|4,_=>exact k o9.2.2.2.2.1 rfl|5,_=>exact k o9.2.2.2.2.2.1 rfl|6,_=>exact k o9.2.2.2.2.2.2.1 rfl|7,_=>exact k o9.2.2.2.2.2.2.2.1 rfl|8,_=>exact k o9.2.2.2.2.2.2.2.2.1 rfl|9,_=>exact k o9.2.2.2.2.2.2.2.2.2.1 rfl|10,_=>exact k o9.2.2.2.2.2.2.2.2.2.2 rfl|n+11,h=>exact absurd h (dw.mpr (dF ..))
theorem VL(b j:Nat)(h:j< 8):(Aa b)[j]?=some (.int (wK.getD j 0) (b+18+j)):=by
 match j,h with
 |0,_=>rfl|1,_=>rfl|2,_=>rfl|3,_=>rfl|4,_=>rfl|5,_=>rfl|6,_=>rfl|7,_=>rfl|n+8,h=>exact absurd h (dw.mpr (dF ..))
theorem Fe:∀j< 11,(o8.getD j []).length<=1/\∀c∈o8.getD j [],c∈signs:=by decide
theorem VM:∀j< 8,0<=wK.getD j 0/\wK.getD j 0<=4:=by decide
theorem aP1(a b:List Nat):aW a++aW b=aW (a++b):=by
 show(⟨a.toArray++b.toArray⟩:Str)=⟨(a++b).toArray⟩
 exact rR (FW ..) rfl
section
variable (hi:zk vs ns)(h k d:Int)
theorem jx(c:Int)(vs:List ag):rW vs h k c 11< 11:=by have:=fm (x:=(fh vs h k).fdiv c) (n:=11) (by decide);exact cb.mp (bR [lL Y1 11,eQ Y0 Y1] (lL Y0 11) rfl this.2 (mR (this.1)))
theorem VN(vs:List ag):(0<=((fh vs h k).fdiv 363).fdiv 1536/\((fh vs h k).fdiv 363).fdiv 1536< 8)/\Fc vs h k< 8/\Bz vs h k< 8:=by
 have b:=aP0 vs h k;have e:((fh vs h k).fdiv 363).fdiv 1536=fh vs h k / 363 / 1536:=by rw[BM _ (by decide),BM _ (by decide)]
 have c:=fm (x:=((fh vs h k).fdiv 363).fdiv 192) (n:=8) (by decide);refine⟨by rw[e];exact⟨jN [lE 0 Y1,lL Y2 ((Ax.m 1536 Y0)+1536),lL Y1 ((Ax.m 363 Y2)+363)] (lE 0 Y0) [1,363,1] 557568 rfl b.1 (Cd (by decide)) (Cd (by decide)),jN [lL Y1 4460544,lE (Ax.m 1536 Y0) Y2,lE (Ax.m 363 Y2) Y1] (lL Y0 8) [1,363,1] 557568 rfl b.2 (Ce (by decide)) (Ce (by decide))⟩,?_,?_⟩;·exact cb.mp (bR [lL Y1 8,eQ Y0 Y1] (lL Y0 8) rfl c.2 (mR (c.1)))
 ·unfold Bz;exact rR e (cb.mp (Zm [lL Y1 4460544,eQ Y0 Y2,lE (Ax.m 1536 Y2) Y3,lE (Ax.m 363 Y3) Y1] (lL Y0 8) [1,557568,363,1] 557568 rfl b.2 (mR (jN [lE 0 Y1,lL Y2 ((Ax.m 1536 Y0)+1536),lL Y1 ((Ax.m 363 Y2)+363)] (lE 0 Y0) [1,363,1] 557568 rfl b.1 (Cd (by decide)) (Cd (by decide)))) (Ce (by decide)) (Ce (by decide))))
include hi in
theorem Ff:(yO vs h k d).Ok vs h k d:=by
 have J:=fm (x:=(fh vs h k).fdiv 3) (n:=11) (by decide);have Y:=fm (x:=(fh vs h k).fdiv 33) (n:=11) (by decide);have Z:=fm (x:=((fh vs h k).fdiv 363).fdiv 192) (n:=8) (by decide);obtain⟨j4,Lx,Ly⟩:=VN ..;refine⟨rfl,rfl,?_,rfl,rfl,Fd J.1 J.2 (by decide),λb=>VK b _ (jx ..),Fd Y.1 Y.2 (by decide),λb=>VK b _ (jx ..),aP1 _ _,?_,Fd Z.1 Z.2 (by decide),λb=>VL b _ Lx,Fd j4.1 j4.2 (by decide),λb=>VL b _ Ly⟩
 ·intro v H;have:∀{vs:List ag}{ns:List Int},zk vs ns->∀v∈vs,∃a t,v= .int a t:=λh=>by
   induction h with
   |nil=>exact λz h=>nomatch h|cons n t _ ih=>exact λv H=>(a9.mp H).elim (λe=>⟨n,t,e⟩) (ih v)
  exact this (IntsAre.pick (hi.pick ..) ..) v (Gk.mp H)
 ·show(o8.getD _ []).toArray.size+(o8.getD _ []).toArray.size<=100;exact aT [lE Y0 1,lE Y1 1] (lE (Y0+Y1) 100) rfl (Fe _ (jx ..)).1 (Fe _ (jx ..)).1
theorem Fg(vs:List ag):(yN vs h k d).Ok:=by
 obtain⟨J,H,Z⟩:=VN ..;have p1:=Fe _ (jx h k 3 vs);have p2:=Fe _ (jx h k 33 vs);have J:=fm (x:=((fh vs h k).fdiv 363).fdiv 3) (n:=64) (by decide);have fd:=fm (x:=(fh vs h k).fdiv 363) (n:=3) (by decide);have Y:=VM _ H;have H:=VM _ Z;refine⟨?_,λc hc=>?_,?_,J.1,J.2,Y.1,Y.2,H.1,H.2⟩
 ·show(_++_:List Nat).length<=2;exact rR bQ (FL p1.1 p2.1)
 ·rcases cq.mp hc with hc|hc
  ·exact p1.2 c hc
  ·exact p2.2 c hc
 ·exact cb.mp (bR [lL Y1 3,eQ Y0 Y1] (lL Y0 3) rfl fd.2 (mR (fd.1)))
theorem Fh(vs:List ag):(yO vs h k d).Is h (yN vs h k d):=by have fd:=fm (x:=(fh vs h k).fdiv 363) (n:=3) (by decide);refine⟨rfl,rfl,?_,rfl,rfl,rfl⟩;exact bw (cN [eQ Y1 Y0] (lE Y0 Y1) [-1] 1 rfl (mR (fd.1))) (bR [eQ Y0 Y1] (lE Y0 Y1) rfl (mR (fd.1)))
end
theorem aP2(J:zk vs ns)(hz:vs.length<=63):∃T p v sm b,Fa vs T p v sm b/\Ls p:=by
 let d1:=min 0 (1+(fh vs 5514 0).fmod 3)+1;let Y:=min d1 (1+(fh vs 693213 1).fmod 3)+1;let d3:=min Y (1+(fh vs 163261 2).fmod 3)+1;have H:=fm (x:=fh vs 5514 0) (n:=3) (by decide);have Z:=fm (x:=fh vs 693213 1) (n:=3) (by decide);have f2:=fm (x:=fh vs 163261 2) (n:=3) (by decide);refine⟨λi=>match i with|0=>yO vs 5514 0 0|1=>yO vs 693213 1 d1|2=>yO vs 163261 2 Y|_=>yO vs 1603350 3 d3,λi=>match i with|0=>yN vs 5514 0 0|1=>yN vs 693213 1 d1|2=>yN vs 163261 2 Y|_=>yN ..,Lu vs,(y4 _).sum,_==1,⟨Ff J ..,Ff J ..,Ff J ..,Ff J ..,Fh ..,Fh ..,Fh ..,Fh ..,aE hz (by decide),rfl,?_,rfl,rfl⟩,⟨λi=>?_,?_,?_,?_,?_⟩⟩
 ·intro v hv;have:∀{vs:List ag}{ns:List Int},zk vs ns->∀v∈vs,∃a t,v= .int a t:=λh=>by
   induction h with
   |nil=>exact λz h=>nomatch h|cons n t _ ih=>exact λv hv=>(a9.mp hv).elim (λe=>⟨n,t,e⟩) (ih v)
  exact this (J.pick none _ none) v (Gk.mp hv)
 ·match i with
  |0=>exact Fg ..|1=>exact Fg ..|2=>exact Fg ..|n+3=>exact Fg ..
 ·exact bw (bf [eQ Y0 0] (lE Y0 0) rfl (BF (bf [lE 0 Y0] (lE 0 (1+Y0)) rfl H.1))) (g8 [eQ Y0 0] (lE 0 Y0) [-1] 1 rfl (BF (bf [lE 0 Y0] (lE 0 (1+Y0)) rfl H.1)))
 ·exact Zh H Z
 ·exact Nc H Z f2
 ·exact Zi (Nc H Z f2).1 (fm (by decide))
noncomputable def rX(b:Bool)(κ:Nat)(n:Int):List (Nat×Int):=match b with
 |true=>[]|false=>[(κ,n)]
noncomputable def Lz(b:Bool)(l:List (Nat×Int)):List (Nat×Int):=match b with
 |true=>l.reverse|false=>l
def qp(p:PR):List (Nat×Int):=Lz (decide (p.tu % 2=1)) (rX (decide (p.tu=0)) 0 p.tu++(rX (decide (p.sh=4)) 1 p.sh++rX (decide (p.va=4)) 2 p.va))
def uH(dr:Nat)(l:List (Nat×Int)):List (Nat×List Nat):=l.flatMap λq=>[(dr,tH q.1),(dr,eX q.2)]
def nI(p:PR):List (Nat×List Nat):=(p.dr,eX p.dp)::(p.dr,p.nm)::uH p.dr (qp p)
def spS(q:Nat×List Nat):Str:=aW (gJ q.1 q.2)
theorem Fi:("h":Str)≠"s"/\("h":Str)≠"v"/\("s":Str)≠"v":=by decide+kernel
theorem aP3(n:Int)(t:ab)(z:Nat)(u:ab):b8 ⟨z,"h",t,n,u⟩=decide (n=0):=by
 show(decide _||_)=_;by_cases h:n=0;·rw[decide_eq_true h,decide_eq_true ⟨rfl,h.symm⟩];rfl
 ·rw[decide_eq_false h,decide_eq_false λq=>h q.2.symm];rfl
theorem aP4(n:Int)(t:ab)(z:Nat)(u:ab):b8 ⟨z,"s",t,n,u⟩=decide (n=4):=by
 show(decide (("h":Str)="s"/\(0:Int)=n)||(decide (("s":Str)="s"/\(4:Int)=n)||(decide (("v":Str)="s"/\(4:Int)=n)||false)))=_;rw[decide_eq_false (λh:("h":Str)="s"/\_=n=>Fi.1 h.1),decide_eq_false (λh:("v":Str)="s"/\_=n=>Fi.2.2 h.1.symm)];by_cases h:n=4;·rw[decide_eq_true h,decide_eq_true ⟨rfl,h.symm⟩];rfl
 ·rw[decide_eq_false h,decide_eq_false λq=>h q.2.symm];rfl
theorem aP5(n:Int)(t:ab)(z:Nat)(u:ab):b8 ⟨z,"v",t,n,u⟩=decide (n=4):=by
 show(decide (("h":Str)="v"/\(0:Int)=n)||(decide (("s":Str)="v"/\(4:Int)=n)||(decide (("v":Str)="v"/\(4:Int)=n)||false)))=_;rw[decide_eq_false (λh:("h":Str)="v"/\_=n=>Fi.2.1 h.1),decide_eq_false (λh:("s":Str)="v"/\_=n=>Fi.2.2 h.1)];by_cases h:n=4;·rw[decide_eq_true h,decide_eq_true ⟨rfl,h.symm⟩];rfl
 ·rw[decide_eq_false h,decide_eq_false λq=>h q.2.symm];rfl
theorem aP6(p:PR)(y:Nat->Nat)(k:Nat):cu (p.at_ y k)=(nI p).map spS:=by unfold cu oW nI qp;simp only[show b8 (jX (p.at_ y k) 0 0)=decide (p.tu=0)from aP3 ..,show b8 (jY (p.at_ y k) 0 0)=decide (p.sh=4)from aP4 ..,show b8 (jZ (p.at_ y k) 0 0)=decide (p.va=4)from aP5 ..,show jz (p.at_ y k)=decide (p.tu % 2=1)from rfl];cases decide (p.tu % 2=1)<;>cases decide (p.tu=0)<;>cases decide (p.sh=4)<;>cases decide (p.va=4)<;>rfl
theorem Fj(l:List Str):(je "" l).cps.toList=l.flatMap (·.cps.toList):=by
 have J:("":Str).cps=#[]:=by decide+kernel
 have Y:∀(r:List Str)(H:Array Nat),(r.foldl (λH p=>H++("":Str).cps++p.cps) H).toList=H.toList++r.flatMap (·.cps.toList):=by
  intro r;induction r with
  |nil=>intro H;simp only[nQ,dQ];rfl|cons p r ih=>intro H;rw[Gq,ih,jg,J,Array.append_empty,zi,bH]
 induction l with
 |nil=>rfl|cons a r=>show((r.foldl _ a.cps)).toList=_;rw[Y,jg]
theorem aP7:∀(H:List (Nat×List Nat))(j:Nat),((H.map spS).mapIdx λk s=>s++(⟨#[lB (k+j)]⟩:Str)).flatMap (·.cps.toList)=qY j H:=by
 intro H;induction H with
 |nil=>exact λz=>rfl|cons q H ih=>
  intro j;simp only[iJ,aUq,jg];have e:(λ(i:Nat)(s:Str)=>s++(⟨#[lB (i+1+j)]⟩:Str))=λi s=>s++(⟨#[lB (i+(j+1))]⟩:Str):=by funext i s;rw[show i+1+j=i+(j+1) by exact c8 (aT [] (lE (Y0+1+Y1) (Y0+(Y1+1))) rfl) (aT [] (lE (Y0+(Y1+1)) (Y0+1+Y1)) rfl)]
  simp only[e,ih (j+1)];show((gJ q.1 q.2).toArray++#[lB _]).toList++qY _ H=gJ q.1 q.2++lB j::qY _ H;rw[MC,zi,bH];rfl
def rY(p:Nat->PR):List (Nat×List Nat):=nI (p 0)++(nI (p 1)++(nI (p 2)++nI (p 3)))
theorem VQ(p:Nat->PR):(gg p λ_=>0).flatMap cu=(rY p).map spS:=by unfold gg rY;simp only[jg,nQ,aP6,bM,dQ]
theorem VR(p:Nat->PR):(fQ (gg p λ_=>0)).cps.toList=qY 0 (rY p):=by unfold fQ iE;exact rR (Fj ..) (rR (VQ ..) (aP7 _ 0))
theorem aP8:∀i< 64,(eX ((i:Nat):Int)).length<=2/\(∀c∈eX ((i:Nat):Int),c< 128)/\eX ((i:Nat):Int)≠[]/\uR ⟨(eX ((i:Nat):Int)).toArray⟩=some ((i:Nat):Int)/\([⟨#[104]⟩,⟨#[115]⟩,⟨#[118]⟩]:List Str).any (· ==⟨(eX ((i:Nat):Int)).toArray⟩)=false:=by decide+kernel
theorem pa{n:Int}(H:0<=n)(h:n< 64):(eX n).length<=2/\(∀c∈eX n,c< 128)/\eX n≠[]/\uR ⟨(eX n).toArray⟩=some n/\tI (eX n):=by have:=aP8 n.toNat (cb.mp (iB [(n.toNat:Nat),_] [lL Y1 64,eQ Y0 Y1] (lL Y0 64) rfl h (mR (H))));replace this:=(mR H)▸this;exact this
theorem LA:∀c∈signs,c< 128:=by decide
theorem Fl(h:p.Ok)(d0:0<=p.dp)(d1:p.dp< 64)(y:Nat->Nat)(k:Nat):(p.at_ y k).Ok:=by
 have H:∀n:Int,0<=n->n< 64->n.natAbs.log2< 1920:=λn a b=>(Sm.mk a (Mk b (by decide)):Sm n).log;have dg:=pa d0 d1;have Y:=pa h.Fb h.tu;have Z:=pa h.wL (jE h.sh (by decide));have d4:=pa h.wM (jE h.va (by decide));have J:∀x∈(["h","s","v"]:List Str),yz x.cps.toList:=λx hx=>by
  have:∀x∈(["h","s","v"]:List Str),x.cps.toList.length<=2/\∀c∈x.cps.toList,c< 128:=by decide+kernel
  exact⟨(this x hx).1,(this x hx).2⟩
 refine⟨?_,⟨dg.1,dg.2.1⟩,H _ d0 d1,⟨h.nm,λc hc=>LA c (h.na c hc)⟩,⟨J _ az,⟨Y.1,Y.2.1⟩,H _ h.Fb h.tu⟩,⟨J _ (aB az),⟨Z.1,Z.2.1⟩,H _ h.wL (jE h.sh (by decide))⟩,⟨J _ (aB (aB az)),⟨d4.1,d4.2.1⟩,H _ h.wM (jE h.va (by decide))⟩⟩;have:=h.dr;exact(by decide:∀x< 3,x=0\/x=1\/x=2) _ this
theorem VS(H:Bool):∀w:List Nat,(pZ H w).length<=2*w.length
 |[]=>a8 _|c::l=>by have:=VS H l;unfold pZ;simp only[bQ,eH];split<;>simp only[eH,B9]<;>omega
theorem VT:∀w:List Nat,(qX w).length<=2*w.length
 |[]=>a8 _|c::l=>by have:=VT l;unfold qX;simp only[bQ,eH];split<;>simp only[eH,B9]<;>omega
theorem VU(q:Nat×List Nat)(h:q.2.length<=2):(gJ q.1 q.2).length<=6:=by
 unfold gJ;induction quoted q.1 q.2;·exact fz [lE Y1 2,lE Y0 (.m 2 Y1)] (lE Y0 6) [2,1] 1 rfl h (VS _ q.2)
 ·simp only[cond_true,eH,bQ,eH,B9];exact fz [lE Y1 2,lE Y0 (.m 2 Y1)] (lE (Y0+(0+1)+1) 6) [2,1] 1 rfl h (VT q.2)
theorem aP9:∀(H:List (Nat×List Nat))(j:Nat),(∀q∈H,q.2.length<=2)->(qY j H).length<=7*H.length:=by
 intro H;induction H with
 |nil=>exact λz z=>a8 _|cons q H ih=>intro j h;unfold qY;simp only[bQ,eH,eH];exact b7 [lE Y0 6,lE Y1 (.m 7 Y2)] (lE (Y0+(Y1+1)) (.m 7 (Y2+1))) rfl (VU q (h q az)) (ih _ λq H=>h q (aB H))
theorem aQa(h:p.Ok):(qp p).length<=3/\∀q∈qp p,(q=(0,p.tu)\/q=(1,p.sh)\/q=(2,p.va)):=by unfold qp;cases decide (p.tu % 2=1)<;>cases decide (p.tu=0)<;>cases decide (p.sh=4)<;>cases decide (p.va=4)<;>simp[Lz,rX]
theorem VV(h:p.Ok)(H:0<=p.dp)(Y:p.dp< 64):(nI p).length<=8/\∀q∈nI p,q.2.length<=2:=by
 refine d7 (aQa h) λl m=>?_;unfold nI uH;have e:∀ds:List (Nat×Int),(ds.flatMap λq=>[(p.dr,tH q.1),(p.dr,eX q.2)]).length=2*ds.length:=λds=>by
  induction ds with
  |nil=>rfl|cons q ds ih=>simp only[jg,bQ,ih,eH];exact c8 (bu [] (lE (0+1+1+(Ax.m 2 Y0)) (Ax.m 2 (Y0+1))) rfl) (bu [] (lE (Ax.m 2 (Y0+1)) (0+1+1+(Ax.m 2 Y0))) rfl)
 refine⟨?_,λq hq=>?_⟩;·simp only[eH,eH,e];exact qM [lE Y0 3] (lE ((Ax.m 2 Y0)+1+1) 8) [2] 1 rfl l
 ·rcases a9.mp hq with rfl|hq
  ·exact(pa H Y).1
  rcases a9.mp hq with rfl|hq
  ·exact h.nm
  refine aO (X5.mp hq) λr J hq=>?_;rcases a9.mp hq with rfl|hq
  ·have:∀κ,(tH κ).length<=2:=λκ=>by rcases κ with _|_|_|κ<;>exact(by decide:1<=2)
   exact this _
  ·rw[bI.mp hq];rcases m r J with rfl|rfl|rfl
   ·exact(pa h.Fb h.tu).1
   ·exact(pa h.wL (jE h.sh (by decide))).1
   ·exact(pa h.wM (jE h.va (by decide))).1
theorem VW(c:Nat):∀H:List Str,H≠[]->(∀p∈H,c ∉ p.cps.toList)->(Cc ⟨#[c]⟩ H).cps.toList.count c+1=H.length
 |[],h,_=>absurd rfl h|[p],_,h=>by show p.cps.toList.count c+1=1;rw[aWe (h p az)]
 |p::q::r,_,h=>by show(p++⟨#[c]⟩++Cc ⟨#[c]⟩ _).cps.toList.count c+1=_;simp only[Yf,Yf,zi,zi,ie,ie,aWe (h p az),show List.count c (⟨#[c]⟩:Str).cps.toList=1 from by simp];simp only[eH,<-(VW c (q::r) nofun λa H=>h a (aB H))];exact c8 (bu [] (lE (0+1+Y0+1) (Y0+1+1)) rfl) (bu [] (lE (Y0+1+1) (0+1+Y0+1)) rfl)
theorem aQb(x:Str)(c:Nat)(hc:c< 256):(ka x ⟨#[c]⟩ 0 x.length (x.length+1)).length=x.cps.toList.count c:=by
 have H:(Txt.split x ⟨#[c]⟩).length=(ka x ⟨#[c]⟩ 0 x.length (x.length+1)).length+1/\Txt.split x ⟨#[c]⟩≠[]:=by
  unfold Txt.split;split
  ·rename_i h;rcases aR2.mp h with h|h
   ·have Y:=of_decide_eq_true h;refine⟨?_,nofun⟩;induction Z:ka x ⟨#[c]⟩ 0 x.length _ with
    |nil=>rfl|cons i r=>have:=(StrLaws.occ_spec x ⟨#[c]⟩ 0 x.length (x.length+1) i (Z▸az)).1;have e:(⟨#[c]⟩:Str).length=1:=rfl;exact c8 (nA [_,_,_,_,_] [lL Y2 1,lE (Y3+Y4) Y2,eQ Y4 1] (lE Y0 (Y1+1)) [1,1,-1] 0 rfl Y this e) (nA [_,_,_,_,_] [lL Y2 1,lE (Y3+Y4) Y2,eQ Y4 1] (lE (Y0+1) Y1) [1,1,-1] 0 rfl Y this e)
   ·have J:=of_decide_eq_true h;have e:YD ⟨#[c]⟩=1:=by unfold YD;rw[if_pos];simp[hc]
    rw[e]at J;unfold YD at J;split at J;·omega
    ·split at J<;>omega
  ·split
   ·rename_i h;refine⟨?_,nofun⟩;rw[List.isEmpty_iff.mp h];rfl
   ·exact⟨aWf ..,λh=>by have:=congrArg MN h;rw[aWf]at this;injection this⟩
 have:=VW c _ H.2 (aU3 x c);rw[(aU4 x ⟨#[c]⟩)]at this;exact c8 (cz [eQ Y2 (Y0+1),eQ (Y1+1) Y2] (lE Y0 Y1) [-1,-1] 1 rfl H.1 this) (b7 [eQ Y2 (Y1+1),eQ (Y0+1) Y2] (lE Y0 Y1) rfl H.1 this)
theorem aQc(l:List (Nat×ab)):aL l=(((l.map (·.1)).count 10:Nat):Int):=by
 induction l with
 |nil=>rfl|cons p l ih=>
  show _+aL l=_;simp only[ih,iJ,List.count_cons];by_cases h:p.1=10;·rw[if_pos h,if_pos (by rw[h];rfl)];exact bw (bf [] (lE (1+Y0) (Y0+1)) rfl) (bf [] (lE (Y0+1) (1+Y0)) rfl)
  ·rw[if_neg h,if_neg (by simpa using h)];exact bw (bf [] (lE (0+Y0) (Y0+0)) rfl) (bf [] (lE (Y0+0) (0+Y0)) rfl)
theorem aQd{x:Str}{l:List (Nat×ab)}(h:l.map (·.1)=x.cps.toList):((ka x "\n" 0 x.length (x.length+1)).length:Int)=aL l:=by rw[show("\n":Str)=⟨#[10]⟩ by decide+kernel,aQb x 10 (by decide),aQc,h]
section
set_option exponentiation.threshold 3000
def lW(x:UInt64)(k n:Int):SI:=⟨iI x (d6 k),n,bO n⟩
theorem LB{x:UInt64}{k n:Int}(H:lf (d6 k)=false)(h:Is (iI x (d6 k)) z)(J:0<=z)(hn:z / 2 ^ 1074=n)(s:Sm n):(lW x k n).Ok x k:=⟨H,rfl,by have:=h.int J;rw[hn]at this;exact this,s.log,rfl⟩
theorem kT:(lf (d6 64)=false/\lf (d6 1024)=false/\lf (d6 2097152)=false/\lf (d6 4194304)=false)/\jP (d6 64) (64*2 ^ 1074)=true/\jP (d6 2097152) (2097152*2 ^ 1074)=true/\jP (d6 4194304) (4194304*2 ^ 1074)=true/\jP 4618441417868443648 (6*2 ^ 1074)=true:=by decide+kernel
theorem aQe{n:Int}(H:j<=1074):N j (n*2 ^ j)/ 2 ^ 1074=n:=by unfold N;exact rR (pi ..) (rL (wQ ..) (rR (show j+_=1074 by exact c8 (aT [eQ (Y1+Y0) 1074] (lE (Y0+Y1) 1074) rfl (bX (H))) (fz [eQ (Y1+Y0) 1074] (lE 1074 (Y0+Y1)) [-1] 1 rfl (bX (H))) ..) (aR9 _ (nL (r8 (by decide))))))
theorem yP{x:UInt64}{K n:Int}(J:K=2 ^ j)(H:j<=22)(inf:lf (d6 K)=false)(Z:jP (d6 K) (K*2 ^ 1074)=true)(hx:Is x (N j n))(Y:0<=n)(h1:n<=4194304):(lW x K n).Ok x K:=by
 have hk:Is _ (N 0 K):=m5 Z rfl;have LC:=J▸gh (r8 (by decide));have Z:K<=4194304:=by
  have:_ ^ j<=2 ^ 22:=FU (by decide) H;have e:((2 ^ j:Nat):Int)=2 ^ j:=by push_cast;rfl
  exact rR J (rL e (bK.mpr this))
 have b0:=lZ Y LC;refine LB inf (qR hx hk Y LC (mZ (bf [lE 0 Y0] (lE (0-9007199254740991) Y0) rfl b0) (bf [lE Y0 (Ax.m 4194304 4194304)] (lE Y0 9007199254740991) rfl (Ml h1 Z LC (by decide)))) (aE H (by decide))) (oe b0) ?_ ⟨Y,bf [lE Y0 4194304] (lL Y0 10000000000) rfl h1⟩;simp only[aV9,J];exact aQe (aE H (by decide))
theorem wN{B F w:Int}(hB:0<=B)(Z:B<=256)(J:0<=F)(cc:F<=256)(Y:0<=w)(H:w<=32):0<=Li B F w/\Li B F w<=2097152:=by have c:=cN [lE Y0 256,lE 0 Y1] (lE 0 ((Ax.m 32 (256-Y0))+Y1)) [32,1] 1 rfl cc (lZ J Y);refine⟨lZ hB c,?_⟩;have:=Ml Z (g9 [lE Y1 Y2,eQ Y2 (Ax.m 32 Y0)] (lE ((Ax.m 32 (256-Y0))+Y1) 8192) rfl (FS H J) (fj (F) _)) c (by decide);exact bf [lE Y0 (Ax.m 256 8192)] (lE Y0 2097152) rfl this
theorem aQf:∀P< 64,uy ((P:Nat):Int) 0=wt 0 P/\uy ((P:Nat):Int) 64=wt 64 P/\uy ((P:Nat):Int) 128=wt 128 P:=by decide+kernel
theorem VX{P:Nat}{F B:Int}(h:P< 64):lR (P:Int) F B 0=Li B F (wt 0 P)/\lR (P:Int) F B 64=Li B F (wt 64 P)/\lR (P:Int) F B 128=Li B F (wt 128 P):=by refine cI (aQf P h) λa b c=>?_;unfold lR Li;rw[a,b,c];exact⟨rfl,rfl,rfl⟩
theorem aQg{P:Nat}{F B:Int}{D:DS}(hP:P< 64)(Y:0<=F)(J:F<=256)(hB:0<=B)(H:B<=256)(C:d8 P F B D.r D.g D.b):JP (lW D.r 2097152 (Li B F (wt 0 P))) (lW D.g 2097152 (Li B F (wt 64 P))) (lW D.b 2097152 (Li B F (wt 128 P))) D (je " " [bO (Li B F (wt 0 P)),bO (Li B F (wt 64 P)),bO (Li B F (wt 128 P))])/\(je " " [bO (Li B F (wt 0 P)),bO (Li B F (wt 64 P)),bO (Li B F (wt 128 P))]).length<=30:=by
 refine hO λZ Z=>qI (zJ P hP) λz z w0 w1 w2=>Z ?_;have Z:=wN hB H Y J w0.1 w0.2;have l1:=wN hB H Y J w1.1 w1.2;have l2:=wN hB H Y J w2.1 w2.2;have H:∀n:Int,0<=n/\n<=2097152->(bO n).length<=8:=λn h=>aE (Yx (k:=7) h.1 (by decide) (bf [lE Y0 2097152] (lL Y0 10000000) rfl h.2)) (by decide);have k:=H _ Z;have k1:=H _ l1;have k2:=H _ l2;have VY:(je " " [bO (Li B F (wt 0 P)),bO (Li B F (wt 64 P)),bO (Li B F (wt 128 P))]).length<=30:=by exact rR (Gr ..) (nB [_,_,_,_,_] [lE Y0 8,lE Y1 8,lE Y2 8,eQ Y3 (Ax.m 1 Y4),eQ (Y4+1) (0+1+1+1)] (lE (Y0+(Y1+(Y2+0))+Y3) 30) rfl k k1 k2 (dU _ _) (bX (dF ..)))
 refine⟨⟨yP rfl (by decide) kT.1.2.2.1 kT.2.2.1 C.r Z.1 (bf [lE Y0 2097152] (lE Y0 4194304) rfl Z.2),yP rfl (by decide) kT.1.2.2.1 kT.2.2.1 C.g l1.1 (bf [lE Y0 2097152] (lE Y0 4194304) rfl l1.2),yP rfl (by decide) kT.1.2.2.1 kT.2.2.1 C.b l2.1 (bf [lE Y0 2097152] (lE Y0 4194304) rfl l2.2),rfl,?_,?_⟩,VY⟩;·exact decide_eq_false (dw.mpr (b7 [lE Y0 8,lE Y1 8,lE Y2 8] (lE (0+Y0+1+Y1+1+Y2+1) 16777216) rfl k k1 k2))
 ·exact aE VY (by decide)
theorem VZ:∀P< 64,(decide ((3*((P:Nat):Int))/ 32< -(2 ^ 63:Int))||decide ((3*((P:Nat):Int))/ 32>=2 ^ 63))=false/\(pA (3*((P:Nat):Int)/ 32) ("rygcbm":Str).length).bind (("rygcbm":Str).cps[·]?)=some (bT P)/\(3*((P:Nat):Int)).fdiv 32=3*((P:Nat):Int)/ 32:=by decide+kernel
noncomputable def gU(F B:Nat):Bool:=F==0||B==0
def cG(F B:Nat):Nat:=match gU F B with
 |true=>0|false=>1
def Qd(F B:Nat):Int:=match gU F B with
 |true=>0|false=>((1024*(32*(B*F))/ min (Bo B F) (4194304 - Bo B F):Nat):Int)
def Hd(P F B:Nat):Int:=match gU F B with
 |true=>0|false=>P
theorem wO(J:F<=256)(H:B<=256):Bo B F<=4194304/\32*(B*F)<=Bo B F/\Bo B F+32*(B*F)<=4194304:=aAo H (dT _ J)
theorem aQh{P:Nat}{b:UInt64}(Z:P< 64)(Y:F<=256)(J:B<=256)(C:d8 P F B r g b):∃(h lg pu m:UInt64)(ki:Int),(∀aa:aw,aK w aa->aa.NoLimit->JQ True w aa r g b h lg pu m ki (bT P) (cG F B))/\(lW pu 1024 (Qd F B)).Ok pu 1024/\(lW lg 4194304 (Bo B F)).Ok lg 4194304/\(lW h 64 (Hd P F B)).Ok h 64:=by
 refine hO λcg aY=>?_;obtain⟨h,l,p,A,Il,way⟩:=aCg Z Y J C;refine aY ?_;have jl:=yP rfl (by decide) kT.1.2.2.2 kT.2.2.2.1 Il (bG _) ((bK.mpr ((wO Y J)).1));rcases way with ⟨hF,hB,Ih,z,Iz,z0,Im,ez⟩|⟨H,rfl,rfl⟩
 ·have H:gU F B=false:=by unfold gU;simp only[beq_false_of_ne (jc (bu [lL 0 Y0] (lL 0 Y0) rfl hF):F≠0),beq_false_of_ne (jc (bu [lL 0 Y0] (lL 0 Y0) rfl hB):B≠0)];rfl
  have e1:cG F B=1:=by unfold cG;rw[H]
  have e2:Qd F B=((1024*(32*(B*F))/ min (Bo B F) (4194304 - Bo B F):Nat):Int):=by unfold Qd;rw[H]
  have e3:Hd P F B=P:=by unfold Hd;rw[H]
  refine rR e1 (rR e2 (rR e3 ?_));have i6:Is 4618441417868443648 (N 0 6):=m5 kT.2.2.2.2 rfl;have q1:1024*(32*(B*F))/ min (Bo B F) (4194304 - Bo B F)<=1024:=by refine W9 ?_;have:32*_<=min _ _:=aWg.mpr ⟨(wO Y J).2.1,L1 (wO Y J).2.2⟩;exact rR (dU ..) (jF _ this)
  refine cI (VZ P Z) λt1 t2 J=>⟨h,l,p,iI h 4618441417868443648,3*_ / 32,λaa XK NL=>⟨A aa XK NL, .inr ⟨rfl,?_,rfl,?_,t1,t2⟩⟩,?_,jl,?_⟩;·refine rR (Iz.cmp xp) (rR (show compare z 0= .gt from FQ.mpr z0) ?_);rfl
  ·have:=(qR Ih i6 (bG _) (by decide) (mZ (iA [_,(P:Nat)] [eQ Y0 (Ax.m 6 Y1),lE 0 Y1] (lE (0-9007199254740991) Y0) [-1,6] 1 rfl (fj (↑P) _) (bG _)) (iA [_,(P:Nat)] [lL Y1 64,eQ Y0 (Ax.m 6 Y1)] (lE Y0 9007199254740991) [6,1] 1 rfl (cb.mpr Z) (fj (↑P) _))) (by decide)).int (oe (lZ (bG _) (by decide)));rw[(N6 P)]at this;exact this
  ·exact LB kT.1.2.1 Im (cN [lL 0 Y1,eQ Y0 (Ax.m 1024 Y1)] (lE 0 Y0) [1024,-1] 1 rfl z0 (fj (z) _)) ez ⟨bG _,bf [lE Y0 1024] (lL Y0 10000000000) rfl (bK.mpr q1)⟩
  ·exact yP rfl (by decide) kT.1.1 kT.2.1 Ih (bG _) (iB [(P:Nat)] [lL Y0 64] (lE Y0 4194304) rfl (cb.mpr Z))
 ·have LD:gU F B=true:=by unfold gU;rcases H with h|h<;>subst h<;>simp
  have e1:cG F B=0:=by unfold cG;rw[LD]
  have e2:Qd F B=0:=by unfold Qd;rw[LD]
  have e3:Hd P F B=0:=by unfold Hd;rw[LD]
  refine rR e1 (rR e2 (rR e3 ?_));refine⟨0,l,0,0,0,λaa XK NL=>⟨A aa XK NL, .inl ⟨rfl,by decide+kernel⟩⟩,?_,jl,?_⟩;·exact LB kT.1.2.1 (mu (by decide+kernel:jP _ 0=true)) (by decide) rfl ⟨by decide,by decide⟩
  ·exact yP (j:=6) rfl (by decide) kT.1.1 kT.2.1 (xp) (by decide) (by decide)
end
section
set_option exponentiation.threshold 3000
def LF(k:Nat)(n:Int)(P:Nat)(F B:Int)(Y:Nat)(H J:Int):Prop:=∃g:Nat,n=g/\(k=0/\g< 64/\Y=(P+g) % 64/\H=F/\J=B\/k=1/\g< 5/\F*g=4*H/\0<=H/\H<=256/\Y=P/\J=B\/k=2/\g< 5/\B*g=4*J/\0<=J/\J<=256/\Y=P/\H=F)
def lX(ds:List (Nat×Int)):Nat->Int->Int->Nat->Int->Int->Prop:=ds.foldr (λq R P F B H J B2=>∃P' Y Z,LF q.1 q.2 P F B P' Y Z/\R P' Y Z H J B2) λP F B H J B2=>P=H/\F=J/\B=B2
structure Bx(P:Nat)(F B:Int):Prop where
 P:P< 64
 F0:0<=F
 F:F<=256
 B0:0<=B
 B:B<=256
theorem V6{κ:Nat}{fg:Int}{P P':Nat}{F B F' Y:Int}(D:LF κ fg P F B P' F' Y)(H:Bx P F B){b:UInt64}(C:d8 P F B r g b):∃V:DV,κ< 3/\0<=fg/\fg< 64/\(∀aa:aw,aK w aa->aa.NoLimit->tG True w aa κ V fg r g b)/\d8 P' F' Y V.r V.g V.b/\Bx P' F' Y:=by
 refine aO D λn e D2=>?_;subst e;rcases D2 with ⟨rfl,J,rfl,rfl,rfl⟩|⟨rfl,J,h4,Z,h1,rfl,rfl⟩|⟨rfl,J,h4,Z,h1,rfl,rfl⟩
 ·obtain⟨V,a,c⟩:=aCc H.P H.F0 H.F H.B0 H.B J C;exact⟨V,by decide,bG _,cb.mpr J,a,c,uP _ (by decide),H.F0,H.F,H.B0,H.B⟩
 ·obtain⟨V,a,c⟩:=aCe H.P H.F0 H.F H.B0 H.B J h4 C;exact⟨V,by decide,bG _,cb.mpr (za J (by decide)),a,c,H.P,Z,h1,H.B0,H.B⟩
 ·obtain⟨V,a,c⟩:=aCf H.P H.F0 H.F H.B0 H.B J h4 C;exact⟨V,by decide,bG _,cb.mpr (za J (by decide)),a,c,H.P,H.F0,H.F,Z,h1⟩
def Behind(j:Nat)(H:List (Nat×List Nat))(rest:List (Nat×ab)):Prop:=match H with
 |[]=>rest=[]|_::H=>om j H rest
def jC(H:List (Nat×List Nat)):List Nat:=match H with
 |[]=>[]|q::_=>q.2
theorem V7{H:List (Nat×List Nat)}{l:List (Nat×ab)}(A:om j H l):∃rest,fb rest l (jC H)/\Behind (j+1) H rest/\rest.length<=l.length:=by
 induction H with
 |nil=>exact⟨[],aCn A,rfl,fZ _⟩|cons q H=>exact ig (vB A) λH a b c=>⟨H,a,b,c⟩
theorem aQi{Y:List (Nat×List Nat)}(nk:tI (jC Y))(hW:(jC Y).length<=640)(ds:List (Nat×Int)):∀{P Z:Nat}{F B J B2:Int}(D:lX ds P F B Z J B2)(bx:Bx P F B){r g b:UInt64}(C:d8 P F B r g b)(q:Option (Int×UInt64×UInt64×UInt64)){j:Nat}{l:List (Nat×ab)}(H:l.length<=1000)(A:om j (uH dr ds++Y) l),∃(Dv:DS)(rest:List (Nat×ab))(j':Nat),(∀aa:aw,aK w aa->aa.NoLimit->xD True w aa (jC Y) rest Dv l r g b q)/\d8 Z J B2 Dv.r Dv.g Dv.b/\Bx Z J B2/\Behind j' Y rest/\rest.length<=l.length:=by
 induction ds with
 |nil=>intro P Z F B J B2 D bx r g b C q j l H A;obtain⟨rfl,rfl,rfl⟩:=D;exact ig (V7 A) λrest a c d=>⟨⟨r,g,b,0,0,0,[],(q.getD default).1,(q.getD default).2.1,(q.getD default).2.2.1,(q.getD default).2.2.2,0,0,0,0,0,0,0,0,0,0⟩,rest,_,λaa z z=> .stop a nk hW H rfl rfl rfl (λp h=>by subst h;rfl),C,bx,c,d⟩
 |cons q0 ds ih=>intro P Z F B J B2 D bx r g b C q j l H A;refine mX D λJ J J J D'=>M4 (V6 (w:=w) J bx C) λV k3 f0 f1 ok C' LG=>ig (vB A) λJ t1 J h1=>ig (vB J) λJ t2 A2 h2=>?_;obtain⟨Dv,rest,j',R,C2,b2,bh,hr⟩:=ih D' LG C' _ (aE h2 (aE h1 H)) A2;have Y:=pa f0 f1;exact⟨Dv,rest,j',λaa Z J=> .OI q0.1 V q0.2 _ k3 t1 t2 (aE Y.1 (by decide)) Y.2.2.2.1 H (aE h1 H) (ok aa Z J) (R aa Z J),C2,b2,bh,aE hr (aE h2 h1)⟩
theorem aQj{Y:List (Nat×List Nat)}(nk:tI (jC Y))(hW:(jC Y).length<=640){ds:List (Nat×Int)}{P P2:Nat}{F B F2:Int}(D:lX ds P F B P2 F2 B2)(bx:Bx P F B){b:UInt64}(C:d8 P F B r g b){l:List (Nat×ab)}(hl:l.length<=1000)(A:om j (uH dr ds++Y) l):∃(Dv:DS)(rest:List (Nat×ab))(j' f:Nat),(f=1\/f=2)/\(∀aa:aw,aK w aa->aa.NoLimit->∀(T:TF)(X:LX)(t2 t3 t4:ab)(e2:Nat)(H:Int),H=X.n+(aL l - aL rest)->Any True w aa 10 (qU T.L) (ip T X w (uD r g b t2 t3 t4) 0 l [] e2) (iq T X w Dv (jC Y) rest H f e2))/\d8 P2 F2 B2 Dv.r Dv.g Dv.b/\Bx P2 F2 B2/\Behind j' Y rest/\rest.length<=l.length:=by
 induction ds using pq with
 |nil=>obtain⟨rfl,rfl,rfl⟩:=D;exact ig (V7 A) λrest a c d=>⟨uD r g b 0 0 0,rest,_,1, .inl rfl,λaa Z J T X t2 t3 t4 e2 H hN=>aB8 Z J a nk hW hl X _ e2 H hN,C,bx,c,d⟩
 |cons q ds=>refine mX D λY Y Y Y D'=>M4 (V6 (w:=w) Y bx C) λV k3 f0 f1 ok C' LG=>ig (vB A) λY t1 Y h1=>ig (vB Y) λY t2 A2 h2=>?_;obtain⟨Dv,rest,j',R,C2,b2,bh,hr⟩:=aQi nk hW ds D' LG C' _ (aE h2 (aE h1 hl)) A2;have Y:=pa f0 f1;exact⟨Dv,rest,j',2, .inr rfl,λaa Z J T X u2 u3 u4 e2 H hN=>aB9 Z J q.1 V q.2 _ k3 t1 t2 (aE Y.1 (by decide)) Y.2.2.2.1 hl (aE h1 hl) _ (ok aa Z J) (R aa Z J) X e2 H hN,C2,b2,bh,aE hr (aE h2 h1)⟩
theorem lX.app{a b:List (Nat×Int)}:∀{P H J:Nat}{F B Y Z F2 B2:Int},lX a P F B H Y Z->lX b H Y Z J F2 B2->lX (a++b) P F B J F2 B2:=by
 induction a with
 |nil=>rintro P H J F B Y Z F2 B2 ⟨rfl,rfl,rfl⟩ k;exact k
 |cons q a ih=>exact λh k=>mX h λY H J d h=>⟨Y,H,J,d,ih h k⟩
theorem lX.one{n:Int}{P H:Nat}{F B J:Int}(d:LF k n P F B H J B2):lX [(k,n)] P F B H J B2:=⟨_,_,_,d,rfl,rfl,rfl⟩
theorem V8{P t:Nat}(F B:Int)(H:P< 64)(h:t< 64):lX (rX (decide ((t:Int)=0)) 0 t) P F B ((P+t) % 64) F B:=by
 by_cases e:(t:Int)=0
 ·obtain rfl:t=0:=Int.ofNat.inj e;exact⟨(Nat.mod_eq_of_lt H).symm,rfl,rfl⟩
 ·exact rR (decide_eq_false e) (.one ⟨t,rfl, .inl ⟨rfl,h,rfl,rfl,rfl⟩⟩)
theorem quarter{F J:Int}{a:Nat}(H:F*a=4*J)(e:(a:Int)=4):J=F:=by rw[e]at H;exact bw (jN [eQ Y2 (Ax.m 4 Y0),eQ Y2 (Ax.m 4 Y1)] (lE Y0 Y1) [-1,1] 4 rfl H (fj (F) _)) (jN [eQ Y2 (Ax.m 4 Y1),eQ Y2 (Ax.m 4 Y0)] (lE Y0 Y1) [1,-1] 4 rfl H (fj (F) _))
theorem V9{P a:Nat}{F H:Int}(B:Int)(h:a< 5)(J:F*a=4*H)(Z:0<=H)(Y:H<=256):lX (rX (decide ((a:Int)=4)) 1 a) P F B P H B:=by
 by_cases e:(a:Int)=4;·exact rR (decide_eq_true e) ⟨rfl,(quarter J e).symm,rfl⟩
 ·exact rR (decide_eq_false e) (.one ⟨a,rfl, .inr (.inl ⟨rfl,h,J,Z,Y,rfl,rfl⟩)⟩)
theorem Wa{P a:Nat}{B:Int}(F:Int)(h:a< 5)(H:B*a=4*B2)(Y:0<=B2)(J:B2<=256):lX (rX (decide ((a:Int)=4)) 2 a) P F B P F B2:=by
 by_cases e:(a:Int)=4;·exact rR (decide_eq_true e) ⟨rfl,rfl,(quarter H e).symm⟩
 ·exact rR (decide_eq_false e) (.one ⟨a,rfl, .inr (.inr ⟨rfl,h,H,Y,J,rfl,rfl⟩)⟩)
theorem Wb{F H:Int}{a:Nat}(J:0<=F)(h1:F<=256)(Y:a< 5)(Z:F*a=4*H):0<=H/\H<=256:=by have H:0<=F*(a:Int):=lZ J (bG _);have J:=Ml h1 (by exact iB [(a:Nat)] [lL Y0 5] (lE Y0 4) rfl (cb.mpr Y)) (bG _) (by decide);rw[Z]at H J;exact⟨g8 [lE 0 (Ax.m 4 Y0)] (lE 0 Y0) [1] 4 rfl H,g8 [lE (Ax.m 4 Y0) (Ax.m 256 4)] (lE Y0 256) [1] 4 rfl J⟩
theorem LH(b:Bool)(k:Nat)(n:Int):(rX b k n).reverse=rX b k n:=by induction b<;>rfl
theorem LI(hp:p.Ok){P:Nat}{F B J:Int}(H:Bx P F B)(Y:F*p.sh=4*J)(Z:B*p.va=4*B2):lX (qp p) P F B ((P+p.tu.toNat) % 64) J B2:=by
 obtain⟨dp,nm,dr,tu,sh,va⟩:=p;obtain⟨z,z,z,t0,Wc,a0,a4,c0,c4⟩:=hp;dsimp only at t0 Wc a0 a4 c0 c4 Y Z;obtain⟨t,rfl⟩:∃t:Nat,tu=t:=⟨tu.toNat,(mR t0).symm⟩
 obtain⟨a,rfl⟩:∃a:Nat,sh=a:=⟨sh.toNat,(mR a0).symm⟩
 obtain⟨c,rfl⟩:∃c:Nat,va=c:=⟨va.toNat,(mR c0).symm⟩
 have f:=Wb H.F0 H.F (cb.mp (jE a4 (by decide))) Y;have g:=Wb H.B0 H.B (cb.mp (jE c4 (by decide))) Z;show lX (Lz _ _) P F B _ J B2;have a5:a< 5:=cb.mp (jE a4 (by decide));have c5:c< 5:=cb.mp (jE c4 (by decide));have t6:=cb.mp Wc;induction decide ((t:Int) % 2=1)with
 |false=>exact(V8 F B H.P t6).app ((V9 B a5 Y f.1 f.2).app (Wa J c5 Z g.1 g.2))|true=>show lX (aVq _) ..;simp only[Gd,Gd,LH,LH,LH];exact((Wa F c5 Z g.1 g.2).app (V9 B2 a5 Y f.1 f.2)).app (V8 J B2 H.P t6)
end
section
set_option exponentiation.threshold 3000
theorem LJ{n:Int}(J:0<=n)(H:n<=4194304):(bO n).length<=8:=aE (Yx (k:=7) J (by decide) (jE H (by decide))) (by decide)
def Fn(P:Nat)(F B:Int):Str:=je " " [bO (Li B F (wt 0 P)),bO (Li B F (wt 64 P)),bO (Li B F (wt 128 P))]
theorem Fo(J:F<=256)(H:B<=256):0<=Qd F B/\Qd F B<=4194304:=by
 unfold Qd;split;·exact⟨by decide,by decide⟩
 ·refine⟨bG _,?_⟩;have b:=(wO J H).2;have:1024*(32*(B*F))/ min (Bo B F) (4194304 - Bo B F)<=1024:=by refine W9 ?_;have:32*_<=min _ _:=aWg.mpr ⟨b.1,L1 b.2⟩;exact rR (dU ..) (jF _ this)
  exact bf [lE Y0 1024] (lE Y0 4194304) rfl (bK.mpr this)
theorem Wd{P:Nat}(H:P< 64):0<=Hd P F B/\Hd P F B<=4194304:=by
 unfold Hd;split;·exact⟨by decide,by decide⟩
 ·exact⟨(bG _),iB [(P:Nat)] [lL Y0 64] (lE Y0 4194304) rfl (cb.mpr H)⟩
structure Read(w:aj)(p:PR)(P2 F2 B2:Nat)(r g b:UInt64)(l:List (Nat×ab))(ws:List (Nat×List Nat))(V:mQ):Prop where
 hd:V.d=p.dp
 hr:V.r=r
 hg:V.g=g
 hb:V.b=b
 hl:V.l=l
 hF:V.F=p.nm
 hW:V.W=jC ws
 C:d8 P2 F2 B2 V.Dv.r V.Dv.g V.Dv.b
 bh:∃j,Behind j ws V.l2
 hz:V.l2.length<=l.length
 ok:∀f c,ax.g ⟨f,c,bT P2⟩=cG F2 B2->V.Ok w ⟨f,c,bT P2⟩
 J:V.J=Fn P2 F2 B2
 j1:V.J1.s=bO (Qd F2 B2)
 j2:V.J2.s=bO (Bo B2 F2)
 j3:V.J3.s=bO (Hd P2 F2 B2)
theorem row_read(hp:p.Ok){P F2 B2:Nat}(hP:P< 64)(hF:F<=256)(hB:B<=256)(h4:(F:Int)*p.sh=4*F2)(h5:(B:Int)*p.va=4*B2){b:UInt64}(C:d8 P F B r g b){J:List (Nat×List Nat)}(nk:tI (jC J))(hW:(jC J).length<=640){l:List (Nat×ab)}(hl:l.length<=1000)(A:om j ((p.dr,p.nm)::(uH p.dr (qp p)++J)) l):∃V:mQ,Read w p ((P+p.tu.toNat) % 64) F2 B2 r g b l J V:=by
 refine ig (vB A) λl1 t1 A1 h1=>?_;have bx:Bx P F B:=⟨hP,bG _,bK.mpr hF,bG _,bK.mpr hB⟩
 refine hO λcg aY=>?_;obtain⟨Dv,l2,j',f,hf,an,C2,H,bh,hr⟩:=aQj nk hW (LI hp bx h4 h5) bx C (aE h1 hl) A1;refine aY ?_;have LK:=H.P;have Z:=bK.mp H.F;have Y:=bK.mp H.B;refine hO λkA dZ=>?_;obtain⟨h,lg,pu,m,ki,hl_,j1,j2,j3⟩:=aQh LK Z Y C2;obtain⟨co,jl⟩:=aQg LK H.F0 H.F H.B0 H.B C2;refine dZ ?_;have q:=Fo Z Y;have hd:=Wd (F:=F2) (B:=B2) LK;exact⟨⟨p.dp,r,g,b,p.nm,Dv,f,h,lg,pu,m,ki,lW ..,lW ..,lW ..,Fn ..,lW ..,lW ..,lW ..,l,l1,l2,jC J⟩,⟨rfl,rfl,rfl,rfl,rfl,rfl,rfl,C2,⟨j',bh⟩,aE hr h1,λH c hc=>⟨t1,hl,aE hp.nm (by decide),hf,an,λaa J H=>hc▸hl_ aa J H,co,j1,j2,j3,jl,aE (LJ q.1 q.2) (by decide),aE (LJ (bG _) (bK.mpr ((wO Z Y).1))) (by decide),aE (LJ hd.1 hd.2) (by decide)⟩,rfl,rfl,rfl,rfl⟩⟩
end
section
set_option exponentiation.threshold 3000
noncomputable abbrev cL(s:Str):List Nat:=s.cps.toList
theorem cX(a b:Str):cL (a++b)=cL a++cL b:=by show(a.cps++b.cps).toList=_;exact rR zi rfl
theorem aQk{a b:Str}(h:cL a=cL b):a=b:=congrArg Str.mk (aV8.mp h)
theorem We{n:Int}(h:0<=n):∀c∈cL (bO n),48<=c/\c<=57:=λc J=>by obtain⟨m,rfl⟩:=YE h;rw[show bO (m:Int)=⟨((Nat.toDigits 10 m).map Char.toNat).toArray⟩from text_ofNat m]at J;refine aO (bq.mp J) λd Y H=>?_;subst H;have:=Nat.isDigit_of_mem_toDigits (by decide) (by decide) Y;unfold Char.isDigit at this;simp only[gw,decide_eq_true_eq]at this;exact this
noncomputable def pc(c:Nat):Bool:=!(c==38||(c==60||(c==62||(c==34||(c==9||(c==10||c==13))))))
theorem yQ{c:Nat}{z l:List Nat}(h:∀k∈l,k≠c):cU c z l=l:=AK c z l λm=>h c m rfl
theorem aQl{c:Nat}(h:pc c=true):c≠38/\c≠60/\c≠62/\c≠34/\c≠9/\c≠10/\c≠13:=by unfold pc at h;simpa using h
theorem LL{l:List Nat}(h:∀k∈l,pc k=true):qg l=l:=by have g:=λk H=>aQl (h k H);unfold qg;simp only[yQ λk H=>(g k H).1,yQ λk H=>(g k H).2.1,yQ λk H=>(g k H).2.2.2.1,yQ λk H=>(g k H).2.2.2.2.1,yQ λk H=>(g k H).2.2.2.2.2.1,yQ λk H=>(g k H).2.2.2.2.2.2]
theorem aQm(a b:List Nat):qg (a++b)=qg a++qg b:=by unfold qg;simp only[AM]
theorem aQn(a b:List Nat):oM (a++b)=oM a++oM b:=by unfold oM;simp only[AM]
theorem aQo:∀c∈signs,qg [c]=cL (rO true c)/\oM [c]=cL (rO false c):=by decide+kernel
theorem aQp(a:Bool)(nm:List Nat):cL (gP a nm)=nm.flatMap λc=>cL (rO a c):=by unfold gP;exact rR (show cL _=_ from Fj _ ..) (rR (List.flatMap_map ..) rfl)
theorem Fp:∀{nm:List Nat},(∀c∈nm,c∈signs)->qg nm=cL (gP true nm)/\oM nm=cL (gP false nm)
 |[],_=>⟨rfl,rfl⟩|c::nm,h=>by obtain⟨a,b⟩:=Fp λk H=>h k (aB H);obtain⟨Y,J⟩:=aQo c (h c az);have e:c::nm=[c]++nm:=rfl;simp only[aQp,e,aQm,aQn,a,b,Y,J,zh,zh];exact⟨by simp,by simp⟩
theorem Fq{n:Int}(h:0<=n):∀k∈cL (bO n),pc k=true:=λk H=>by
 have:∀k,48<=k->k<=57->pc k=true:=λk a b=>by exact(by decide+kernel:∀k< 58,48<=k->pc k=true) k (Nat.lt_succ_of_le b) a
 exact this k (We h k H).1 (We h k H).2
theorem LM{n:Int}(h:0<=n):cL (iC (bO n))=cL (bO n):=LL (Fq h)
theorem Wf(a b c:Str):cL (je " " [a,b,c])=cL a++(cL " "++(cL b++(cL " "++cL c))):=by show(a.cps++(" ":Str).cps++b.cps++(" ":Str).cps++c.cps).toList=_;simp only[zi,bH]
theorem aQq(J:0<=a)(Y:0<=b)(Z:0<=c):cL (iC (je " " [bO a,bO b,bO c]))=cL (bO a)++(cL " "++(cL (bO b)++(cL " "++cL (bO c)))):=by
 refine rL (Wf ..) (LL λk hk=>?_);rw[show(je " " [bO a,bO b,bO c]).cps.toList=_ from Wf _ _ _]at hk;have H:∀k∈cL " ",pc k=true:=by decide+kernel
 simp only[cq]at hk;rcases hk with hk|hk|hk|hk|hk
 ·exact Fq J k hk
 ·exact H k hk
 ·exact Fq Y k hk
 ·exact H k hk
 ·exact Fq Z k hk
def nJ(b:Bool)(p:Option Str):List Nat:=(iZ b p).flatMap cL
theorem aQr(b:Bool)(x:Str):nJ b (some x)=oM (cL (iY b x)):=by
 show(oP b x).flatMap cL=_;unfold oP;split
 ·rename_i h;show []=oM (iY b x).cps.toList;rw[h];rfl
 ·simp only[jg,nQ,dQ]
def names:List (List Nat):=nc ([]::(signs.map λa=>[a])++signs.flatMap λa=>signs.map λb=>[a,b])
theorem Wg(h:nm.length<=2)(H:∀c∈nm,c∈signs):nm∈names:=by
 match nm,h,H with
 |[],_,_=>exact az|[a],_,H=>exact aB (bL _ (b6 (H a az)))|[a,b],_,H=>exact aB (bD _ (X5.mpr ⟨a,H a az,b6 (H b (aB az))⟩))|a::b::c::r,h,_=>exact absurd h (by simp)
theorem LN:∀nm∈names,pJ (aW nm)=aW (lV nm)/\(lV nm).length<=2/\(∀c∈lV nm,c∈signs)/\Yu (" \t\n\r":Str).cps.contains true true (aW nm)=aW (lV nm)/\(MW (" \t\n\r":Str).cps.contains true true (aW nm)=true->aW nm=aW (lV nm)):=by decide+kernel
end
section
set_option exponentiation.threshold 3000
theorem aQs{P:Nat}(J:P< 64):EQ P F B=8192*(B:Int)/\ER P F B=8192*(B:Int) - 32*((B:Int)*F):=by
 refine hO λcg aY=>?_;obtain⟨e0,e1,e2⟩:=VX J;refine qI (zJ P J) λqS h0 w0 w1 w2=>aY ?_;have X:0<=(B:Int)*F:=lZ (bG _) (bG _);have Z:∀w:Int,0<=w/\w<=32->8192*(B:Int) - 32*((B:Int)*F)<=Li B F w/\Li B F w<=8192*_:=λw J=>by have a:=lZ X J.1;have b:=FS J.2 X;rw[vy];generalize (B:Int)*F=Y at a b ⊢;exact⟨iB [(B:Nat),_,_] [lE 0 Y2] (lE ((Ax.m 8192 Y0)-(Ax.m 32 Y1)) ((Ax.m 8192 Y0)-(Ax.m 32 Y1)+Y2)) rfl a,iB [(B:Nat),_,_,_] [lE Y2 Y3,eQ Y3 (Ax.m 32 Y1)] (lE ((Ax.m 8192 Y0)-(Ax.m 32 Y1)+Y2) (Ax.m 8192 Y0)) rfl b (fj (Y) _)⟩
 have H:∀w:Int,w=32->8192*(B:Int)=Li B F w:=λw h=>by simp only[vy,h];generalize (B:Int)*F=Y;exact bw (iA [(B:Nat),_,_] [eQ Y2 (Ax.m 32 Y1)] (lE (Ax.m 8192 Y0) ((Ax.m 8192 Y0)-(Ax.m 32 Y1)+Y2)) [-1] 1 rfl (fj (Y) _)) (iB [(B:Nat),_,_] [eQ Y2 (Ax.m 32 Y1)] (lE ((Ax.m 8192 Y0)-(Ax.m 32 Y1)+Y2) (Ax.m 8192 Y0)) rfl (fj (Y) _))
 have J:∀w:Int,w=0->8192*(B:Int) - 32*((B:Int)*F)=Li B F w:=λw h=>by simp only[vy,h,yU,uJ]
 unfold EQ ER;rw[e0,e1,e2];exact⟨Ze (qS.imp (H _) (YA (H _) (H _))) (Z _ w0).2 (Z _ w1).2 (Z _ w2).2,Zf (h0.imp (J _) (YA (J _) (J _))) (Z _ w0).1 (Z _ w1).1 (Z _ w2).1⟩
theorem aQt(H:F<=256):8192*(B:Int)+(8192*(B:Int) - 32*((B:Int)*F))=(Bo B F:Nat):=aAp (dT B H)
theorem aQu:8192*(B:Int) - (8192*(B:Int) - 32*((B:Int)*F))=((32*(B*F):Nat):Int):=by simp only[<-aR4];generalize B*F=X;exact bw (iB [(B:Nat),(X:Nat)] [] (lE ((Ax.m 8192 Y0)-((Ax.m 8192 Y0)-(Ax.m 32 Y1))) (Ax.m 32 Y1)) rfl) (iB [(X:Nat),(B:Nat)] [] (lE (Ax.m 32 Y0) ((Ax.m 8192 Y1)-((Ax.m 8192 Y1)-(Ax.m 32 Y0)))) rfl)
structure Nums(ys:List PW)(r:FR)(P F B:Nat):Prop where
 eP:fq ys r=P
 eF:j5 ys r=F
 eB:j6 ys r=B
 pT:P< 64
 rZ:F<=256
 uI:B<=256
section
variable {r:FR}{P:Nat}(H:Nums ys r P F B)
include H
theorem Nums.l:gQ ys r 0=Li B F (wt 0 P)/\gQ ys r 64=Li B F (wt 64 P)/\gQ ys r 128=Li B F (wt 128 P):=by unfold gQ;simp only[H.eP,H.eF,H.eB];exact VX H.pT
theorem Nums.mx:kN ys r=8192*(B:Int)/\kO ys r=8192*(B:Int) - 32*((B:Int)*F):=by unfold kN kO;simp only[H.eP,H.eF,H.eB];exact aQs H.pT
theorem Nums.bo:kN ys r+kO ys r=(Bo B F:Nat):=by simp only[H.mx.1,H.mx.2,aQt H.rZ]
theorem Nums.ap:kN ys r - kO ys r=((32*(B*F):Nat):Int):=by simp only[H.mx.1,H.mx.2,aQu]
theorem Nums.d:gf ys r=!gU F B:=by
 unfold gf;refine rR H.ap ?_;induction F using r9 with
 |zero=>rfl|succ F=>
  induction B with
  |zero=>refine rR (BJ ..) ?_;rfl|succ B=>have:0<(B+1)*(F+1):=BV (BW _) (BW _);exact decide_eq_true (iA [((B+1)*_:Nat)] [lL 0 Y0] (lL 0 (Ax.m 32 Y0)) [32] 1 rfl (cb.mpr this))
theorem Nums.q:lU (gf ys r) (rS ys r)=Qd F B:=by
 rw[H.d];unfold Qd;induction J:gU F B with
 |true=>rfl|false=>unfold rS wE;refine rR H.ap (rR H.bo ?_);have e:min _ (4194304 - _)=((min _ _:Nat):Int):=M9 ((wO H.rZ H.uI).1);simp only[e,show _*_=_ by push_cast;rfl];rw[BM _ (bG _)];rfl
theorem Nums.h:lU (gf ys r) (fq ys r)=Hd P F B:=by refine rR H.d (rR H.eP ?_);unfold Hd;induction gU F B<;>rfl
theorem Nums.x:bT (fq ys r)=bT P:=rR H.eP rfl
end
def jD(ys:List PW)(P F B:Nat):Nat:=match gU F B with
 |true=>0|false=>match ys.any λy=>decide (y.tg=gN (bT P))with
  |true=>1|false=>2
theorem LO(ys:List PW)(P F B:Nat)(f:Option (Nat×Nat)):ax.g ⟨f,jD ys P F B,bT P⟩=cG F B:=by
 unfold jD cG;induction gU F B with
 |true=>rfl|false=>cases ys.any λy=>decide (y.tg=gN _)<;>rfl
theorem lits:cL "<"=[60]/\cL "c"=[99]/\cL ":"=[58]/\cL " "=[32]/\cL "=\""=[61,34]/\cL "\""=[34]/\cL ">"=[62]/\cL " xmlns:"=32::cL "xmlns:"/\cL "=\"urn:"=[61,34,117,114,110,58]/\cL " c=\""=[32,99,61,34]/\cL "\" h=\""=[34,32,104,61,34]/\cL "\" l=\""=[34,32,108,61,34]/\cL lS=[32,110,61,34]/\cL "\" s=\""=[34,32,115,61,34]/\cL "\">"=[34,62]/\cL pF=[]/\cL "</"=[60,47]:=by decide+kernel
theorem BA{b:Bool}{x y:Nat}(J:pc x=true)(H:pc y=true):pc (cond b x y)=true:=by
 induction b with
 |false=>exact H|true=>exact J
theorem aQv(P:Nat):cL (iC (bv (bT P)))=[117,114,110,58,bT P]:=by have:∀k∈([117,114,110,58,bT P]:List Nat),pc k=true:=w9.mpr ⟨by decide,w9.mpr ⟨by decide,w9.mpr ⟨by decide,w9.mpr ⟨by decide,w9.mpr ⟨(BA (by decide) (BA (by decide) (BA (by decide) (BA (by decide) (BA (by decide) (by decide)))))),nofun⟩⟩⟩⟩⟩;exact LL this
end
variable {x:Str}{h:aw}{l:List (Nat×ab)}{d:Option af}
section
set_option exponentiation.threshold 3000
theorem aQw(h:nm∈names)(H:∀c∈nm,c∈signs)(b:Bool):nJ b (some (aW nm))=cL (gP false (rQ b nm (lV nm))):=by
 rw[aQr];induction b with
 |false=>exact(Fp H).2|true=>refine zn (LN nm h) λe z H z=>?_;show oM (cL (pJ _))=_;exact rR e ((Fp H).2)
theorem Wh(k v:Str):cL (fS k v)=32::(cL k++(61::34::(cL (iC v)++[34]))):=by refine hO λH H=>H ?_;simp only[cX,cX,cX,cX,cX,lits.2.2.2.1,lits.2.2.2.2.1,lits.2.2.2.2.2.1,lits.2.2.2.2.2.2.2.2.2.2.2.2.2.2.2.1];simp
theorem aQx(a b c d e:Int):cL (iG a b c d e)=[32,99,61,34]++(cL (bO a)++(32::(cL (bO b)++(32::(cL (bO c)++([34,32,104,61,34]++(cL (bO d)++([34,32,108,61,34]++(cL (bO e)++[34]))))))))):=by refine hO λH H=>H ?_;unfold iG;simp only[cX,cX,cX,cX,cX,cX,cX,cX,cX,cX,lits.2.2.2.1,lits.2.2.2.2.2.1,lits.2.2.2.2.2.2.2.2.2.1,lits.2.2.2.2.2.2.2.2.2.2.1,lits.2.2.2.2.2.2.2.2.2.2.2.1];simp
theorem aQy(q:Int):cL (j0 q)=[34,32,115,61,34]++(cL (bO q)++[34,62]):=by refine hO λH H=>H ?_;unfold j0;simp only[cX,cX,lits.2.2.2.2.2.2.2.2.2.2.2.2.2.1,lits.2.2.2.2.2.2.2.2.2.2.2.2.2.2.1];rfl
theorem aQz{P:Nat}(hP:P< 64)(H:F<=256)(J:B<=256)(hs:∀c∈nm,c∈signs){a:AT}(an:a.n=aW nm)(ac:a.c=Fn P F B)(LP:a.s=bO (Qd F B))(al:a.l=bO (Bo B F))(ah:a.h=bO (Hd P F B))(X:List Nat):(nt a).flatMap cL++(62::X)=cL (iG (Li B F (wt 0 P)) (Li B F (wt 64 P)) (Li B F (wt 128 P)) (Hd P F B) (Bo B F))++(cL lS++(cL (gP true nm)++(cL (j0 (Qd F B))++X))):=by
 refine hO λY aY=>qI (zJ P hP) λz z Z Y w2=>aY ?_;have e1:cL (iC a.c)=cL (bO (Li B F (wt 0 P)))++(cL " "++(cL (bO (Li B F (wt 64 P)))++(cL " "++cL (bO (Li B F (wt 128 P)))))):=by simp only[ac];exact aQq ((wN (bG B) (bK.mpr J) (bG F) (bK.mpr H) Z.1 Z.2).1) ((wN (bG B) (bK.mpr J) (bG F) (bK.mpr H) Y.1 Y.2).1) ((wN (bG B) (bK.mpr J) (bG F) (bK.mpr H) w2.1 w2.2).1)
 have e2:cL (iC a.h)=cL _:=rR ah (LM (Wd hP).1);have Y:cL (iC a.l)=cL _:=rR al (LM (bG _));have Z:cL (iC a.s)=cL _:=rR LP (LM (Fo H J).1);have H:cL (iC a.n)=cL _:=rR an ((Fp hs).1);unfold nt;simp only[jg,nQ,Wh,e1,e2,Y,Z,H,aQx,aQy,lits.2.2.2.2.2.2.2.2.2.2.2.2.1,lits.2.2.2.1,bH,sn,uS];rfl
theorem aQ0{r:FR}{P:Nat}(H:Nums ys r P F B)(hn:r.nm∈names)(hs:∀c∈r.nm,c∈signs)(b:Bool)(f:Option (Nat×Nat)){a:AT}(an:a.n=aW r.nm)(ac:a.c=Fn P F B)(LP:a.s=bO (Qd F B))(al:a.l=bO (Bo B F))(ah:a.h=bO (Hd P F B))(T:Str):cL (uB b r T ys)=cL T++((ax.ws ⟨f,jD ys P F B,bT P⟩ a).flatMap cL++nJ b (some (aW r.nm))):=by
 obtain⟨J,l2,l3,Y,Y,l6,l7,l8,l9,Y,Y,Y,Y,Y,Y,l16,_⟩:=lits;have Y:=aQz H.pT H.rZ H.uI hs an ac LP al ah (nJ b (some (aW r.nm)));have Z:∀l:List Str,cL (mG l)=l.flatMap cL:=Fj;have tl:cL (uB b r T ys)=cL (rT ys r (T++"<"++fR ys r))++((nt a).flatMap cL++(62::nJ b (some (aW r.nm)))):=by rw[Y];unfold uB;refine rR (H.l.1 ..) (rR (H.l.2.1 ..) (rR (H.l.2.2 ..) (rR (H.h ..) (rR (H.bo ..) (rR (H.q ..) (rR (aQw hn hs ..) ?_))))));simp only[cX,bH]
 rw[tl];unfold ax.ws jD rT yG fR;refine rR H.d (rR H.x ?_);induction gU F B with
 |true=>
  show cL (T++"<"++"c")++_=cL T++([("<":Str)++cS,mG (nt a),">"].flatMap cL++_)
  simp only[jg,nQ,cX,Z,J,l2,l7,bH,sn,uS];kernel_rfl
 |false=>
  have H:rP (!false) (bT P)=gN (bT P):=rfl;have eq:cL (iv (bT P))=[bT P,58,99]:=by rw[cX,cX,cX,l16,l3];rfl
  refine rR H ?_;induction ys.any λy=>decide (y.tg=gN (bT P))with
  |true=>
   show cL (T++"<"++gN (bT P))++_=cL T++([("<":Str)++iv (bT P),mG (nt a),">"].flatMap cL++_)
   simp only[jg,nQ,cX (T++"<"),cX T,cX "<" (iv _),eq,Z,J,l7,bH,sn,uS];kernel_rfl
  |false=>
   show cL (wB (T++"<"++gN (bT P)) (bT P))++_=cL T++([("<":Str)++iv (bT P),mG (fS (rx (bT P)) (bv (bT P))::nt a),">"].flatMap cL++_)
   have H:cL (rx (bT P))=cL "xmlns:"++[bT P]:=cX _ _;have e2:cL (wB (T++"<"++gN (bT P)) (bT P))=cL T++(60::bT P::58::99::32::(cL "xmlns:"++(bT P::61::34::117::114::110::58::bT P::[34]))):=by unfold wB;rw[cX,cX,cX,cX,cX,cX,cX,J,l6,l8,l9];show((((((cL T++[60])++[bT P,58,99])++_)++[bT P])++_)++[bT P])++[34]=_;simp only[bH,sn,uS]
   rw[e2];simp only[jg,nQ,cX "<" (iv _),eq,Z,Wh,H,aQv,J,l7,bH,sn,uS]
end
section
set_option exponentiation.threshold 3000
abbrev i7:Type:=Str×List PW
def eu(k:Nat)(S:i7):i7:=(nG (S.2.take (S.2.length - k)) S.1,S.2.drop (S.2.length - k))
def Fs(b:Bool)(r:FR)(S:i7):i7:=(uB b r S.1 S.2,⟨fR S.2 r,fq S.2 r,j5 S.2 r,j6 S.2 r⟩::S.2)
theorem step_eq(b:Bool)(S:i7)(r:FR):gv b S r=Fs b r (eu r.dp.toNat S):=rfl
theorem Wi:∀(a c:List PW)(T:Str),nG (a++c) T=nG c (nG a T)
 |[],_,_=>rfl|_::a,c,_=>Wi a c _
theorem BB{S:i7}(h:S.2.length<=k):eu k S=S:=by unfold eu;refine rR (BU h) ?_;rfl
theorem LQ(h:k<=j)(S:i7):eu k (eu j S)=eu k S:=by
 by_cases H:S.2.length<=j;·exact rR (BB H) rfl
 ·obtain⟨T,ys⟩:=S;have J:=Nat.le_of_not_le H;unfold eu;refine rR (Gu ..) (rR (List.drop_drop ..) (rL (Wi ..) (rR (Na J h ..) ?_)));exact rL List.take_add (rR (Na J h) rfl)
theorem aQ2(T:Str)(y:PW)(ys:List PW)(h:ys.length=k):eu k (T,y::ys)=(T++"</"++y.tg++">",ys):=by unfold eu;simp only[eH,h,show k+1 - k=1 by exact c8 (aT [eQ (Y0+Y1) (Y1+1)] (lE Y0 1) rfl (bX (fF ..))) (fz [eQ (Y0+Y1) (Y1+1)] (lE 1 Y0) [-1] 1 rfl (bX (fF ..)))];rfl
theorem aQ3{b:Bool}(S:i7)(r:FR)(h:r.dp.toNat<=k):gv b (eu k S) r=gv b S r:=by simp only[step_eq,step_eq,LQ h]
theorem aQ4{b:Bool}(S:i7):∀H:List FR,(∀r,H.head?=some r->r.dp.toNat<=k)->eu k (H.foldl (gv b) (eu k S))=eu k (H.foldl (gv b) S)
 |[],_=>by simp only[aWh,aWh,LQ (a8 k)]
 |r::H,h=>by simp only[Gq,Gq,aQ3 S r (h r rfl)]
noncomputable abbrev fE(p:PR):FR:=p.at_ (λ_=>0) 0
inductive j9:List PW->Nat->Nat->Nat->Prop
 |nil:j9 [] 0 256 256
 |cons {ys P F B:_} (p:PR) (F2 B2:Nat):j9 ys P F B->p.Ok->ys.length<=3->(F:Int)*p.sh=4*F2->(B:Int)*p.va=4*B2->j9 (⟨fR ys (fE p),fq ys (fE p),j5 ys (fE p),j6 ys (fE p)⟩::ys) ((P+p.tu.toNat) % 64) F2 B2
structure Wj(ys:List PW)(P F B:Nat):Prop where
 a:wD ys=((P:Int),(F:Int),(B:Int))
 p:P< 64
 f:F<=256
 b:B<=256
 df:4 ^ (4 - ys.length) ∣ F
 db:4 ^ (4 - ys.length) ∣ B
theorem Ft{H:Nat}{s:Int}(Y:0<=s)(J:s<=4)(h:(F:Int)*s=4*H)(hn:n<=3)(Z:F<=256)(d:4 ^ (4 - n) ∣ F):H<=256/\4 ^ (4 - (n+1)) ∣ H:=by
 obtain⟨t,rfl⟩:=YE Y;have h':F*t=4*H:=by exact_mod_cast h
 refine⟨?_,?_⟩
 ·have:=Nat.mul_le_mul Z (bK.mp J);exact fz [eQ Y1 (.m 4 Y0),lE Y1 (.m 256 4)] (lE Y0 256) [-1,1] 4 rfl h' this
 ·obtain⟨c,rfl⟩:=d;refine⟨c*t,?_⟩;have e:4 - n=(4 - _)+1:=s1 hn;simp only[e,Yh]at h';have:4*(4 ^ (4 - (n+1))*(c*t))=4*H:=by refine rL h' ?_;ac_rfl
  exact c8 (fz [eQ (.m 4 Y1) (.m 4 Y0)] (lE Y0 Y1) [-1] 4 rfl this) (fz [eQ (.m 4 Y0) (.m 4 Y1)] (lE Y0 Y1) [1] 4 rfl this)
theorem Fu{s:Int}(H:0<=s)(hn:n<=3)(d:4 ^ (4 - n) ∣ F):∃J:Nat,(F:Int)*s=4*J:=by obtain⟨t,rfl⟩:=YE H;obtain⟨c,rfl⟩:=d;refine⟨4 ^ (4 - (n+1))*c*t,?_⟩;simp only[(s1 hn),Yh];push_cast;ac_rfl
theorem Fv{P J B2:Nat}(S:Wj ys P F B)(H:p.Ok)(Y:ys.length<=3)(Z:(F:Int)*p.sh=4*J)(h5:(B:Int)*p.va=4*B2):Nums ys (fE p) ((P+p.tu.toNat) % 64) J B2:=by
 refine⟨?_,?_,?_,uP _ (by decide),(Ft H.wL H.sh Z Y S.f S.df).1,(Ft H.wM H.va h5 Y S.b S.db).1⟩
 ·show((wD ys).1+p.tu).fmod 64=_;refine rR S.a ?_;show((P:Int)+p.tu).fmod 64=_;exact rR (Gs _ (by decide)) (Zg H.Fb)
 ·show((wD ys).2.1*p.sh).fdiv 4=_;exact rR S.a (rR Z (rR (BM _ (by decide)) (bw (iA [_,(J:Nat)] [lE (Ax.m 4 Y0) (Ax.m 4 Y1)] (lE Y0 Y1) [1] 4 rfl (Ce (by decide))) (iA [(J:Nat),_] [lL (Ax.m 4 Y0) ((Ax.m 4 Y1)+4)] (lE Y0 Y1) [1] 4 rfl (Cd (by decide))))))
 ·show((wD ys).2.2*p.va).fdiv 4=_;exact rR S.a (rR h5 (rR (BM _ (by decide)) (bw (iA [_,(B2:Nat)] [lE (Ax.m 4 Y0) (Ax.m 4 Y1)] (lE Y0 Y1) [1] 4 rfl (Ce (by decide))) (iA [(B2:Nat),_] [lL (Ax.m 4 Y0) ((Ax.m 4 Y1)+4)] (lE Y0 Y1) [1] 4 rfl (Cd (by decide))))))
theorem j9.facts{P:Nat}(h:j9 ys P F B):Wj ys P F B:=by
 induction h with
 |nil=>exact⟨rfl,by decide,by decide,by decide,⟨1,rfl⟩,⟨1,rfl⟩⟩|cons p F2 B2 _ hp hl h4 h5 ih=>have n:=Fv ih hp hl h4 h5;have f:=Ft hp.wL hp.sh h4 hl ih.f ih.df;have g:=Ft hp.wM hp.va h5 hl ih.b ih.db;refine⟨?_,n.pT,f.1,g.1,f.2,g.2⟩;show(fq _ _,j5 _ _,j6 _ _)=_;simp only[n.eP,n.eF,n.eB]
theorem j9.drop{P:Nat}(h:j9 ys P F B):∀k,∃P F B,j9 (ys.drop k) P F B:=by
 induction h with
 |nil=>exact λk=>rR Yz ⟨_,_,_, .nil⟩|cons p F2 B2 h hp hl h4 h5 ih=>
  intro k;induction k with
  |zero=>exact⟨_,_,_, .cons p F2 B2 h hp hl h4 h5⟩|succ k=>exact ih k
def yR(ys:List PW)(xs:List Nat):Prop:=∀x,x∈xs ↔ (ys.any λy=>decide (y.tg=gN x))=true
theorem Wk{x z:Nat}(h:gN x=gN z):x=z:=(List.cons.inj (congrArg cL h)).1
theorem aQ5{r:FR}{P:Nat}(h:yR ys xs)(n:Nums ys r P F B)(f:Option (Nat×Nat)):yR (⟨fR ys r,fq ys r,j5 ys r,j6 ys r⟩::ys) (ax.xs ⟨f,jD ys P F B,bT P⟩ xs):=by
 intro z;have Y:fR ys r=rP (!gU F B) (bT P):=by unfold fR;rw[n.d,n.x]
 refine rR Y ?_;have H:=h z;unfold ax.xs jD;dsimp only;induction Y:gU F B with
 |true=>exact H|false=>
  show _ ↔ (decide (gN _=gN z)||_)=true;induction J:ys.any λy=>decide (y.tg=gN _)with
  |true=>
   show z∈xs ↔ _;rw[MO,decide_eq_true_iff];constructor;·exact λq=> .inr (H.mp q)
   ·rintro (q|q);·exact rL (Wk q) ((h _).mpr J)
    ·exact H.mpr q
  |false=>
   show z∈bT P::xs ↔ _;rw[MO,decide_eq_true_iff,a9];constructor
   ·rintro (q|q);·exact rR q (.inl rfl)
    ·exact .inr (H.mp q)
   ·rintro (q|q);·exact .inl (Wk q).symm
    ·exact .inr (H.mpr q)
theorem BC{b:Bool}{x y:Nat}{l:List Nat}(J:x∈l)(H:y∈l):cond b x y∈l:=by
 induction b with
 |false=>exact H|true=>exact J
theorem Wl(P:Nat):bT P∈dR:=BC (by decide) (BC (by decide) (BC (by decide) (BC (by decide) (BC (by decide) (by decide)))))
theorem Wm(h:yR ys xs)(P F B:Nat)(f:Option (Nat×Nat))(J:f≠none\/ys=[]):ax.Fits ⟨f,jD ys P F B,bT P⟩ xs:=by
 refine⟨?_⟩;have Y:=h (bT P);unfold jD;dsimp only;induction Z:gU F B with
 |true=>exact .inl rfl|false=>
  induction H:ys.any λy=>decide (y.tg=gN _)with
  |true=>
   refine .inr (.inl ⟨rfl,?_,Wl P,Y.mpr H⟩);rcases J with J|rfl
   ·exact J
   ·injection H
  |false=>exact .inr (.inr ⟨rfl,Wl P,λq=>by replace H:=(Y.mp q)▸H;injection H⟩)
end
section
set_option exponentiation.threshold 3000
def lY(H:List PR):List (Nat×List Nat):=H.flatMap nI
def Chain:List PR->Prop
 |[]=>True|q::rs=>(q.Ok/\1<=q.dp/\q.dp<=3)/\(∀r,rs.head?=some r->r.dp<=q.dp+1)/\Chain rs
theorem Chain.suffix:∀{a b:List PR},Chain (a++b)->Chain b
 |[],_,h=>h|_::_,_,h=>Chain.suffix h.2.2
abbrev i8(b:Bool)(S:i7)(H:List PR):i7:=(H.map fE).foldl (gv b) S
structure Wn(w:aj)(b:Bool)(xs:List Nat)(d:Nat)(r g bl:UInt64)(S:i7)(Wr:List Nat)(fT:Option Str)(l:List (Nat×ab))(rs below after:List PR)(o:List Str)(l2:List (Nat×ab))(p2:Option Str):Prop where
 split:rs=below++after
 hd:∀r,after.head?=some r->r.dp<=d
 kids:∃m,rF w (16 - d) xs (d+1) b d r g bl l2 (jC (lY after)) p2 m fT l (jC (lY rs)) o
 bh:∃j,Behind j (lY after) l2
 hz:l2.length<=l.length
 st:(eu (d+1) (i8 b S below)).2=S.2
 tx:cL (eu (d+1) (i8 b S below)).1=Wr++(o.flatMap cL++nJ b p2)
 p2:oZ b p2
 n:o.length<=6*below.length
def LR(w:aj)(b:Bool)(n:Nat):Prop:=∀(Y:List PR)(d:Nat)(S:i7)(xs:List Nat)(P F B:Nat)(r g bl:UInt64)(Wr:List Nat)(Z:Option Str)(l:List (Nat×ab))(j:Nat),Y.length<=n->Chain Y->(∀r,Y.head?=some r->r.dp<=d+1)->d<=3->S.2.length=d+1->j9 S.2 P F B->yR S.2 xs->d8 P F B r g bl->cL S.1=Wr++nJ b Z->oZ b Z->l.length<=1000->Behind j (lY Y) l->∃H J o l2 p2,Wn w b xs d r g bl S Wr Z l Y H J o l2 p2
theorem Wo{H:List PR}(h:Chain H):tI (jC (lY H))/\(jC (lY H)).length<=640/\∀q Y,H=q::Y->jC (lY H)=eX q.dp/\eX q.dp≠[]/\uR ⟨(eX q.dp).toArray⟩=some q.dp:=by
 induction H with
 |nil=>exact⟨by show([⟨#[104]⟩,⟨#[115]⟩,⟨#[118]⟩]:List Str).any _=false;decide+kernel,fZ _,λq Y h=>nomatch h⟩|cons q H=>have J:=pa (kU (by decide) h.1.2.1) (jE h.1.2.2 (by decide));exact⟨J.2.2.2.2,aE J.1 (by decide),λH Y h=>by injection h with h;subst h;exact⟨rfl,J.2.2.1,J.2.2.2.1⟩⟩
theorem aQ6(h:nm∈names)(H:nm.length<=2)(b:Bool):oZ b (some (aW nm)):=λx e=>by
 injection e with e;subst e
 refine⟨bu [lE Y0 2] (lE Y0 100) rfl H,?_⟩;induction b with
 |false=>exact bu [lE Y0 2] (lE Y0 100) rfl H|true=>refine cI (LN nm h) λe l z=>?_;show(pJ _).length<=100;exact rR e (rR (show(aW _).length=(lV nm).length from py) (bu [lE Y0 2] (lE Y0 100) rfl l))
theorem Wp(b:Bool)(p:Option Str):(iZ b p).length<=1:=by
 induction p with
 |none=>exact fZ _|some x=>
  show(oP b x).length<=1;unfold oP;split;·exact fZ _
  ·exact a8 _
theorem aQ7{r:FR}{P:Nat}(H:Nums ys r P F B)(f:Option (Nat×Nat))(T:Str):cL (T++"</"++fR ys r++">")=cL T++cL ("</"++oQ (ax.g ⟨f,jD ys P F B,bT P⟩) (bT P)++">"):=by
 refine hO λJ J=>J ?_;simp only[cX,cX,cX,cX,cX,bH,bH,bH];congr 1;congr 1;congr 1;have e:fR ys r=rP (!gU F B) (bT P):=by unfold fR;rw[H.d,H.x]
 simp only[e,LO];unfold cG;induction gU F B with
 |true=>rfl|false=>rfl
theorem Wq{b:Bool}(IH:LR w b n)(p:PR)(rs:List PR)(d:Nat)(S:i7)(xs:List Nat)(P F B:Nat)(r g bl:UInt64)(Wr:List Nat)(fT:Option Str)(l:List (Nat×ab))(j:Nat)(hn:rs.length<=n)(hp:p.Ok)(hd:p.dp=d)(d3:d<=3)(ch:Chain rs)(hh:∀r,rs.head?=some r->r.dp<=d+1)(hl:S.2.length=d)(sk:j9 S.2 P F B)(xo:yR S.2 xs)(C:d8 P F B r g bl)(tx:cL S.1=Wr++nJ b fT)(hz:l.length<=1000)(A:om j ((p.dr,p.nm)::(uH p.dr (qp p)++lY rs)) l):∃(J Z B2:Nat)(V:mQ)(H Y:List PR)(o2:List Str)(l2:List (Nat×ab))(p2:Option Str),Read w p J Z B2 r g bl l (lY rs) V/\Nums S.2 (fE p) J Z B2/\Wn w b (ax.xs ⟨none,jD S.2 J Z B2,bT J⟩ xs) d V.Dv.r V.Dv.g V.Dv.b (Fs b (fE p) S) (Wr++nJ b fT++(ax.ws ⟨none,jD S.2 J Z B2,bT J⟩ V.at_).flatMap cL) (some (aW p.nm)) V.l2 rs H Y o2 l2 p2/\(eu d (i8 b S (p::H))).2=S.2/\cL (eu d (i8 b S (p::H))).1=Wr++(V.outs ⟨none,jD S.2 J Z B2,bT J⟩ b fT p2 o2).flatMap cL/\(V.outs ⟨none,jD S.2 J Z B2,bT J⟩ b fT p2 o2).length<=6*(H.length+1):=by
 have fa:=sk.facts;have l3:=aT [lE Y1 3,eQ Y0 Y1] (lE Y0 3) rfl d3 hl;obtain⟨Z,h4⟩:=Fu hp.wL l3 fa.df;obtain⟨B2,h5⟩:=Fu hp.wM l3 fa.db;have N:=Fv fa hp l3 h4 h5;refine hO λcg aY=>cI (Wo ch) λnk hW z=>?_;obtain⟨V,R⟩:=row_read (w:=w) hp fa.p fa.f fa.b h4 h5 C nk hW hz A;refine aY ?_;have Ws:=j9.cons p Z B2 sk hp l3 h4 h5;generalize _ % 64=J at N R Ws;have Wt:=Wg hp.nm hp.na;have tx2:cL (Fs b (fE p) S).1=Wr++nJ b fT++(ax.ws ⟨none,jD S.2 J Z B2,bT J⟩ V.at_).flatMap cL++nJ b (some (aW p.nm)):=by show cL _=_;refine rR (aQ0 N Wt hp.na b none (a:=V.at_) (by show(⟨V.F.toArray⟩:Str)=_;refine rR R.hF ?_;rfl) R.J R.j1 R.j2 R.j3 S.1) (rR tx (rL (bH ..) ?_));rfl
 refine hO λkA dZ=>?_;obtain⟨j',bh⟩:=R.bh;obtain⟨H,Y,o2,l2,p2,K⟩:=IH rs d _ _ J Z B2 V.Dv.r V.Dv.g V.Dv.b _ _ V.l2 j' hn ch hh d3 (by show S.2.length+1=_;exact rR hl rfl) Ws (aQ5 xo N none) R.C tx2 (aQ6 Wt hp.nm b) (aE R.hz hz) bh;refine dZ ⟨J,Z,B2,V,H,Y,o2,l2,p2,R,N,K,?_⟩;have J:eu d (i8 b S (p::H))=eu d (eu (d+1) (i8 b (Fs b (fE p) S) H)):=by rw[LQ (aUw d)];show eu d ((H.map fE).foldl _ _)=_;simp only[step_eq,show(fE p).dp.toNat=d by show p.dp.toNat=d;refine rR hd ?_;rfl,BB (qu hl)]
 have H:eu _ _=((eu _ _).1,⟨fR S.2 _,fq S.2 _,j5 S.2 _,j6 S.2 _⟩::S.2):=Prod.ext rfl K.st;refine rR J (rR H (rR (aQ2 _ _ _ hl) ?_));refine⟨rfl,?_,?_⟩
 ·rw[aQ7 N none,K.tx];show _=Wr++(iZ b fT++ax.ws _ V.at_++o2++_).flatMap cL;simp only[zh,jg,nQ,dQ,bH];rfl
 ·have H:=Wp b fT;show(iZ b fT++[_,_,_]++o2++_).length<=_;simp only[bQ,eH,B9];exact qN [lE Y0 1,lE Y2 1,lE Y1 (.m 6 Y3)] (lE (Y0+(0+1+1+1)+Y1+(Y2+(0+1))) (.m 6 (Y3+1))) rfl H (Wp b p2) K.n
theorem aQ8{b:Bool}(IH:LR w b n)(q:PR)(Z:List PR)(d:Nat)(S:i7)(xs:List Nat)(P F B:Nat)(r g bl:UInt64)(Wr:List Nat)(fT:Option Str)(l:List (Nat×ab))(j:Nat)(hn:Z.length<=n)(hp:q.Ok)(hd:q.dp=((d+1:Nat):Int))(Y:d+1<=3)(ch:Chain Z)(hh:∀r,Z.head?=some r->r.dp<=((d+1:Nat):Int)+1)(hl:S.2.length=d+1)(sk:j9 S.2 P F B)(xo:yR S.2 xs)(C:d8 P F B r g bl)(tx:cL S.1=Wr++nJ b fT)(po:oZ b fT)(hz:l.length<=1000)(A:om j ((q.dr,q.nm)::(uH q.dr (qp q)++lY Z)) l):∃(H J:List PR)(o1:List Str)(l1:List (Nat×ab)),Z=H++J/\(∀r,J.head?=some r->r.dp<=((d+1:Nat):Int))/\J9 w (16 - d) xs (d+1) b fT q.dp r g bl l o1 l1 (jC (lY J))/\(∃j,Behind j (lY J) l1)/\l1.length<=l.length/\(eu (d+1) (i8 b S (q::H))).2=S.2/\cL (eu (d+1) (i8 b S (q::H))).1=Wr++o1.flatMap cL/\o1.length<=6*(H.length+1):=by refine hO λcg aY=>?_;obtain⟨P2,F2,B2,V,H,J,o2,l2,p2,R,N,K,a,c,e⟩:=Wq IH q Z _ S xs P F B r g bl Wr fT l j hn hp hd Y ch hh hl sk xo C tx hz A;refine aY ⟨H,J,_,l2,K.split,K.hd,?_,K.bh,aE K.hz R.hz,a,c,e⟩;obtain⟨m,km⟩:=K.kids;have t:=aOt (n:=16 - (d+1)) (N:=16 - d) (cz [eQ (Y0+(Y2+1)) 16,eQ (Y1+Y2) 16] (lE (Y0+1) Y1) [1,-1] 1 rfl (bX (bu [lE (Y0+1) 3] (lE (Y0+1) 16) rfl Y)) (bX (bu [lE (Y0+1) 3] (lE Y0 16) rfl Y))) (fz [lE (Y1+1) 3,eQ (Y0+Y1) 16] (lE 14 Y0) [1,-1] 1 rfl Y (bX (bu [lE (Y0+1) 3] (lE Y0 16) rfl Y))) V _ _ (λf=>R.ok f _ (LO ..)) (dF ..) (aE Y (dF ..)) (λq=>Wm xo P2 F2 B2 _ (.inl nofun)) po K.p2 (by simp only[R.hd,hd,R.hF,R.hW];exact km);simp only[R.hd,R.hr,R.hg,R.hb,R.hl]at t;exact t
theorem aQ9(w:aj)(b:Bool):∀n,LR w b n:=by
 intro n;induction n with
 |zero=>intro Z d S xs P F B r g bl Wr fT l j hn Y hh d3 hl sk xo C tx po hz bh;obtain rfl:Z=[]:=XZ.mp (Nat.le_zero.mp hn);exact⟨[],[],[],l,fT,rfl,(λr h=>nomatch h),⟨0, .stop 0 0 ⟨.inl ⟨rfl,rfl⟩⟩⟩,⟨j,bh⟩,a8 _,rR (show i8 b S []=S from rfl) (rR (BB (qu hl)) rfl),by refine rR (show i8 b S []=S from rfl) (rR (BB (qu hl)) ?_);exact tx,po,a8 _⟩
 |succ n ih=>
  intro Z d S xs P F B r g bl Wr fT l j hn Y hh d3 hl sk xo C tx po hz bh;have c0:=BB (qu hl);induction Z with
  |nil=>exact⟨[],[],[],l,fT,rfl,(λr h=>nomatch h),⟨0, .stop 0 0 ⟨.inl ⟨rfl,rfl⟩⟩⟩,⟨j,bh⟩,a8 _,rR (show i8 b S []=S from rfl) (rR c0 rfl),by refine rR (show i8 b S []=S from rfl) (rR c0 ?_);exact tx,po,a8 _⟩|cons q Z=>
   refine cI (Wo Y) λz hW hq=>cI (hq q Z rfl) λe1 e2 e3=>?_;by_cases H:q.dp<=d;·refine⟨[],q::Z,[],l,fT,rfl,λr h=>by injection h with h;subst h;exact H,⟨0, .stop 1 q.dp ⟨.inr ⟨rfl,e2,hW,e3,H⟩⟩⟩,⟨j,bh⟩,a8 _,rR (show i8 b S []=S from rfl) (rR c0 rfl),by refine rR (show i8 b S []=S from rfl) (rR c0 ?_);exact tx,po,a8 _⟩
   ·have yJ:q.dp=((d+1:Nat):Int):=by have:=hh q rfl;exact bw (this) (iB [(d:Nat),_] [lL Y0 Y1] (lE (Y0+1) Y1) rfl (wP.mp H))
    have d3':d+1<=3:=by have:=Y.1.2.2;exact bK.mp (iB [(d:Nat),_] [lL Y0 Y1,lE Y1 3] (lE (Y0+1) 3) rfl (wP.mp H) this)
    have rm:=Mb hn;refine hO λcg aY=>YY (aQ8 ih q Z d S xs P F B r g bl Wr fT l j rm Y.1.1 yJ d3' Y.2.2 (λr J=>yJ▸Y.2.1 r J) hl sk xo C tx po hz bh) λFw Wu o1 l1 s1 h1 t1 z2 z1 xc tx1 n1=>?_;obtain⟨j1,bh1⟩:=z2;refine aY ?_;have ch1:Chain Wu:=by have:=Y.2.2;rw[s1]at this;exact this.suffix
    refine hO λY dZ=>?_;obtain⟨BD,aRa,o2,l2,p2,K⟩:=ih Wu d _ xs P F B r g bl _ none l1 j1 (by have:=congrArg MN s1;rw[bQ]at this;exact lq [lE Y2 Y1,eQ Y2 (Y3+Y0)] (lE Y0 Y1) [1,-1] 1 rfl rm this) ch1 (λr J=>by have:=h1 r J;exact this) d3 (xc▸hl) (xc▸sk) (xc▸xo) C (by rw[tx1];show _=_++[];rw[dQ]) (λx h=>nomatch h) (aE z1 hz) bh1;refine dZ ?_;have ef:eu (d+1) (i8 b S (q::Fw++BD))=eu (d+1) (i8 b (eu (d+1) (i8 b S (q::Fw))) BD):=by
     rw[aQ4]
     ·show eu _ (((q::Fw++BD).map fE).foldl _ S)=_;simp only[bM,XW]
     ·intro r J;induction BD using pq with
      |nil=>injection J|cons c rest=>
       injection J with J;subst J
       have:=h1 c (by refine rR K.split ?_;rfl);exact aRz.mpr this
    obtain⟨m,km⟩:=K.kids;refine⟨q::Fw++BD,aRa,o1++o2,l2,p2,by refine rR s1 (rR K.split ?_);simp,K.hd,⟨m+1,?_⟩,K.bh,aE K.hz z1,?_,?_,K.p2,?_⟩;·exact .Tw q.dp e2 (hW) e3 H t1 km
    ·simp only[ef,K.st,xc]
    ·simp only[ef,K.tx,zh,bH,bH]
    ·have:=K.n;simp only[bQ,bQ,eH];exact qN [lE Y0 (.m 6 (Y2+1)),lE Y1 (.m 6 Y3)] (lE (Y0+Y1) (.m 6 (Y2+1+Y3))) rfl n1 this
end
section
set_option exponentiation.threshold 3000
theorem Fx{n:Int}(J:0<=n)(H:n<=4194304):Sm n:=⟨J,jE H (by decide)⟩
theorem in_of(h:n<=256):In (-100000000) 100000000 (n:Int):=⟨kU (by decide) (bG n),kU (bK.mpr h) (by decide)⟩
theorem Wv{r:FR}{P:Nat}(H:Nums ys r P F B):Br ys r:=by
 have J:=wO H.rZ H.uI;refine qI (zJ P H.pT) λz z w0 w1 w2=>?_;have Z:=λ(w:Int)(hw:0<=w/\w<=32)=>wN (bG B) (bK.mpr H.uI) (bG F) (bK.mpr H.rZ) hw.1 hw.2;have sl:=λ(w:Int)(hw:0<=w/\w<=32)=>Fx (Z w hw).1 (kU (Z w hw).2 (by decide));refine⟨H.eF▸in_of H.rZ,H.eB▸in_of H.uI,H.l.1▸sl _ w0,H.l.2.1▸sl _ w1,H.l.2.2▸sl _ w2,H.bo▸Fx (bG _) (bK.mpr J.1),H.eP▸Fx (bG _) (kU (bK.mpr (cR H.pT)) (by decide)),λY=>?_⟩;have q:=H.q;rw[Y]at q;have q':rS ys r=Qd F B:=q;have g:gU F B=false:=by
  have:=H.d;replace this:=Y▸this;induction hg:gU F B with
  |true=>replace this:=hg▸this;injection this|false=>rfl
 have pos:0< B*F:=by unfold gU at g;rw[BP]at g;exact BV (Mm (by simpa using g.2)) (Mm (by simpa using g.1))
 have Z:wE ys r=((min (Bo B F) (4194304 - Bo B F):Nat):Int):=by unfold wE;exact rR H.bo (M9 J.1)
 have mp:0< min (Bo B F) (4194304 - Bo B F):=by have:=J.2;exact(WF _ _).elim (λY=>cz [lE (Ax.m 32 Y1) Y2,lL 0 Y1,eQ Y0 Y2] (lL 0 Y0) [1,32,-1] 1 rfl this.1 pos (r5 (Y))) (λY=>lq [lE (Y1+(Ax.m 32 Y2)) 4194304,lL 0 Y2,eQ Y0 Y3,eQ (Y3+Y1) 4194304] (lL 0 Y0) [1,32,-1,-1] 1 rfl this.2 pos (FC (Y)) (bX (J.1)))
 refine cI (VZ P H.pT) λt1 t2 Y=>⟨q'▸Fx (Fo H.rZ H.uI).1 (Fo H.rZ H.uI).2,?_,?_,?_⟩
 ·rw[Z];intro h;have:=eq_of_beq h;exact aS2 0 (g8 [lL 0 Y0,eQ Y0 0] (lL 0 0) [1,1] 0 rfl (cb.mpr mp) this)
 ·simp only[Z,Int.natAbs_natCast];exact iH (aE (Yr _ _) J.1) (qr (by decide:4194304< 2 ^ 23) (FU (by decide) (by decide)))
 ·exact rR H.eP ⟨Y▸t1,Y▸t2⟩
theorem aRb(H:nm.length<=2)(J:∀c∈nm,c∈signs)(b:Bool):ES b nm:=qI (LN nm (Wg H J)) λj l s a c=>⟨H,λc H=>LA c (J c H),l,λc H=>LA c (s c H),λz=>⟨a,c,aE l (by decide)⟩⟩
theorem j9.all{P:Nat}(h:j9 ys P F B):∀y∈ys,y.tg.length<=3/\In (-100000000) 100000000 y.fu/\In (-100000000) 100000000 y.br:=by
 induction h with
 |nil=>exact λy hy=>nomatch hy|cons p F2 B2 sk hp hl h4 h5 ih=>
  intro y hy;have n:=Fv sk.facts hp hl h4 h5;rcases a9.mp hy with rfl|hy
  ·refine⟨KP,?_,?_⟩;·simp only[n.eF];exact in_of n.rZ
   ·simp only[n.eB];exact in_of n.uI
  ·exact ih y hy
theorem aRc{r:FR}{P:Nat}(H:Nums ys r P F B)(b:Bool)(hn:ES b r.nm){t:Nat}(Y:T.length<=t):(uB b r T ys).length<=t+2100:=by
 have N:=Wv H;have ns:(rT ys r (T++"<"++fR ys r)).length<=t+1+3+17:=by
  have a:(T++"<"++fR ys r).length<=t+1+3:=ln (ln Y (by decide+kernel)) KP;unfold rT;split;·exact aE (ln (ln (ln (ln (ln a (b:=7) (by decide+kernel)) (rN _)) (b:=6) (by decide+kernel)) (rN _)) (b:=1) (by decide+kernel)) (bu [] (lE (Y0+1+3+7+1+6+1+1) (Y0+1+3+17)) rfl)
  ·exact aE a (fF ..)
 have J:(rQ b r.nm (lV r.nm)).length<=2:=by
  induction b with
  |true=>exact hn.l'|false=>exact hn.l
 exact aE (ln (ln (ln (ln (ln ns (U3 N.l0 N.l1 N.l2 (EV λz=>N.P) N.bo)) (b:=4) (by decide+kernel)) (EO hn.l)) (U2 (EV λh=>(N.q h).1))) (EO J)) (bu [] (lE (Y0+1+3+17+1000+4+12+1000+12) (Y0+2100)) rfl)
theorem Fy{b:Bool}{S:i7}{P t:Nat}(sk:j9 S.2 P F B)(hT:S.1.length<=t)(ht:t<=30000)(H:p.Ok)(h0:0<=p.dp)(Y:S.2.length<=3)(d0:S.2=[]->p.dp=0)(d1:S.2≠[]->1<=p.dp/\p.dp<=S.2.length):yH b S (fE p)/\(∃P F B,j9 (gv b S (fE p)).2 P F B)/\((gv b S (fE p)).2.length:Int)=p.dp+1/\(gv b S (fE p)).1.length<=t+2200:=by
 refine hO λcg aY=>?_;obtain⟨P',F',B',Ww⟩:=sk.drop _;refine aY ?_;have lk:((S.2.drop (kP S.2 (fE p))).length:Int)=p.dp:=by
  refine rR Gu ?_;have e:kP S.2 (fE p)=S.2.length - p.dp.toNat:=rfl;refine rR e ?_;induction hs:S.2 with
  |nil=>refine rR (d0 hs) ?_;rfl|cons y ys=>have:=d1 (hs▸nofun);rw[hs]at this;exact Nb this.1 this.2
 have J:(S.2.drop (kP S.2 (fE p))).length<=3:=rR Gu (aE (nK _ _) Y);have Z:=Ww.facts;obtain⟨F2,h4⟩:=Fu H.wL J Z.df;obtain⟨B2,h5⟩:=Fu H.wM J Z.db;have N:=Fv Z H J h4 h5;have nm:=aRb H.nm H.na b;refine⟨⟨aE hT ht,sk.all,Y,d0,λh=>?_,Wv N,nm⟩,⟨_,_,_, .cons p F2 B2 Ww H J h4 h5⟩,?_,?_⟩
 ·have:=d1 h;exact⟨this.1,⟨this.2,iB [(S.snd.length:Nat),_] [lE Y0 3,lE 1 Y1] (lE Y0 (Y1+2)) rfl (bK.mpr Y) this.1⟩⟩
 ·exact bw (bR [eQ Y0 Y1] (lE (Y0+1) (Y1+1)) rfl lk) (cN [eQ Y1 Y0] (lE (Y0+1) (Y1+1)) [-1] 1 rfl lk)
 ·have J:=EW (S.2.take (kP S.2 (fE p))) S.1 t hT λy H=>(sk.all y (Yy H)).1;exact aE (aRc N b nm J) (fz [lE Y1 3] (lE (Y0+(.m 6 Y1)+2100) (Y0+2200)) [6] 1 rfl (rR w4 (aE (aVp _ _) Y)))
end
section
set_option exponentiation.threshold 3000
abbrev Fz(p:Nat->PR):List PR:=nc ([p 0,p 1,p 2,p 3])
theorem step_at(b:Bool)(S:i7)(q:PR)(y:Nat->Nat)(k:Nat):gv b S (q.at_ y k)=gv b S (fE q):=rfl
theorem LW(b:Bool)(p:Nat->PR)(y:Nat->Nat):mO b (gg p y)=i8 b ("",[]) (Fz p):=by show gv b _ _=gv ..;simp only[step_at b _ (p 0) y 3,step_at b _ (p 1) y 10,step_at b _ (p 2) y 17,step_at b _ (p 3) y 24]
theorem FA{b:Bool}{S:i7}{q:PR}(y:Nat->Nat)(k:Nat)(h:yH b S (fE q)):yH b S (q.at_ y k):=⟨h.T,h.W,h.l,h.d0,h.d1,⟨h.n.F,h.n.B,h.n.l0,h.n.l1,h.n.l2,h.n.bo,h.n.P,h.n.q⟩,h.nm⟩
theorem Wx:("":Str).length=0:=by decide+kernel
section
variable {p:Nat->PR}(H:Ls p)(b:Bool)
include H
theorem aRd:(∀y,yK b (gg p y))/\(jA b (kR p)).length<=50024:=by
 refine hO λcg aY=>?_;obtain⟨o0,⟨j,j,j,s0⟩,l0,t0⟩:=Fy (S:=("",[])) .nil (a8 0) (by decide) (H.ok 0) (by rw[H.d0];decide) (by decide) (λz=>H.d0) (λh=>absurd rfl h);refine aY ?_;have Z:(gv b ("",[]) (fE (p 0))).2.length=1:=by have:=H.d0;exact c8 (bK.mp (bR [eQ Y0 (Y1+1),eQ Y1 0] (lE Y0 1) rfl l0 this)) (bK.mp (cN [eQ Y0 (Y1+1),eQ Y1 0] (lE 1 Y0) [-1,-1] 1 rfl l0 this))
 refine hO λkA dZ=>?_;obtain⟨o1,⟨j,j,j,s1⟩,l1,t1⟩:=Fy s0 t0 (by decide) (H.ok 1) (by rw[H.d1];decide) (by rw[Z];decide) (λh=>by replace Z:=h▸Z;injection Z) (λz=>rR Z (rR H.d1 ⟨by decide,by decide⟩));refine dZ ?_;have n1:(gv b (gv b ("",[]) (fE (p 0))) (fE (p 1))).2.length=2:=by have:=H.d1;exact c8 (bK.mp (bR [eQ Y0 (Y1+1),eQ Y1 1] (lE Y0 2) rfl l1 this)) (bK.mp (cN [eQ Y0 (Y1+1),eQ Y1 1] (lE 2 Y0) [-1,-1] 1 rfl l1 this))
 obtain⟨o2,⟨j,j,j,s2⟩,l2,t2⟩:=Fy s1 t1 (by decide) (H.ok 2) (by have:=H.d2;exact bf [lE 1 Y0] (lE 0 Y0) rfl this.1) (by rw[n1];decide) (λh=>by replace n1:=h▸n1;injection n1) (λz=>rR n1 H.d2);have d2:=H.d2;have Y:=H.d3;refine hO λkA dZ=>?_;obtain⟨o3,⟨j,j,j,s3⟩,l3,t3⟩:=Fy s2 t2 (by decide) (H.ok 3) (bf [lE 1 Y0] (lE 0 Y0) rfl Y.1) (bK.mp (bR [eQ Y0 (Y1+1),lE Y1 2] (lE Y0 3) rfl l2 d2.2)) (λh=>by rw[h]at l2;exact bw (cN [eQ 0 (Y1+1),lE 1 Y1] (lE Y0 0) [-1,1] 0 rfl l2 d2.1) (bf [lE 1 Y0] (lE 0 Y0) rfl Y.1)) (λz=>⟨Y.1,jN [eQ Y1 (Y2+1),lE Y0 (Y2+1)] (lE Y0 Y1) [-1,1] 1 rfl l2 Y.2⟩);refine dZ ?_;have al:=s3.all;have l4:=bK.mp (g9 [lE Y1 2,lE Y2 (Y1+1),eQ Y0 (Y2+1)] (lE Y0 4) rfl d2.2 Y.2 l3);refine⟨λy=>⟨λi r J=>?_,?_,?_,?_⟩,?_⟩
 ·match i,J with
  |0,J=>injection J with J;subst J;exact FA y 3 o0
  |1,J=>obtain rfl:=dG J;exact FA y 10 o1
  |2,J=>obtain rfl:=dG J;exact FA y 17 o2
  |3,J=>obtain rfl:=dG J;exact FA y 24 o3
  |n+4,J=>injection J
 ·exact aE t3 (by decide)
 ·exact aE l4 (by decide)
 ·exact λy J=>(al y J).1
 ·exact aE (EW _ _ _ t3 λy J=>(al y J).1) (qM [lE Y0 4] (lE (0+2200+2200+2200+2200+(Ax.m 6 Y0)) 50024) [6] 1 rfl l4)
theorem Wy:Chain [p 1,p 2,p 3]:=by
 have Z:=H.d1;have J:=H.d2;have Y:=H.d3;refine⟨⟨H.ok 1,g8 [eQ Y0 1] (lE 1 Y0) [-1] 1 rfl Z,bf [eQ Y0 1] (lE Y0 3) rfl Z⟩,λr h=>?_,⟨H.ok 2,bf [lE 1 Y0] (lE 1 Y0) rfl J.1,bf [lE Y0 2] (lE Y0 3) rfl J.2⟩,λr h=>?_,⟨H.ok 3,bf [lE 1 Y0] (lE 1 Y0) rfl Y.1,bR [lE Y1 2,lE Y0 (Y1+1)] (lE Y0 3) rfl J.2 Y.2⟩,(λr h=>nomatch h),True.intro⟩;·injection h with h;subst h;exact cN [eQ Y1 1,lE Y0 2] (lE Y0 (Y1+1)) [-1,1] 1 rfl Z J.2
 ·injection h with h;subst h;exact bR [lE Y0 (Y1+1)] (lE Y0 (Y1+1)) rfl Y.2
theorem dps:∀q∈Fz p,0<=q.dp/\q.dp< 64/\q.Ok:=λq hq=>by
 have Y:=H.d0;have d1:=H.d1;have J:=H.d2;have Z:=H.d3;rcases a9.mp hq with rfl|hq
 ·exact⟨g8 [eQ Y0 0] (lE 0 Y0) [-1] 1 rfl Y,bf [eQ Y0 0] (lL Y0 64) rfl Y,H.ok 0⟩
 rcases a9.mp hq with rfl|hq
 ·exact⟨g8 [eQ Y0 1] (lE 0 Y0) [-1] 1 rfl d1,bf [eQ Y0 1] (lL Y0 64) rfl d1,H.ok 1⟩
 rcases a9.mp hq with rfl|hq
 ·exact⟨bf [lE 1 Y0] (lE 0 Y0) rfl J.1,bf [lE Y0 2] (lL Y0 64) rfl J.2,H.ok 2⟩
 exact bI.mp hq▸⟨bf [lE 1 Y0] (lE 0 Y0) rfl Z.1,bR [lE Y1 2,lE Y0 (Y1+1)] (lL Y0 64) rfl J.2 Z.2,H.ok 3⟩
end
theorem Wz:∀(l:List Str)(n:Nat),l.foldl (λa s=>a+s.length+("":Str).length) n=n+(l.map (·.length)).sum
 |[],_=>rfl|s::l,n=>by exact rR (Gq ..) (rR (Wz l ..) (rR (iJ ..) (rR (aVc ..) (rR (Wx ..) (c8 (b7 [] (lE (Y0+Y1+0+Y2) (Y0+(Y1+Y2))) rfl) (b7 [] (lE (Y0+(Y1+Y2)) (Y0+Y1+0+Y2)) rfl))))))
theorem aRe{l:List Str}{t:Str}(h:je "" l=t)(H:t.length<=50024):sA (l.toArray.foldl (· +·.length+("":Str).length) 0)=false:=by rw[Ym,Wz];have:=Gr "" l;rw[h,Wx]at this;have s:=nO;exact decide_eq_false (by omega)
theorem aRf:d8 0 256 256 0x3FF0000000000000 0 0:=by
 refine⟨?_,?_,?_⟩;·exact m5 (by decide+kernel) rfl
 ·exact m5 (n:=0) (by decide+kernel) rfl
 ·exact m5 (n:=0) (by decide+kernel) rfl
theorem aRg:eX 0=[48]:=by decide+kernel
theorem aRh(p:Nat->PR):rY p=((p 0).dr,eX (p 0).dp)::((p 0).dr,(p 0).nm)::(uH (p 0).dr (qp (p 0))++lY [p 1,p 2,p 3]):=by unfold rY lY;simp only[jg,nQ,dQ];rfl
theorem aRi(w:aj)(b:Bool){p:Nat->PR}(H:Ls p):Lo w b p:=by
 obtain⟨LI,dz⟩:=aRd H b;have J:=dps H;have h1:∀q∈rY p,q.2.length<=2:=λq hq=>by
  unfold rY at hq;simp only[cq]at hq;have k:∀i,p i∈Fz p->q∈nI (p i)->q.2.length<=2:=λi hi h=>(VV (J _ hi).2.2 (J _ hi).1 (J _ hi).2.1).2 q h;rcases hq with h|h|h|h
  ·exact k 0 az h
  ·exact k 1 (aB az) h
  ·exact k 2 (aB (aB az)) h
  ·exact k 3 (aB (aB (aB az))) h
 have h2:(rY p).length<=32:=by unfold rY;have k:∀i,p i∈Fz p->(nI (p i)).length<=8:=λi hi=>(VV (J _ hi).2.2 (J _ hi).1 (J _ hi).2.1).1;simp only[bQ,bQ,bQ];exact qN [lE Y0 8,lE Y1 8,lE Y2 8,lE Y3 8] (lE (Y0+(Y1+(Y2+Y3))) 32) rfl (k 0 az) (k 1 (aB az)) (k 2 (aB (aB az))) (k 3 (aB (aB (aB az))))
 have h3:(fQ (kR p)).length<=1000:=by have e:(fQ _).length=(fQ (kR p)).cps.toList.length:=nP.symm;simp only[e,VR];exact aE (aP9 _ 0 h1) (qM [lE Y0 32] (lE (.m 7 Y0) 1000) [7] 1 rfl h2)
 have sL:∀y,jA b (gg p y)=jA b (kR p):=λy=>by unfold jA;rw[LW,LW]
 refine⟨λy r hr=>?_,λs hs=>?_,h3,LI,sL,aE dz (by decide),λl hl=>?_⟩
 ·rcases a9.mp hr with rfl|hr
  ·exact Fl (H.ok 0) (J _ az).1 (J _ az).2.1 _ _
  rcases a9.mp hr with rfl|hr
  ·exact Fl (H.ok 1) (J _ (aB az)).1 (J _ (aB az)).2.1 _ _
  rcases a9.mp hr with rfl|hr
  ·exact Fl (H.ok 2) (J _ (aB (aB az))).1 (J _ (aB (aB az))).2.1 _ _
  exact rR (bI.mp hr) (Fl (H.ok 3) (J _ (aB (aB (aB az)))).1 (J _ (aB (aB (aB az)))).2.1 _ _)
 ·rw[VQ]at hs;refine aO (bq.mp hs) λq hq eq1=>?_;subst eq1;have:=VU q (h1 q hq);exact aE this (by decide)
 ·have Lr:l.length<=1000:=by exact rL (dA ..) (rR (hl ..) (rR (nP ..) h3))
  have J:=aCo (hl.trans (VR p));rw[aRh]at J;refine ig (vB J) λl0 tk A1 z1=>?_;have tQ:fb l0 l [48]:=by simp only[show _.2=eX (p 0).dp from rfl,H.d0,aRg]at tk;exact tk
  refine hO λJ aY=>?_;obtain⟨P2,F2,B2,V,Z,Y,o2,J,p2,R,N,K,J,tx,n⟩:=Wq (aQ9 w b 3) (p 0) [p 1,p 2,p 3] 0 ("",[]) [] 0 256 256 0x3FF0000000000000 0 0 [] none l0 1 (a8 _) (H.ok 0) H.d0 (by decide) (Wy H) (λr h=>by injection h with h;subst h;rw[H.d1];decide) rfl .nil (λx=>⟨nofun,nofun⟩) aRf (by show cL ""=[]++[];decide+kernel) (aE z1 Lr) A1;refine aY ?_;have ha:Y=[]:=by
   induction Y using pq with
   |nil=>rfl|cons q r=>have c:=Wy H;rw[K.split]at c;have:=K.hd q rfl;have:=c.suffix.1.2.1;omega
  subst ha;obtain⟨j,bh⟩:=K.bh;subst bh;obtain⟨m,km⟩:=K.kids;have eb:Z=[p 1,p 2,p 3]:=by have:=K.split;rw[dQ]at this;exact this.symm
  subst eb;have J:je "" (V.outs ⟨none,jD [] P2 F2 B2,bT P2⟩ b none p2 o2)=jA b (kR p):=by refine aQk ?_;rw[show cL _=_ from Fj _];rw[<-show cL _=(V.outs ⟨none,jD [] ..,bT P2⟩ ..).flatMap cL from tx];unfold jA;rw[LW];unfold eu;simp only[Nat.sub_zero,B5]
  refine⟨⟨V,jD [] P2 F2 B2,bT P2,m,p2,o2,[]⟩,⟨?_,?_,R.hr,R.hg,R.hb,R.ok none _ (LO [] ..),Wm (ys:=[]) (xs:=[]) (λx=>⟨nofun,nofun⟩) P2 F2 B2 none (.inr rfl),K.p2,aE n (by show 6*4<=880;decide),?_, .eof rfl⟩,fZ _,J,aRe J dz,aQd hl⟩;·simp only[show _.V.l=V.l from rfl,R.hl];exact tQ
  ·exact R.hd.trans H.d0
  ·simp only[R.hd,H.d0,R.hF,R.hW];exact km
end
theorem aRj(h:zk vs ns):vs.length=ns.length:=by
 induction h with
 |nil=>rfl|cons _ _ _ ih=>simp only[eH,eH,ih]
theorem walk{H:am}{p:c9}{lo:List Str}{sO:WX->Option ag}{mg mb:Str->Option ag}(J:aK w H.heap)(T:Top p lo sO mg mb H.heap)(h8:∀P∈[123,247,252,259,264,269],H.heap.get? P=some (jI #[]))(hg:H.gens=#[])(Z:∃o,H.heap.get? 1=some o){Y:af}(hL:H.heap.IsList S vs.toArray)(hI:zk vs ns)(hz:ns.length<=63)(hm:mg "law"=some (.ref Y)){cl:Str->Option af}{args:List WData}(hp:Rw.row.claim.post args (.bool true) args=true)(hr:∀x,Rw.row.claim.raises args x=false):eC (av w) uZ (gF Y [.ref S]) (GoodWG Rw.row.claim cl sO args H) H:=by
 have e:=mg_of J T.g (n:="law") (v:= .ref 272) (by kernel_rfl);replace e:=hm▸e;obtain rfl:Y=272:=by cases e;rfl
 refine hO λH aY=>?_;obtain⟨⟨c,d,dt,sl⟩,ho,hc,n,hd⟩:=hL;refine aY ?_;obtain rfl:c= .type "list":=hc;obtain rfl:dt= .seq vs.toArray n:=hd;exact hO λH Y=>Y7 (aP2 hI (aRj hI▸hz)) λH H v sm b sc H=>Y (aPz J T (w9.mpr ⟨⟨codeHd_of_K J (by kernel_rfl),h8 252 (by decide)⟩,w9.mpr ⟨⟨codeHd_of_K J (by kernel_rfl),h8 123 (by decide)⟩,λz h=>nomatch h⟩⟩) hg Z ho sc (aRi w b H) λs' Z h2 h3=>
  ⟨.inl ⟨.bool true, .bool true,[],rfl,hr, .bool true,hp,λz=>⟨bN,λa H=>nomatch H⟩⟩,Z,h2,h3⟩)
noncomputable def DL:{d:DefRec // d=sD}:=by apply aSi;conv=>rhs;whnf
theorem final:Rw.Holds:=aCt (by
 refine rL DL.2 ?_;k_fill;intro w ak H H H G Y H o H H H H H H H H H H hg args J J Z J hrd Kc pU;have Y1:=Y.1;refine Ground.open G ?_;intro T B D TE TW;wrow_args Z J hrd Kc pU;rename zk _ _=>hI;rename Heap.IsList _ _ _=>hL;rename ¬_=>hc;refine enter_call (walk (km_in_of Y1) T (km_tabs_of Y1) hg Y.2 hL hI ?_ H ?_ ?_);·exact bK.mp ((fG.mp hc))
 ·exact postW_of (by wrow_shape) (by wtm_val) (by str_meet;first|done|w_fin)
 ·exact raisesW_false (by wrow_none_raised))
end
end Mine.Internal
theorem PySem.Challenge.cw_sc0109_01_holds : PySem.Challenge.rw_sc0109_01.Holds :=
  Mine.Internal.final
