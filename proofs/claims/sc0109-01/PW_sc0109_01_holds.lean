import PyProof.Rows.All
import PyProof.AutoIntG1
import PyProof.AutoIntG4
import PyProof.AutoIntG6
import PyProof.AutoIntG7
import PyProof.AutoListH
import PyProof.SliceList
import PyProof.StrLoop
import PyProof.MeetsSeq
import PyProof.TupleKey
import PyProof.MeetsSeq3
import PyProof.EqAt
import PyProof.NeKinds
import PyProof.SliceStr
import PyProof.WalksMore
import PyProof.RangeFor
import PyProof.ListIndexNeg
import PyProof.ListStr
import PyProof.StrLawsReplace
import PyProof.Rows.StrRev
import PyProof.Rows.SeqMore2
import PyProof.Rows.SumAny
import PyProof.Rows.StrIntSpec
import PyProof.Rows.ExtendIn
import Flt.RightMore
import Flt.RightSqrt
import KE.KIntText
import KE.KItemsList
import KE.KxPercentT
import Wide.FinOn
import OpenK.AllK
import Wide.All
import Lean
import PySem.Challenge.RW_sc0109_01
open PySem renaming Tok->ab,Addr->af,Value->ag,World->aj,Shared->am,Obj->ar,wpAny_bind->au,Heap->aw,Around->aD,wpAny->aG,wpAny_pure->aH,model->aR,execs->aV,recursionLimit->bk,Code->bB,Sem->cb,Stmt->cq,Result->cz,Expr->cY,Program->c9,Flow->dm,codeAny_call_builtin->dK,cLine->dQ,Pos->d6,codeAny->eH,rawInt->eJ,Runs->eM,eval->fy,Model->fV,wpAny_holding->fW,table->gz,sizeLine->gA,valueAt->g7,typeIs_str->ic,sysModules->ie,Wakes->iL,wpAny_field->jc,wpAny_of_eq->je,typeIs_int->jK,wpAny_newObj_type->kd,Data->k7,Env->lb,argsOk->lf,Fin->lm,strKind->lp,bindArgs->md,newFunctionEnv->me,entryFor->mf,strKind_is->ml,wpAny_isInstance->mU,End->mV,wpAny_execs_cons->mW,strLen_append->mX,sizeLine_eq->nP,Params->ph,Args->pq,wpAny_mono->pA,seqIndex?->pC,wpAny_standAt->pD,assign->pF,SetTable->pH,wpAny_setState_of->pI,strValues->pJ,codeAny_builtin->qw,IsPart->qx,wpAny_rule->qy,wpAny_call_entry->qz,wpAny_execs_nil->qC,Frame->qD,Resume->qG,wpAny_setField->sn,FuncData->uJ,denote->uK,wpAny_attempt->uN,intText?->uO,wpAny_typeOf->uS,letOwnedTupleGo->uU,callerA->uX,wpAny_seqItems->wS,wpAny_callSpecial?_slot->wT,slot_listiter_next->wU,hashStr->wX,wpAny_askSetting->wZ,limitOf->w4,starEach->w5,Slot->yQ,wpAny_load->yU,numsOf->yV,slicePick->yW,pyNext->y3,backTo->y6,backToKw->y7,keywordEach->y8,Arguments->Bw,Setting->BF,NameKind->BL,field->BQ,slot_list_getitem->BU,relayAll->BW,partValue->B3,codeAny_call_function->FA,wpAny_updateSeq->FB,wants->FJ,plainId_quiet->FM,GenState->FP,wpAny_handled->FQ,wpAny_throw->FS,isSubtype_stop->FV,wpAny_setEntries_of->F6,standAt->Ga,holding->Gb,size_glued->Gg,wpAny_ite->Gi,Scope->LH,nsFind->LW,Gives->L0,codeAny_mono->Ma,sliceMade->Mb,intItems->Md,codeAny_func->Mi,Frame->Mk,entry_listiter_next->Mm,args_listiter_next->Mn,foldedSetIterable->Mp,pyIter->Ms,pickOrder->Mu,wpAny_fieldsOf->Mv,isInstance->Mw,wpAny_eqBool_str->My,callMarked->MC,isTrue->MD,stripSame->MI,ExcName->WC,entry_len->WE,plainId->W5,AllInts->W6,entry_list_getitem->W7,args_list_getitem->W8,wpAny_specialOf->Xa,wpAny_listPart->Xb,wpAny_point->Xd,unsupported->Xe,splitAtGen->Xf,wpAny_Name->Xh,wpAny_loadName_local->Xi,execs_cons_wrap->Xk,GenResult->Xl,wpAny_For->Xn,codeAny_forLoop_any->Xo,DictEntry->Xp,ElemsOf->Xu,wpAny_storeSet_of->Xv,drawOrder->XA,wpAny_cRoomFor->XH,wpAny_truthy_bool->XJ,scanBound->XN,Keyword->XR,wpAny_with_toks->XU,meets_str_join_list->XX,compEnvC->XY,wpAny_mkText->XZ,stripped->Yb,codeAny_of_tree->aUe,entryFor_of_fast->aU4,meets_str_getitem_slice->aVf,checkBuiltinCall->aVi,slicePick_size_le->aVm,wpAny_setScan_of->aVy,setDisplayStar->aV3,wpAny_runValue->aV4,wpAny_dictEpoch->aV5,wpAny_dictEntries->aV6,wpAny_forIn_list->aV7,entryFor_of_tree->aV9,entryFor_alias->aWa,wpAny_pyIter_slot->aWc,slot_dict_getitem->aWo,methodCallForm->aWr,wpAny_listSubscript_int->aWs,codeAny_compStart_list->aW7,gives_int_repr->aXd,wpAny_tupleItemsOf->aXh,wpAny_Return_some->aXj,codeAny_whileLoop->aXl,length_partsBetween->aYc
open Nat renaming le_trans->aE,le_refl->a8,sub_add_cancel->bY,beq->bZ,le_of_lt->cT,le_antisymm->c8,le_of_ble_eq_true->dk,ne_of_lt->dw,not_lt->dA,le_add_left->dG,mul_le_mul_left->dU,mul_comm->dW,le_add_right->fG,zero_le->f4,lt_of_le_of_lt->iI,mul_assoc->ja,ne_of_gt->jd,mul_le_mul_right->jG,lt_irrefl->jI,sub_le->nL,le_of_succ_le->nO,lt_of_lt_of_le->qr,le_of_eq->qu,min_eq_left->rZ,two_pow_pos->r6,casesOn->r8,succ_le_succ->si,mod_lt->uM,lt_succ_self->wW,mul_lt_mul_of_pos_right->yM,ble->yO,add_le_add_left->yP,add_le_add_right->yR,lt_trans->y4,zero_mul->BB,sub_eq_zero_of_le->BM,mul_pos->BN,succ_pos->BO,add_sub_cancel'->Fp,min_eq_right->Fq,blt->Ft,le_of_lt_succ->Fv,pow_add->Fw,add_le_add->Fx,one_mul->Fy,pow_le_pow_right->FF,not_le->FH,le_sub_of_add_le'->LJ,add_assoc->LK,add_comm->LO,le_of_succ_le_succ->LR,pos_of_ne_zero->L8,zero_add->Mo,le_total->Wk,succ_sub->Wl,mul_lt_mul_of_pos_left->Ws,one_pos->Wu,add_lt_add_left->WA,lt_or_ge->WM,div_le_of_le_mul->WN,le_succ_of_le->WP,pow_succ->XV,min_le_left->X8,le_of_sub_eq_zero->aTk,eq_zero_of_le_zero->aTl,sub_add_eq->aTq,sub_sub_self->aTu,lt_or_eq_of_le->aT2,log2_lt->aT3,mod_add_div->aUy,mul_div_le->aU0,mul_one->aU1,le_of_not_lt->aU2,lt_succ_of_lt->aWe,le_succ->aWt,lt_add_of_pos_right->aWv,add_mul->aW8,add_lt_add_right->aXb,min_le_right->aXm,add_zero->aX6,le_min->aYd
open PySem.Value renaming ref->aN,bool->dY,type->FU,isStrOf_shape->FY,int->aTj,casesOn->aT9
open PySem.PyData renaming keyHash->aS
open List renaming mem_cons->a9,not_mem_nil->bi,mem_map->bq,mem_append_right->bD,append_assoc->bH,mem_singleton->bI,mem_append_left->bL,map_append->bM,nodup_nil->bN,length_append->bQ,mem_map_of_mem->b7,nodup_cons->cj,mem_append->cr,toArray->cF,Perm->cH,length_map->dB,getElem?_map->dP,append_nil->dR,length_cons->eI,nodup_append->fj,range->fI,getElem?_mapIdx->gB,getElem?_eq_getElem->gF,count_append->ig,map_cons->iK,mem_of_getElem?->jb,perm_iff_count->jg,flatMap_cons->jh,ext_getElem?->jH,perm_append_comm->jM,perm_middle->lj,flatMap_nil->nS,casesOn->px,size_toArray->pz,map->qH,all_eq_true->r5,getElem?_eq_some_iff->r9,cons_append->sj,nil_append->uP,getElem?_eq_none->uQ,length_reverse->uR,getElem_mem->uT,getD_eq_getElem?_getD->uV,nodup_range->uW,map_nil->wR,length_take->wY,forall_mem_cons->w7,flatMap_append->za,map_map->BH,map_eq_nil_iff->BR,take_length->BV,length_nil->BZ,append_toArray->FI,reverse_append->FW,append_of_mem->F7,mem_toArray->F9,take_succ->Gd,length_mapIdx->Ge,foldl_cons->Gf,length_drop->Gj,getElem?_of_mem->LY,take_of_length_le->Mc,getElem?_toArray->Me,range'->Mt,length->Mz,length_singleton->MF,all_cons->Wq,getElem?_set_ne->Wy,map_congr_left->Wz,getElem?_range->WW,length_range->WX,reverse_cons->W0,foldl_append->Xy,length_eq_zero_iff->XC,mem_cons_of_mem->XE,mem_flatMap->XF,getElem?_cons_zero->XM,foldl_toArray->X0,nodup_range'->X4,mem_reverse->X6,any_map->Yc,mem_of_mem_take->Yf,drop_nil->Yg,getElem?_inj->aUb,getElem?_set_self->aUc,getLast?_eq_getElem?->aUd,mem_range->aUg,push_toArray->aUk,map_eq_append_iff->aVa,map_reverse->aVg,reverse_reverse->aVh,drop_eq_getElem_cons->aVu,findIdx?_eq_none_iff->aVx,range'_succ->aV8,length_eraseIdx_of_lt->aWb,getElem?_append_left->aWg,getElem?_append_right->aWh,ext_getElem->aWi,isPerm_iff->aWk,mapIdx_cons->aWn,take_append_drop->aWu,any_append->aWw,forIn_cons->aWy,mem_cons_self->aWz,sum_cons->aW9,Nodup->aXa,getElem?_eq_none_iff->aXe,all_toArray->aXk,reverse->aXn,reverse_perm->aX0,take_nil->aX1,count_eq_zero_of_not_mem->aYb,foldl_nil->aYe
open Int renaming le_antisymm->bw,natCast_nonneg->bG,ofNat_le->bK,ofNat_lt->cc,mul_comm->fk,le_refl->fx,not_lt->fH,le_of_lt->gm,lt_of_le_of_lt->jF,le_trans->kW,mul_nonneg->ma,ofNat->mh,toNat_of_nonneg->mS,ne_of_gt->nM,ofNat_sub->pi,mul_assoc->pk,pow_pos->r7,add_zero->uG,not_le->wN,pow_add->wO,toNat_natCast->wV,mul_zero->yN,min_eq_left->By,zero_mul->Bz,natAbs_mul->BA,fdiv_eq_ediv_of_nonneg->BE,lt_mul_ediv_self_add->B5,mul_ediv_self_le->B6,mul_one->Fs,natAbs_of_nonneg->Fu,compare_eq_gt->FC,mul_le_mul_of_nonneg_left->FE,fmod_eq_emod_of_nonneg->Gh,add_assoc->LI,min_le_left->LL,min_eq_right->LM,one_mul->LN,sub_nonneg_of_le->LP,lt_trichotomy->L1,compare_eq_lt->L2,compare_eq_eq->L5,lt_trans->L6,mul_le_mul->L7,ne_of_lt->Wh,le_max_left->Wi,le_min->Wj,zero_add->Wm,add_mul->Wn,neg_mul->Wo,add_nonneg->Wp,natAbs_pow->Wt,mul_pos->WK,mul_left_comm->WL,lt_or_gt_of_ne->WU,max_eq_right->W3,max_eq_left->W4,eq_ofNat_of_zero_le->Yl,toNat_add->aTm,ofNat_natAbs_of_nonpos->aTn,add_le_add_right->aTp,max_le->aTr,le_max_right->aTs,min_le_right->aTt,natCast_add->aTv,toNat_le->aTw,add_sub_assoc->aTx,sub_pos_of_lt->aTy,natCast_mul->aT1,natAbs_ne_zero->aT4,mul_ediv_cancel->aT6,mul_ediv_mul_of_pos_left->aT7,mul_eq_zero->aUx,lt_irrefl->aUz,sub_zero->aU8,lt_of_lt_of_le->aXy,emod_nonneg->aX9,emod_lt_of_pos->aYa
open PySem.Heap renaming get?_push_of_some->cZ,lt_size->dJ,get?_push_size->gZ,SameBut->lc,get?_update_self->nN,size_push->qv,get?_none_of_le->wP,ExtBut->yZ,dictOf_iff->y5,get?_update_other->XD
open Option.some renaming inj->dH,injEq->FX
open PySem.W renaming instObj->dX,hideAll->g6,tabObj->jJ,hideAll_get->ke,envX->su,Frag->uI,of_hideAll->yX,hideAll_none->yY,codeRec_of->BJ,methodObj->BP,codeIn->LU,dictOf->LZ,OwitFlow->Mq,ghostOf->Yi,ghost_ne->Yj
open PySem.Float64 renaming ofInt->d7,sub->gX,div->gY,mul->iJ,cmp->kX,isZero->kZ,isInf->lh,add->uH,decode->BC,truncOf->BD,divmod->WI,ofFrac->WT,floorOf->aT5
open Bool renaming and_eq_true->gy,or_eq_false_iff->BI,false_ne_true->FN,and_eq_true_iff->LQ,or_eq_true->MA,false_eq_true->WJ,or_eq_true_iff->aTz,and_true->aUs,not_not->aU3,or_true->aU9,or_false->aWx,noConfusion->aXz
open PySem.Str renaming ofString->gD,empty->pG,join->B4,cps_append->XT,length_append->X5
open PySem.Heap.SameBut renaming update->ib,refl->aV0
open PySem.Builtin.Str renaming glued->jf,occurrences->kb,tooLong->sw,Writer->w6,subAt->WO,strKind->Yk,percentFormat->aZp,percentIntOf->aZq,percentInt->aZr
open List.Perm renaming swap->jL,cons->y9,trans->Yd
open PySem.Obj renaming mapSeq->mT,mapFields->qA,putSet->Mr,data_mapFields->aVs
open Array renaming length_toList->nQ,getElem?_eq_getElem->yT,toList_append->zb,getElem?_toList->BS,getElem?_eq_none->WQ,replicate->Xx,all_eq_true'->aUa,size_push->aUj,getD_eq_getD_getElem?->aVe,toList_push->aVz,toList_inj->aX5,empty_append->aX8
open PyProof.Rows renaming News->py,seqObj->sr,IntsAre->zd,joinParts_cons->Gc,slot_tuple_contains->L9,envOf->Mj,listItems_at->Mx,IsTup->WR,toString_length_le->Ye,entry_tuple_contains->aU5,args_tuple_contains->aU6,slot_tuple_getitem->aVn,FormattedValue_plain->aW5,formatField_str->aW6,mapSeq_app->aZf,extend_door->aZh,mapSeq_reverse->aZi
open PySem.Txt renaming strip->pK,sliceBy->WV,splitMax->aWj
open Prod.mk renaming injEq->se,inj->aVb
open List.cons renaming injEq->uL
open Prod renaming snd->wQ,fst->WB
open PySem.W.KPc renaming Good->zc,ite_no->MG,turn->X9,short_good->Ya
open Exists renaming elim->BK
open PySem.SetTable renaming grown->BX,bits->BY,runEnd->FZ,laid->Xq,layClean->Xr,relaid->aVv
open PySem.Code renaming cUnits->Fz,weight->Wv,quiet_builtin->aVd
open PySem.F renaming slot_str_getitem->FL,slot_dict_get->MB,slot_str_join->ME,slot_str_mod->MH,slot_float_mul->WF,entry_float_mul->WG,args_float_mul_2->WH,entry_str_getitem->WY,args_str_getitem_2->WZ,slot_list_lt->XI,slot_str_split->XO,entry_str_split->XP,args_str_split_3->XQ,entry_str_join->XW,slot_list_append->aUh,entry_list_append->aUi,slot_list_pop->aUl,slot_float_sub->aUm,entry_float_sub->aUn,args_float_sub_2->aUo,slot_float_truediv->aUp,entry_float_truediv->aUq,args_float_truediv_2->aUr,slot_float_int->aUt,entry_float_int->aUu,args_float_int_1->aUv,slot_str_iter->aVc,slot_set_iter->aWd,slot_set_contains->aWl,slot_dict_items->aWp,entry_dict_get->aWq,args_str_join_2->aW2,slot_str_strip->aW3,entry_str_strip->aW4,entry_int_eq->aXc,slot_list_extend->aXf,slot_list_reverse->aXg,slot_tuple_eq->aXi,slot_range_iter->aXq,slot_range_iterator_next->aXr,slot_int_abs->aXs,entry_int_abs->aXt,args_int_abs_1->aXu,entry_str_mod->aXv,args_str_mod_2->aXw,slot_list_contains->aXx,slot_list_ne->aX2,slot_list_init->aX4,slot_list_eq->aX7
open PySem.Sem renaming bind_eq_wrap'->FO,wp->Mh,wrap_wrap->Ml,casesOn->Ww,onRaise_eq_wrap->Xj,wp_bind'->aVp,wp_mono->aVq
open Option renaming map_some->F8,bind_some->Mf,bind_eq_bind->aVw
open PySem.Stmt renaming casesOn->LG
open PySem.IsPart renaming int->Mg
open PySem.Expr renaming casesOn->Wg,Name->Xc,Call->aZd
open PySem.GenState renaming bare->Wx
open PySem.Builtin.List renaming listSubscript?->W9,listFitsIndex->X7,listSameRef->aWf,listExtendWith->aZb
open PySem.Data renaming seq->Xg,casesOn->aT8
open PySem.End renaming ret->Xm
open PySem.SetTable.layClean renaming free->Xw
open PySem.pickOrder renaming go->Xz
open Or renaming imp->Yh
open Decidable renaming em->aTo
open Classical renaming byContradiction->aT0
open Subtype renaming mk->aUf
open PySem.Flt renaming gives_int->aUw
open PySem.AutoFloatG3 renaming float___mul___float_int_1->aU7,float___le___float_float_0->aYs,float___sub___float_int_1->aYz
open PySem.Manifest renaming signature?->aVj
open PySem.Bind renaming checkArgs->aVk
open PySem.Walks renaming list->aVl,dictKeys->aV2
open PySem.Builtin.Tuple renaming tupleItemsOf->aVo
open PySem.Frame renaming guarded->aVr,ret->aY7
open PySem.Around renaming in1->aVt
open PyProof.Rows.F renaming entry_set_update_loop->aV1,plain_set_update_loop->aY9
open False renaming elim->aWm
open PySem.StrLaws renaming split_free->aW0,join_split->aW1
open PySem.Builtin.Range renaming small->aXo,rangeSize->aXp
open Except renaming ok->aX3
open PySem.Challenge renaming pw_sc0109_01->aYk,rw_sc0109_01->aYl
open List.Pairwise renaming of_map->aYm,imp_of_mem->aYn,map->aZe
open PySem.MeetsSeq renaming list_pop_last->aYo
open PySem.AutoFloatG4 renaming float___gt___float_float_0->aYp,float___ne___float_float_0->aYu,float___add___float_float_0->aYv,float___truediv___float_int_2->aY2
open PySem.AutoFloatG0 renaming float___sub___float_float_0->aYq
open PySem.AutoFloatG5 renaming float___lt___float_float_0->aYr,float___eq___float_float_0->aYt
open PySem.AutoFloatG1 renaming float___mul___float_float_0->aYw,float___truediv___float_float_1->aYx
open PySem.AutoFloatG2 renaming float___mod___float_float_1->aYy
open PySem.W.KIN renaming gives_text->aY0
open PySem.AutoIntG4 renaming int___truediv___int_int_2->aY1,int___gt___int_int_0->aY4,int___floordiv___int_int_1->aZs
open PySem.AutoIntG1 renaming int___lt___int_int_0->aY3,int___mul___int_int_0->aZm,int___abs___int_1->aZo
open PySem.Builtin.Builtins renaming bindParams->aY5
open PySem.Builtin.Generator renaming sleptOver->aY6,genWake->aY8
open Std.Legacy.Range renaming forIn_eq_forIn_range'->aZa
open PySem.Builtin.Frozenset renaming oneOther->aZc
open PySem.AutoSeq1 renaming list_extend_list_list_0->aZg
open PySem.AutoListH renaming list_reverse_list_0->aZj
open PySem.AutoIntG6 renaming int___mod___int_int_1->aZk
open PySem.Heap.ExtBut renaming refl->aZl
open PySem.AutoIntG0 renaming int___abs___int_0->aZn
open PySem.AutoIntG7 renaming int___eq___int_int_0->aZt
open PySem PySem.W PyProof.Rows
set_option Elab.async false
set_option maxRecDepth 100000
set_option maxHeartbeats 8000000
set_option linter.all false
set_option genInjectivity false
set_option genSizeOf false
namespace Mine.Internal
variable {A:aD}{aa aq h' aP:aw}{U n k B F j tk ta ep e2 aQ wm f sz lim kk re dep fg gr dr:Nat}{α β γ O δ:Type}{s ak s':am}{fr:Option af}{ao G p2 p3 p4:Prop}{t u t1 tb t2:ab}{E:ag->am->Prop}{a b z B2 sm:Int}{lv:List af}{prog:c9}{L S D I it ds ga C:af}{vs:List ag}{Q:dm->am->Prop}{y:UInt64}{ks:List Str}{R:cz->am->Prop}{pre news:List (af×ar)}{W nm:List Nat}{T name k0:Str}{rest:List (Nat×ab)}{sl:Array (Option ag)}{id:String}{env:lb}{args:pq}{Γ:Ctx}{fd:uJ}{fs:List Mk}{self:ag}{pos:d6}
noncomputable section
noncomputable abbrev nc{α:Type u}(a:α):α:=a
noncomputable def dM:Nat->Nat->List Nat
 |0,_=>[]|n+1,k=>(bif Nat.beq (k%64) 63 then 777 else k%64)::dM n (k/64)
noncomputable def dN:Nat->Nat->List Nat
 |0,_=>[]|n+1,k=>(bif Nat.beq (k%32) 31 then 777 else k%32)::dN n (k/32)
theorem ay{α:Type u}{a:α}{l:List α}:a∈a::l:=List.Mem.head l
theorem aB{α:Type u}{a b:α}{l:List α}(h:a∈l):a∈b::l:=List.Mem.tail b h
def g8(n:Nat):List Value:=nc ([.ref n, .none, .ref (n+1), .ref (n+2), .ref (n+3)])
abbrev bC(i:String)(l:List ag):Code:=nc (.call (.builtin i) ⟨l,[]⟩)
abbrev gG(a:af)(l:List ag):Code:=nc (.call (.ref a) ⟨l,[]⟩)
abbrev aA(l:List ag)(e:Nat):Obj:=nc (listOf l.toArray e)
theorem bW{P:aj->Prop}(a:∀w:aj,P (w.withFollow "special-get-raises" false))(b:∀w:aj,P (w.withFollow "special-get-raises" true))(w:aj):P w:=byRow2 "special-get-raises" a b w
section
open PySem PySem.W
def sE(s:cq):List PySem.Expr:=nc (@LG (λj=>List cY) s (λj j j j j j j j j j=>[]) (λj j j j j j j j j j=>[]) (λj j j j j j j j j j j=>[]) (λv j=>v.toList) (λj j=>[]) (λt v j=>v::t) (λj j j j j j j=>[]) (λj j j j=>[]) (λj j j j j=>[]) (λt i j j j=>[t,i]) (λj j j j j=>[]) (λt j j j=>[t]) (λt j j j=>[t]) (λj j j=>[]) (λj j j=>[]) (λj j j=>[]) (λj j j=>[]) (λj j j j j=>[]) (λj j j j j=>[]) (λj j j=>[]) (λj j=>[]) (λj j j j=>[]) (λj j=>[]) (λj j=>[]) (λv j=>[v]) (λj=>[]) (λj=>[]) (λj=>[]))
def sB(s:cq):List (List cq):=nc (@LG (λj=>List (List cq)) s (λj j b j j j j j j j=>[b]) (λj j j j j j j j j j=>[]) (λj j j b j j j j j j j=>[b]) (λj j=>[]) (λj j=>[]) (λj j j=>[]) (λj j j j j j j=>[]) (λj j j j=>[]) (λj j j j j=>[]) (λj j b o j=>[b,o]) (λj j j j j=>[]) (λj b o j=>[b,o]) (λj b o j=>[b,o]) (λj j j=>[]) (λj j j=>[]) (λj j j=>[]) (λj j j=>[]) (λb j o f j=>[b,o,f]) (λj j j j j=>[]) (λj j j=>[]) (λj j=>[]) (λj j j j=>[]) (λj j=>[]) (λj j=>[]) (λj j=>[]) (λj=>[]) (λj=>[]) (λj=>[]))
def sH(s:cq):List ExceptHandler:=nc (@LG (λj=>List ExceptHandler) s (λj j j j j j j j j j=>[]) (λj j j j j j j j j j=>[]) (λj j j j j j j j j j j=>[]) (λj j=>[]) (λj j=>[]) (λj j j=>[]) (λj j j j j j j=>[]) (λj j j j=>[]) (λj j j j j=>[]) (λj j j j j=>[]) (λj j j j j=>[]) (λj j j j=>[]) (λj j j j=>[]) (λj j j=>[]) (λj j j=>[]) (λj j j=>[]) (λj j j=>[]) (λj h j j j=>h) (λj j j j j=>[]) (λj j j=>[]) (λj j=>[]) (λj j j j=>[]) (λj j=>[]) (λj j=>[]) (λj j=>[]) (λj=>[]) (λj=>[]) (λj=>[]))
def sF(s:cq)(d:α)(f:Str->Bw->List cq->LH->d6->α):α:=nc (@LG (λj=>α) s (λn a b j j j s j j p=>f n a b s p) (λj j j j j j j j j j=>d) (λj j j j j j j j j j j=>d) (λj j=>d) (λj j=>d) (λj j j=>d) (λj j j j j j j=>d) (λj j j j=>d) (λj j j j j=>d) (λj j j j j=>d) (λj j j j j=>d) (λj j j j=>d) (λj j j j=>d) (λj j j=>d) (λj j j=>d) (λj j j=>d) (λj j j=>d) (λj j j j j=>d) (λj j j j j=>d) (λj j j=>d) (λj j=>d) (λj j j j=>d) (λj j=>d) (λj j=>d) (λj j=>d) (λj=>d) (λj=>d) (λj=>d))
def gE(g:List Comprehension):List PySem.Expr:=nc (g.flatMap λc=>[c.target,c.iter])
def eE(e:cY):List PySem.Expr:=@Wg (λj=>List cY) e (λj v j=>v) (λj j j=>[]) (λl j r j=>[l,r]) (λj j j=>[]) (λj b j j=>[b]) (λj j j j=>[]) (λj j j=>[]) (λv j j=>v) (λe g j j=>e::gE g) (λj j j j=>[]) (λk v g j j=>k::v::gE g) (λj j j j=>[]) (λj j=>[]) (λj j=>[]) (λj j=>[]) (λl j r j=>l::r) (λf a k j=>f::(a++k.map λk=>k.value)) (λv j j j=>[v]) (λv j=>v) (λj j j=>[]) (λv j j=>[v]) (λj j j=>[]) (λv j=>[v]) (λj j=>[]) (λj j=>[]) (λv j j=>v) (λj j j j=>[])
def eK(e:cY):Nat:=nc (@Wg (λj=>Nat) e (λj j j=>0) (λj j j=>0) (λj j j j=>0) (λj j j=>0) (λj j j j=>0) (λj j j j=>0) (λj j j=>0) (λj j j=>0) (λj j j j=>0) (λj j j j=>0) (λj j j j j=>0) (λj j j j=>0) (λj j=>0) (λj j=>0) (λj j=>0) (λj j j j=>0) (λj j j j=>0) (λj j j j=>0) (λj j=>0) (λj k j=>k) (λj j j=>0) (λj j j=>0) (λj j=>0) (λj j=>0) (λj j=>0) (λj k j=>k) (λj j j j=>0))
def eL(e:cY):Bw×cY×Scope:=nc (@Wg (λj=>Bw×cY×LH) e (λj j j=>default) (λj j j=>default) (λj j j j=>default) (λj j j=>default) (λa b s j=>(a,b,s)) (λj j j j=>default) (λj j j=>default) (λj j j=>default) (λe j s j=>(default,e,s)) (λj j j j=>default) (λj j j j j=>default) (λj j j j=>default) (λj j=>default) (λj j=>default) (λj j=>default) (λj j j j=>default) (λj j j j=>default) (λj j j j=>default) (λj j=>default) (λj j j=>default) (λj j j=>default) (λj j j=>default) (λj j=>default) (λj j=>default) (λj j=>default) (λj j j=>default) (λj j j j=>default))
def oS(o:Option cq):Stmt:=nc (o.getD default)
def pE(s:Option cq)(i:Nat):PySem.Expr:=(sE (oS s)).getD i default
def pB(s:Option cq)(i:Nat):List Stmt:=(sB (oS s)).getD i []
def xE(e:cY)(i:Nat):PySem.Expr:=(eE e).getD i default
end
noncomputable abbrev P:=aYk
def jN(i:Nat):Option Stmt:=nc (P.main.body[i]?)
def mo(i j:Nat):Option Stmt:=(pB (jN i) 0)[j]?
def fK(Z:Option cq)(qual:Str)(X J H Y:ag):Obj:=sF (oS Z) default λname args body scope j=>⟨.type "function",none, .func (fnOf name qual args body scope X J .none H none Y .none),#[]⟩
def Ym:{o:ar // o=fK (mo 7 0) "C14NWriterTarget.__init__" .none (.ref 60) (.str "cpy313.xml.etree.ElementTree" 289) (.ref 66)}:=nc (⟨_,rfl⟩)
def MJ:{o:ar // o=fK (mo 7 1) "C14NWriterTarget._iter_namespaces" (.ref 68) .none (.str "cpy313.xml.etree.ElementTree" 289) (.ref 74)}:=nc (⟨_,rfl⟩)
def uY:{o:ar // o=fK (mo 7 3) "C14NWriterTarget._qname" (.ref 83) .none (.str "cpy313.xml.etree.ElementTree" 289) (.ref 89)}:=nc (⟨_,rfl⟩)
def Yn:{o:ar // o=fK (mo 7 4) "C14NWriterTarget.data" .none .none (.str "cpy313.xml.etree.ElementTree" 289) (.ref 96)}:=nc (⟨_,rfl⟩)
def uZ:{o:ar // o=fK (mo 7 5) "C14NWriterTarget._flush" (.ref 99) .none (.str "cpy313.xml.etree.ElementTree" 289) (.ref 105)}:=nc (⟨_,rfl⟩)
def Yo:{o:ar // o=fK (mo 7 6) "C14NWriterTarget.start_ns" .none .none (.str "cpy313.xml.etree.ElementTree" 289) (.ref 112)}:=nc (⟨_,rfl⟩)
def u5:{o:ar // o=fK (mo 7 7) "C14NWriterTarget.start" .none .none (.str "cpy313.xml.etree.ElementTree" 289) (.ref 119)}:=nc (⟨_,rfl⟩)
def u6:{o:ar // o=fK (mo 7 8) "C14NWriterTarget._start" (.ref 121) .none (.str "cpy313.xml.etree.ElementTree" 289) (.ref 125)}:=nc (⟨_,rfl⟩)
def u7:{o:ar // o=fK (mo 7 9) "C14NWriterTarget.end" .none .none (.str "cpy313.xml.etree.ElementTree" 289) (.ref 132)}:=nc (⟨_,rfl⟩)
def MK:{o:ar // o=fK (jN 8) "_escape_cdata_c14n" .none .none (.str "cpy313.xml.etree.ElementTree" 289) (.ref 160)}:=nc (⟨_,rfl⟩)
def ML:{o:ar // o=fK (jN 9) "_escape_attrib_c14n" .none .none (.str "cpy313.xml.etree.ElementTree" 289) (.ref 167)}:=nc (⟨_,rfl⟩)
def Yp:{o:ar // o=fK (jN 11) "rgb_to_hls" .none .none (.str "cpy313.colorsys" 539) (.ref 174)}:=nc (⟨_,rfl⟩)
def Yq:{o:ar // o=fK (jN 12) "rgb_to_hsv" .none .none (.str "cpy313.colorsys" 539) (.ref 181)}:=nc (⟨_,rfl⟩)
def Yr:{o:ar // o=fK (jN 13) "hsv_to_rgb" .none .none (.str "cpy313.colorsys" 539) (.ref 188)}:=nc (⟨_,rfl⟩)
def Ys:{o:ar // o=fK (mo 15 0) "_netrclex.__init__" .none .none (.str "cpy313.netrc" 592) (.ref 202)}:=nc (⟨_,rfl⟩)
def Yt:{o:ar // o=fK (mo 15 1) "_netrclex._read_char" .none .none (.str "cpy313.netrc" 592) (.ref 209)}:=nc (⟨_,rfl⟩)
def zg:{o:ar // o=fK (mo 15 2) "_netrclex.get_token" .none .none (.str "cpy313.netrc" 592) (.ref 216)}:=nc (⟨_,rfl⟩)
def Yu:{o:ar // o=fK (mo 15 3) "_netrclex.push_token" .none .none (.str "cpy313.netrc" 592) (.ref 223)}:=nc (⟨_,rfl⟩)
def Yv:{o:ar // o=fK (jN 17) "_law_rows" .none .none (.str "law_sc0109_01" 652) (.ref 237)}:=nc (⟨_,rfl⟩)
def u8:{o:ar // o=fK (jN 18) "_law_word" .none .none (.str "law_sc0109_01" 652) (.ref 244)}:=nc (⟨_,rfl⟩)
def u9:{o:ar // o=fK (jN 19) "_law_file" .none .none (.str "law_sc0109_01" 652) (.ref 249)}:=nc (⟨_,rfl⟩)
def Yw:{o:ar // o=fK (jN 20) "_law_stream" .none .none (.str "law_sc0109_01" 652) (.ref 256)}:=nc (⟨_,rfl⟩)
def sy:{o:ar // o=fK (jN 21) "_law_tell" .none .none (.str "law_sc0109_01" 652) (.ref 261)}:=nc (⟨_,rfl⟩)
def vc:{o:ar // o=fK (jN 22) "_law_due" .none .none (.str "law_sc0109_01" 652) (.ref 266)}:=nc (⟨_,rfl⟩)
def vd:{o:ar // o=fK (jN 23) "law" .none .none (.str "law_sc0109_01" 652) (.ref 271)}:=nc (⟨_,rfl⟩)
noncomputable abbrev eb(s:String)(n:Nat):Str×Nat×Value:=((s:Str),n, .builtin s)
noncomputable abbrev ee(s:String)(n:Nat)(v:ag):Str×Nat×Value:=((s:Str),n,v)
noncomputable abbrev et(s:String)(n:Nat):Str×Nat×Value:=((s:Str),n, .type s)
def MM(p:ph)(c:ag)(l:List (Str×Nat×ag))(n:Nat):Obj:=nc (⟨c,none, .dict (l.map λe=>⟨aS p e.1, .str e.1 e.2.1,e.2.2⟩).toArray n,#[]⟩)
abbrev dO(p:ph)(l:List (Str×Nat×ag))(n:Nat):Obj:=MM p (.type "dict") l n
def cO(n q:Str)(t:Nat)(l:List Nat)(f h:Nat)(v:List ag)(u:Nat):Obj:=nc (⟨.type "code",none, .fields ([ag.str n t, .str q (t+1), .str "/claim/cut.py" (t+2)]++l.map (λi:Nat=>aTj i 0)++[aN f, .bool true, .int h 0]++v++[aTj u 0, .int (l.headD 0:Nat) 0, .str "/claim/cut.py" (u+1)]).toArray,#[]⟩)
def O0(p:ph):Obj:=dO p [ee "__name__" 1 (.str "builtins" 160),ee "__doc__" 2 (.builtin "builtins.__doc__:str#opaque"),ee "__package__" 3 (.builtin "builtins.__package__:str#opaque"),ee "__loader__" 4 (.builtin "builtins.__loader__:shared#opaque"),ee "__spec__" 5 (.builtin "builtins.__spec__#opaque"),eb "__build_class__" 6,eb "__import__" 7,eb "abs" 8,eb "all" 9,eb "any" 10,eb "ascii" 11,eb "bin" 12,eb "breakpoint" 13,eb "callable" 14,eb "chr" 15,eb "compile" 16,eb "delattr" 17,eb "dir" 18,eb "divmod" 19,eb "eval" 20,eb "exec" 21,eb "format" 22,eb "getattr" 23,eb "globals" 24,eb "hasattr" 25,eb "hash" 26,eb "hex" 27,eb "id" 28,eb "input" 29,eb "isinstance" 30,eb "issubclass" 31,eb "iter" 32,eb "aiter" 33,eb "len" 34,eb "locals" 35,eb "max" 36,eb "min" 37,eb "next" 38,eb "anext" 39,eb "oct" 40,eb "ord" 41,eb "pow" 42,eb "print" 43,eb "repr" 44,eb "round" 45,eb "setattr" 46,eb "sorted" 47,eb "sum" 48,eb "vars" 49,ee "None" 50 .none,ee "Ellipsis" 51 .ellipsis,ee "NotImplemented" 52 .notImplemented,ee "False" 53 (.bool false),ee "True" 54 (.bool true),et "bool" 55,et "memoryview" 56,et "bytearray" 57,et "bytes" 58,et "classmethod" 59,et "complex" 60,et "dict" 61,et "enumerate" 62,et "filter" 63,et "float" 64,et "frozenset" 65,et "property" 66,et "int" 67,et "list" 68,et "map" 69,et "object" 70,et "range" 71,et "reversed" 72,et "set" 73,et "slice" 74,et "staticmethod" 75,et "str" 76,et "super" 77,et "tuple" 78,et "type" 79,et "zip" 80,ee "__debug__" 81 (.bool true),et "BaseException" 82,et "BaseExceptionGroup" 83,et "Exception" 84,et "GeneratorExit" 85,et "KeyboardInterrupt" 86,et "SystemExit" 87,et "ArithmeticError" 88,et "AssertionError" 89,et "AttributeError" 90,et "BufferError" 91,et "EOFError" 92,et "ImportError" 93,et "LookupError" 94,et "MemoryError" 95,et "NameError" 96,et "OSError" 97,et "ReferenceError" 98,et "RuntimeError" 99,et "StopAsyncIteration" 100,et "StopIteration" 101,et "SyntaxError" 102,et "SystemError" 103,et "TypeError" 104,et "ValueError" 105,et "Warning" 106,et "FloatingPointError" 107,et "OverflowError" 108,et "ZeroDivisionError" 109,et "BytesWarning" 110,et "DeprecationWarning" 111,et "EncodingWarning" 112,et "FutureWarning" 113,et "ImportWarning" 114,et "PendingDeprecationWarning" 115,et "ResourceWarning" 116,et "RuntimeWarning" 117,et "SyntaxWarning" 118,et "UnicodeWarning" 119,et "UserWarning" 120,et "BlockingIOError" 121,et "ChildProcessError" 122,et "ConnectionError" 123,et "FileExistsError" 124,et "FileNotFoundError" 125,et "InterruptedError" 126,et "IsADirectoryError" 127,et "NotADirectoryError" 128,et "PermissionError" 129,et "ProcessLookupError" 130,et "TimeoutError" 131,et "IndentationError" 132,et "_IncompleteInputError" 133,et "IndexError" 134,et "KeyError" 135,et "ModuleNotFoundError" 136,et "NotImplementedError" 137,et "PythonFinalizationError" 138,et "RecursionError" 139,et "UnboundLocalError" 140,et "UnicodeError" 141,et "BrokenPipeError" 142,et "ConnectionAbortedError" 143,et "ConnectionRefusedError" 144,et "ConnectionResetError" 145,et "TabError" 146,et "UnicodeDecodeError" 147,et "UnicodeEncodeError" 148,et "UnicodeTranslateError" 149,et "ExceptionGroup" 150,ee "EnvironmentError" 151 (.type "OSError"),ee "IOError" 152 (.type "OSError"),eb "open" 153,ee "quit" 154 (.builtin "builtins.quit#opaque"),ee "exit" 155 (.builtin "builtins.exit#opaque"),ee "copyright" 156 (.builtin "builtins.copyright#opaque"),ee "credits" 157 (.builtin "builtins.credits#opaque"),ee "license" 158 (.builtin "builtins.license#opaque"),ee "help" 159 (.builtin "builtins.help#opaque")] 159
def K(p:ph):Frag:=(nat_lit 2,MM p .none [ee "\x69mport.loaded._sre" 183 (.bool true),ee "class._frozen_importlib.BuiltinImporter" 185 (.ref 14),ee "watched.\x69mport" 206 (.ref 18),ee "class._frozen_importlib.ModuleSpec" 216 (.ref 22),ee "sys.modules.booked-epoch" 245 (.int (3) 0),ee "\x69mport.later-laid._sre" 270 (.bool true),ee "watched.library" 272 (.ref 27),ee "watched.library-objects" 0 (.str "\x0c" 0),ee "watched.library-deep._sre" 273 (.str "\x04\x00\x00\x0b\x04\x00\x00\x0b\x04\x00\x00\x03\x04\x00\x00\x0b\x08\x04dict\x02" 0)] 9)::
 (nat_lit 3,dO p [ee "__name__" 165 (.str "law_sc0109_01" 652),ee "__doc__" 166 .none,ee "__package__" 167 .none,ee "__loader__" 168 (.builtin "__main__.__loader__#opaque"),ee "__spec__" 169 .none,ee "__annotations__" 170 (.ref 6),ee "__builtins__" 171 (.ref 4),ee "__file__" 173 (.str "/claim/cut.py" 172),ee "__cached__" 174 .none,ee "_sre" 275 (.ref 12),ee "_wall" 288 (.ref 38),ee "_twin_re_1" 328 (.ref 43),ee "_namespace_map" 350 (.ref 44),ee "_raise_serialization_error" 357 (.ref 51),ee "_looks_like_prefix_name" 359 (.ref 52),ee "C14NWriterTarget" 524 (.ref 150),ee "_escape_cdata_c14n" 531 (.ref 161),ee "_escape_attrib_c14n" 538 (.ref 168),ee "rgb_to_hls" 559 (.ref 175),ee "rgb_to_hsv" 577 (.ref 182),ee "hsv_to_rgb" 591 (.ref 189),ee "_netrclex" 651 (.ref 227),ee "_law_rows" 668 (.ref 238),ee "_law_word" 678 (.ref 245),ee "_law_file" 684 (.ref 250),ee "_law_stream" 693 (.ref 257),ee "_law_tell" 699 (.ref 262),ee "_law_due" 705 (.ref 267),ee "law" 711 (.ref 272)] 29)::
 (nat_lit 21,dO p [ee "__module__" 227 (.str "_frozen_importlib" 217),ee "__firstlineno__" 228 (.int (562) 218),ee "__doc__" 229 (.builtin "_frozen_importlib.ModuleSpec.__doc__:str#opaque"),ee "__init__" 230 (.builtin "_frozen_importlib.ModuleSpec.__init__#opaque"),ee "__repr__" 231 (.builtin "_frozen_importlib.ModuleSpec.__repr__#opaque"),ee "__eq__" 232 (.builtin "_frozen_importlib.ModuleSpec.__eq__#opaque"),ee "cached" 233 (.builtin "_frozen_importlib.ModuleSpec.cached#opaque"),ee "parent" 234 (.builtin "_frozen_importlib.ModuleSpec.parent#opaque"),ee "has_location" 235 (.builtin "_frozen_importlib.ModuleSpec.has_location#opaque"),ee "__static_attributes__" 236 (.ref 23),ee "__dict__" 238 (.ref 24),ee "__weakref__" 240 (.ref 25),ee "__hash__" 241 .none] 13)::
 (nat_lit 44,dO p [ee "http://www.w3.org/XML/1998/namespace" 329 (.str "xml" 330),ee "http://www.w3.org/1999/xhtml" 331 (.str "html" 332),ee "http://www.w3.org/1999/02/22-rdf-syntax-ns#" 333 (.str "rdf" 334),ee "http://schemas.xmlsoap.org/wsdl/" 335 (.str "wsdl" 336),ee "http://www.w3.org/2001/XMLSchema" 337 (.str "xs" 338),ee "http://www.w3.org/2001/XMLSchema-instance" 339 (.str "xsi" 340),ee "http://purl.org/dc/elements/1.1/" 341 (.str "dc" 342)] 7)::
 (nat_lit 52,⟨(.type "builtin_function_or_method"),none,(.fields (cF [(.builtin "re.Pattern.match"),(.ref 43)])),#[]⟩)::
 (nat_lit 60,dO p [ee "with_comments" 372 (.bool false),ee "strip_text" 373 (.bool false),ee "rewrite_prefixes" 374 (.bool false),ee "qname_aware_tags" 375 .none,ee "qname_aware_attrs" 376 .none,ee "exclude_attrs" 377 .none,ee "exclude_tags" 378 .none] 7)::
 (nat_lit 66,cO "__init__" "C14NWriterTarget.__init__" 379 [13,2,0,7,3] 61 276 (g8 62) 391)::
 (nat_lit 67,Ym.1)::
 (nat_lit 68,⟨(.type "tuple"),none,(.seq (cF [(.type "reversed")]) 0),#[]⟩)::
 (nat_lit 74,cO "_iter_namespaces" "C14NWriterTarget._iter_namespaces" 394 [41,3,0,0,35] 69 276 (g8 70) 401)::
 (nat_lit 75,MJ.1)::
 (nat_lit 83,⟨(.type "tuple"),none,(.seq (cF [.none]) 0),#[]⟩)::
 (nat_lit 89,cO "_qname" "C14NWriterTarget._qname" 416 [53,3,0,0,3] 84 276 (g8 85) 426)::
 (nat_lit 90,uY.1)::
 (nat_lit 96,cO "data" "C14NWriterTarget.data" 429 [80,2,0,0,3] 91 276 (g8 92) 434)::
 (nat_lit 97,Yn.1)::
 (nat_lit 98,⟨(.type "builtin_function_or_method"),none,(.fields (cF [(.builtin "str.join"),(.str "" 437)])),#[]⟩)::
 (nat_lit 99,⟨(.type "tuple"),none,(.seq (cF [(.ref 98)]) 0),#[]⟩)::
 (nat_lit 105,cO "_flush" "C14NWriterTarget._flush" 439 [84,2,0,0,3] 100 276 (g8 101) 447)::
 (nat_lit 106,uZ.1)::
 (nat_lit 112,cO "start_ns" "C14NWriterTarget.start_ns" 450 [98,3,0,0,3] 107 276 (g8 108) 456)::
 (nat_lit 113,Yo.1)::
 (nat_lit 119,cO "start" "C14NWriterTarget.start" 459 [105,3,0,0,3] 114 276 (g8 115) 466)::
 (nat_lit 120,u5.1)::
 (nat_lit 121,⟨(.type "tuple"),none,(.seq (cF [.none]) 0),#[]⟩)::
 (nat_lit 125,cO "_start" "C14NWriterTarget._start" 469 [118,5,0,0,3] 122 276 [.ref 123, .none, .none, .none, .ref 124] 472)::
 (nat_lit 126,u6.1)::
 (nat_lit 132,cO "end" "C14NWriterTarget.end" 475 [163,2,0,0,3] 127 276 (g8 128) 480)::
 (nat_lit 133,u7.1)::
 (nat_lit 149,dO p [ee "__module__" 367 (.str "cpy313.xml.etree.ElementTree" 289),ee "__firstlineno__" 371 (.int (11) 370),ee "__init__" 393 (.ref 67),ee "_iter_namespaces" 403 (.ref 75),ee "_resolve_prefix_name" 415 (.ref 82),ee "_qname" 428 (.ref 90),ee "data" 436 (.ref 97),ee "_flush" 449 (.ref 106),ee "start_ns" 458 (.ref 113),ee "start" 468 (.ref 120),ee "_start" 474 (.ref 126),ee "end" 482 (.ref 133),ee "comment" 490 (.ref 140),ee "pi" 499 (.ref 147),ee "__static_attributes__" 517 (.ref 148),ee "__dict__" 519 (.ref 151),ee "__weakref__" 521 (.ref 152),ee "__doc__" 522 .none] 4)::
 (nat_lit 150,⟨(.type "type"),none,(.cls { name:="C14NWriterTarget",bases:=[(.type "object")],mro:=[(.ref 150),(.type "object")],ns:=149,qualname:="C14NWriterTarget",hasDict:=true,slotNames:=[],subclasses:=[],abstract:=false,collection:=none,hasDel:=false }),(cF [none,none,some (.str "C14NWriterTarget" 360),some (.str "C14NWriterTarget" 368),some (.builtin "object.__new__"),some (.bool true)])⟩)::
 (nat_lit 160,cO "_escape_cdata_c14n" "_escape_cdata_c14n" 525 [180,1,0,0,3] 155 276 (g8 156) 529)::
 (nat_lit 161,MK.1)::
 (nat_lit 167,cO "_escape_attrib_c14n" "_escape_attrib_c14n" 532 [193,1,0,0,3] 162 276 (g8 163) 536)::
 (nat_lit 168,ML.1)::
 (nat_lit 174,cO "rgb_to_hls" "rgb_to_hls" 541 [211,3,0,0,3] 169 276 (g8 170) 557)::
 (nat_lit 175,Yp.1)::
 (nat_lit 181,cO "rgb_to_hsv" "rgb_to_hsv" 560 [234,3,0,0,3] 176 276 (g8 177) 575)::
 (nat_lit 182,Yq.1)::
 (nat_lit 188,cO "hsv_to_rgb" "hsv_to_rgb" 578 [253,3,0,0,3] 183 276 (g8 184) 589)::
 (nat_lit 189,Yr.1)::
 (nat_lit 202,cO "__init__" "_netrclex.__init__" 606 [277,2,0,0,3] 197 276 (g8 198) 611)::
 (nat_lit 203,Ys.1)::
 (nat_lit 209,cO "_read_char" "_netrclex._read_char" 614 [283,1,0,0,3] 204 276 (g8 205) 619)::
 (nat_lit 210,Yt.1)::
 (nat_lit 216,cO "get_token" "_netrclex.get_token" 622 [289,1,0,0,3] 211 276 (g8 212) 629)::
 (nat_lit 217,zg.1)::
 (nat_lit 223,cO "push_token" "_netrclex.push_token" 632 [316,2,0,0,3] 218 276 (g8 219) 637)::
 (nat_lit 224,Yu.1)::
 (nat_lit 226,dO p [ee "__module__" 601 (.str "cpy313.netrc" 592),ee "__firstlineno__" 605 (.int (275) 604),ee "__init__" 613 (.ref 203),ee "_read_char" 621 (.ref 210),ee "get_token" 631 (.ref 217),ee "push_token" 639 (.ref 224),ee "__static_attributes__" 644 (.ref 225),ee "__dict__" 646 (.ref 228),ee "__weakref__" 648 (.ref 229),ee "__doc__" 649 .none] 4)::
 (nat_lit 227,⟨(.type "type"),none,(.cls { name:="_netrclex",bases:=[(.type "object")],mro:=[(.ref 227),(.type "object")],ns:=226,qualname:="_netrclex",hasDict:=true,slotNames:=[],subclasses:=[],abstract:=false,collection:=none,hasDel:=false }),(cF [none,none,some (.str "_netrclex" 594),some (.str "_netrclex" 602),some (.builtin "object.__new__"),some (.bool true)])⟩)::
 (nat_lit 237,cO "_law_rows" "_law_rows" 654 [319,1,0,0,3] 232 276 (g8 233) 666)::
 (nat_lit 238,Yv.1)::
 (nat_lit 244,cO "_law_word" "_law_word" 669 [332,2,0,0,3] 239 276 (g8 240) 676)::
 (nat_lit 245,u8.1)::
 (nat_lit 249,cO "_law_file" "_law_file" 679 [341,1,0,0,3] 246 276 [.ref 247, .none, .none, .none, .ref 248] 682)::
 (nat_lit 250,u9.1)::
 (nat_lit 256,cO "_law_stream" "_law_stream" 685 [351,1,0,0,3] 251 276 (g8 252) 691)::
 (nat_lit 257,Yw.1)::
 (nat_lit 261,cO "_law_tell" "_law_tell" 694 [358,6,0,0,3] 258 276 [.ref 259, .none, .none, .none, .ref 260] 697)::
 (nat_lit 262,sy.1)::
 (nat_lit 266,cO "_law_due" "_law_due" 700 [388,2,0,0,3] 263 276 [.ref 264, .none, .none, .none, .ref 265] 703)::
 (nat_lit 267,vc.1)::
 (nat_lit 271,cO "law" "law" 706 [429,1,0,0,3] 268 276 [.ref 269, .none, .none, .none, .ref 270] 709)::
 (nat_lit 272,vd.1)::
 (nat_lit 0,O0 p)::
 (nat_lit 4,⟨.type "module",some 0, .plain,#[]⟩)
 ::[]
abbrev aK(w:aj)(h:aw):Prop:=(K w.params).In h
abbrev Rw:OpenLaw:=aYl
abbrev av(w:aj):Model:=nc (aR Rw.prog w)
def q:Program:=view P [0,23]
def loose:List Str:=nc (["_wall","_twin_re_1","_namespace_map","_raise_serialization_error","_looks_like_prefix_name","C14NWriterTarget","_escape_cdata_c14n","_escape_attrib_c14n","rgb_to_hls","rgb_to_hsv","hsv_to_rgb","_netrclex","_law_rows","_law_word","_law_file","_law_stream","_law_tell","_law_due"])
def sA:DefRec:=sF (oS (jN 23)) ⟨"",⟨[],[],none,[],[],none,[]⟩,[],default,default⟩ λname args body scope pos=>⟨name,args,body,scope,pos⟩
def MN:List Addr:=nc (2::3::21::44::52::60::66::67::68::74::75::83::89::90::96::97::98::99::105::106::112::113::119::120::121::125::126::132::133::149::150::160::161::167::168::174::175::181::182::188::189::202::203::209::210::216::217::223::224::226::227::237::238::244::245::249::250::256::257::261::262::266::267::271::272::0::4::[])
theorem Yx(p:ph):MN=(K p).map (·.1):=by kernel_rfl
abbrev Hk:Hook:=kmHook K MN Yx [123,247,252,259,264,269]
abbrev Xt:am->Bool:=λs=>xlAt q [] s && recOk (RowW.records Rw.row.toRowW) s
theorem ws:Rw.wellSaid=true:=by kernel_rfl
theorem Yy:defOf q "law"=some (sA,[]):=by kernel_rfl
theorem hp:P.theDef "law"=some (sA.params,sA.body,sA.scope):=by kernel_rfl
theorem hk:kwWritten? sA.params.kwonlyargs sA.params.kw_defaults=some []:=by kernel_rfl
theorem ok:(chainsOk q && opensWell Rw.row.prog && (frees Rw.row.toRowW && Rw.row.within.isEmpty))=true:=by kernel_rfl
theorem bare:Rw.row.prog.bare:=⟨rfl,rfl,rfl,rfl,rfl,by decide+kernel⟩
theorem hw:Rw.row.toRowW.promised:=by w_witness2
@[elab_as_elim] theorem rR{α:Sort u}{M:α->Prop}{a b:α}(e:a=b)(h:M b):M a:=e▸h
@[elab_as_elim] theorem rL{α:Sort u}{M:α->Prop}{a b:α}(e:b=a)(h:M b):M a:=e▸h
theorem d8{p1:Prop}(h:p1/\p2)(k:p1->p2->G):G:=k h.1 h.2
theorem cJ{p1:Prop}(h:p1/\p2/\p3)(k:p1->p2->p3->G):G:=k h.1 h.2.1 h.2.2
theorem zh{p1:Prop}(h:p1/\p2/\p3/\p4)(k:p1->p2->p3->p4->G):G:=k h.1 h.2.1 h.2.2.1 h.2.2.2
theorem qI{p1 H:Prop}(h:p1/\p2/\p3/\p4/\H)(k:p1->p2->p3->p4->H->G):G:=k h.1 h.2.1 h.2.2.1 h.2.2.2.1 h.2.2.2.2
theorem Yz{p1 H J:Prop}(h:p1/\p2/\p3/\p4/\H/\J)(k:p1->p2->p3->p4->H->J->G):G:=k h.1 h.2.1 h.2.2.1 h.2.2.2.1 h.2.2.2.2.1 h.2.2.2.2.2
theorem aO{p1 p2:α->Prop}(h:∃a,p1 a/\p2 a)(k:∀a,p1 a->p2 a->G):G:=h.elim λa h=>k a h.1 h.2
theorem ii{p1 p2 p3:α->Prop}(h:∃a,p1 a/\p2 a/\p3 a)(k:∀a,p1 a->p2 a->p3 a->G):G:=h.elim λa h=>k a h.1 h.2.1 h.2.2
theorem Gk{p1 p2 p3 p4:α->Prop}(h:∃a,p1 a/\p2 a/\p3 a/\p4 a)(k:∀a,p1 a->p2 a->p3 a->p4 a->G):G:=h.elim λa h=>k a h.1 h.2.1 h.2.2.1 h.2.2.2
theorem MO{p1 p2 p3 p4 H:α->Prop}(h:∃a,p1 a/\p2 a/\p3 a/\p4 a/\H a)(k:∀a,p1 a->p2 a->p3 a->p4 a->H a->G):G:=h.elim λa h=>k a h.1 h.2.1 h.2.2.1 h.2.2.2.1 h.2.2.2.2
theorem MP{p1 p2 p3 p4 H J:α->Prop}(h:∃a,p1 a/\p2 a/\p3 a/\p4 a/\H a/\J a)(k:∀a,p1 a->p2 a->p3 a->p4 a->H a->J a->G):G:=h.elim λa h=>k a h.1 h.2.1 h.2.2.1 h.2.2.2.1 h.2.2.2.2.1 h.2.2.2.2.2
theorem YA{p1 p2 p3 p4 H X Z Y J:α->Prop}(h:∃a,p1 a/\p2 a/\p3 a/\p4 a/\H a/\X a/\Z a/\Y a/\J a)(k:∀a,p1 a->p2 a->p3 a->p4 a->H a->X a->Z a->Y a->J a->G):G:=h.elim λa h=>k a h.1 h.2.1 h.2.2.1 h.2.2.2.1 h.2.2.2.2.1 h.2.2.2.2.2.1 h.2.2.2.2.2.2.1 h.2.2.2.2.2.2.2.1 h.2.2.2.2.2.2.2.2
theorem ve{p1:α->β->Prop}(h:∃a b,p1 a b)(k:∀a b,p1 a b->G):G:=h.elim λa h=>h.elim λb h=>k a b h
theorem c7{p1 p2:α->β->Prop}(h:∃a b,p1 a b/\p2 a b)(k:∀a b,p1 a b->p2 a b->G):G:=h.elim λa h=>h.elim λb h=>k a b h.1 h.2
theorem lq{p1 p2 p3:α->β->Prop}(h:∃a b,p1 a b/\p2 a b/\p3 a b)(k:∀a b,p1 a b->p2 a b->p3 a b->G):G:=h.elim λa h=>h.elim λb h=>k a b h.1 h.2.1 h.2.2
theorem Gl{p1 p2 p3 p4:α->β->Prop}(h:∃a b,p1 a b/\p2 a b/\p3 a b/\p4 a b)(k:∀a b,p1 a b->p2 a b->p3 a b->p4 a b->G):G:=h.elim λa h=>h.elim λb h=>k a b h.1 h.2.1 h.2.2.1 h.2.2.2
theorem YB{p1 p2 p3 p4 H J:α->β->Prop}(h:∃a b,p1 a b/\p2 a b/\p3 a b/\p4 a b/\H a b/\J a b)(k:∀a b,p1 a b->p2 a b->p3 a b->p4 a b->H a b->J a b->G):G:=h.elim λa h=>h.elim λb h=>k a b h.1 h.2.1 h.2.2.1 h.2.2.2.1 h.2.2.2.2.1 h.2.2.2.2.2
theorem YC{p1 p2 p3 p4 H X p7 Z J Y:α->β->Prop}(h:∃a b,p1 a b/\p2 a b/\p3 a b/\p4 a b/\H a b/\X a b/\p7 a b/\Z a b/\J a b/\Y a b)(k:∀a b,p1 a b->p2 a b->p3 a b->p4 a b->H a b->X a b->p7 a b->Z a b->J a b->Y a b->G):G:=h.elim λa h=>h.elim λb h=>k a b h.1 h.2.1 h.2.2.1 h.2.2.2.1 h.2.2.2.2.1 h.2.2.2.2.2.1 h.2.2.2.2.2.2.1 h.2.2.2.2.2.2.2.1 h.2.2.2.2.2.2.2.2.1 h.2.2.2.2.2.2.2.2.2
theorem YD{p1 p2 p3 p4 J Z p7 p8 X zi Y H:α->β->Prop}(h:∃a b,p1 a b/\p2 a b/\p3 a b/\p4 a b/\J a b/\Z a b/\p7 a b/\p8 a b/\X a b/\zi a b/\Y a b/\H a b)(k:∀a b,p1 a b->p2 a b->p3 a b->p4 a b->J a b->Z a b->p7 a b->p8 a b->X a b->zi a b->Y a b->H a b->G):G:=h.elim λa h=>h.elim λb h=>k a b h.1 h.2.1 h.2.2.1 h.2.2.2.1 h.2.2.2.2.1 h.2.2.2.2.2.1 h.2.2.2.2.2.2.1 h.2.2.2.2.2.2.2.1 h.2.2.2.2.2.2.2.2.1 h.2.2.2.2.2.2.2.2.2.1 h.2.2.2.2.2.2.2.2.2.2.1 h.2.2.2.2.2.2.2.2.2.2.2
theorem mY{p1 p2:α->β->γ->Prop}(h:∃a b c,p1 a b c/\p2 a b c)(k:∀a b c,p1 a b c->p2 a b c->G):G:=h.elim λa h=>h.elim λb h=>h.elim λc h=>k a b c h.1 h.2
theorem MS{p1 p2 p3:α->β->γ->Prop}(h:∃a b c,p1 a b c/\p2 a b c/\p3 a b c)(k:∀a b c,p1 a b c->p2 a b c->p3 a b c->G):G:=h.elim λa h=>h.elim λb h=>h.elim λc h=>k a b c h.1 h.2.1 h.2.2
theorem B7{p1 p2 p3 p4:α->β->γ->Prop}(h:∃a b c,p1 a b c/\p2 a b c/\p3 a b c/\p4 a b c)(k:∀a b c,p1 a b c->p2 a b c->p3 a b c->p4 a b c->G):G:=h.elim λa h=>h.elim λb h=>h.elim λc h=>k a b c h.1 h.2.1 h.2.2.1 h.2.2.2
theorem YE{p1:α->β->γ->δ->Prop}(h:∃a b c d,p1 a b c d)(k:∀a b c d,p1 a b c d->G):G:=h.elim λa h=>h.elim λb h=>h.elim λc h=>h.elim λd h=>k a b c d h
theorem MT{p1 p2:α->β->γ->δ->Prop}(h:∃a b c d,p1 a b c d/\p2 a b c d)(k:∀a b c d,p1 a b c d->p2 a b c d->G):G:=h.elim λa h=>h.elim λb h=>h.elim λc h=>h.elim λd h=>k a b c d h.1 h.2
theorem YF{p1 p2 p3 p4 H J Y X:α->β->γ->δ->Prop}(h:∃a b c d,p1 a b c d/\p2 a b c d/\p3 a b c d/\p4 a b c d/\H a b c d/\J a b c d/\Y a b c d/\X a b c d)(k:∀a b c d,p1 a b c d->p2 a b c d->p3 a b c d->p4 a b c d->H a b c d->J a b c d->Y a b c d->X a b c d->G):G:=h.elim λa h=>h.elim λb h=>h.elim λc h=>h.elim λd h=>k a b c d h.1 h.2.1 h.2.2.1 h.2.2.2.1 h.2.2.2.2.1 h.2.2.2.2.2.1 h.2.2.2.2.2.2.1 h.2.2.2.2.2.2.2
theorem YG{H:Type}{p1:α->β->γ->δ->H->Prop}(h:∃a b c d e,p1 a b c d e)(k:∀a b c d e,p1 a b c d e->G):G:=h.elim λa h=>h.elim λb h=>h.elim λc h=>h.elim λd h=>h.elim λe h=>k a b c d e h
theorem YH{H:Type}{p1 p2:α->β->γ->δ->H->Prop}(h:∃a b c d e,p1 a b c d e/\p2 a b c d e)(k:∀a b c d e,p1 a b c d e->p2 a b c d e->G):G:=h.elim λa h=>h.elim λb h=>h.elim λc h=>h.elim λd h=>h.elim λe h=>k a b c d e h.1 h.2
theorem YI{a b:Nat}(h:a - b+(b - a)<=0):a=b:=c8 (aTk (aTl (aE (fG ..) h))) (aTk (aTl (aE (dG ..) h)))
theorem o1{e:Int}(H:e>=0):(e+1074).toNat=e.toNat+1074:=aTm H (by decide)
theorem o3(x:Nat):x - x+(x - x)=0:=congrArg (λz=>z+z) (Nat.sub_self x)
theorem o5{v c:Nat}(h:v<=(2 ^ 53 - 1)*c)(p:0< c):2*v<(2 ^ 54 - 1)*c:=iI (dU 2 h) (rL (ja ..) (yM (by decide) p))
theorem o6{l:Nat}(H:52<=j):52 - l+(j - (52 - l))=j:=Fp (aE (nL ..) H)
theorem o7{l:Nat}(h:l<=52):l+1+(52 - l)=53:=rR (Nat.add_right_comm ..) (rR (Fp h ..) rfl)
theorem YJ(H:z< 0): -(z.natAbs:Int)=z:=rR (aTn (gm H) ..) (rR (Int.neg_neg ..) rfl)
theorem YK(H:a+b=0):¬a< 0\/¬b< 0:=(aTo _).elim (λh=> .inr λh'=>Wh (Int.add_lt_add h h') H) .inl
theorem YL{e:Int}(h: -1074<=e)(H:¬e>=0):(-e).toNat+(e+1074).toNat=1074:=by refine rL (aTm (Int.neg_nonneg_of_nonpos (gm (wN.mp H))) (aTp h 1074) ..) (rL (LI ..) (rR (Int.add_left_neg ..) ?_));rfl
theorem YM(h:j+k<=n):n - j+(n - k)=n - (j+k)+n:=by exact(congrArg (· +_) (bY (LJ h)).symm).trans ((LK ..).trans (rR (Fp (aE (dG ..) h) ..) (rR (aTq ..) rfl)))
theorem YN{i:Nat}(h:k+i<=n):i+(n - (k+i))=n - k:=rR (aTq ..) (rR (Fp (LJ h) ..) rfl)
theorem m3{c m x:Int}(h:m=a\/m=b\/m=c)(J:x<=a)(X:x<=b)(Y:x<=c)(H:m<=x):m=x:=bw H (h.elim (λe=>e▸J) (λh=>h.elim (λe=>e▸X) λe=>e▸Y))
theorem M3{c m x:Int}(h:m=a\/m=b\/m=c)(J:a<=x)(X:b<=x)(Y:c<=x)(H:x<=m):m=x:=bw (h.elim (λe=>e▸J) (λh=>h.elim (λe=>e▸X) λe=>e▸Y)) H
theorem YO{c m:Int}(h:m=a\/m=b\/m=c)(H:a<=m)(J:b<=m)(X:c<=m):max (max a b) c=m:=bw (aTr.mpr ⟨aTr.mpr ⟨H,J⟩,X⟩) (h.elim (λe=>e▸kW (Wi ..) (Wi ..)) (λh=>h.elim (λe=>e▸kW (aTs ..) (Wi ..)) λe=>e▸aTs ..))
theorem YP{c m:Int}(h:m=a\/m=b\/m=c)(H:m<=a)(J:m<=b)(X:m<=c):min (min a b) c=m:=bw (h.elim (λe=>e▸kW (LL ..) (LL ..)) (λh=>h.elim (λe=>e▸kW (LL ..) (aTt ..)) λe=>e▸aTt ..)) (Wj.mpr ⟨Wj.mpr ⟨H,J⟩,X⟩)
theorem MU{x c:Nat}(h:x<=c):min (x:Int) (c - x)=((min x (c - x):Nat):Int):=rL (pi h) ((Wk x _).elim (λq=>by rw[rZ q,By (bK.mpr q)]) λq=>by rw[Fq q,LM (bK.mpr q)])
theorem MV{L:Nat}(H:j<=L)(J:k<=j):L - j+(L - (L - j) - k)=L - k:=rR (aTu H) (Nat.sub_add_sub_cancel H J)
theorem YQ{P:Nat}{t:Int}(h:0<=t):((P:Int)+t) % 64=(((P+t.toNat) % 64:Nat):Int):=by rw[Int.natCast_emod,aTv,mS h];rfl
theorem MW{L:Nat}{d:Int}(H:1<=d)(h:d<=L):((L - (L - d.toNat):Nat):Int)=d:=rR (aTu (aTw.mpr h)) (mS (kW (by decide) H))
theorem s1{m:Nat}(h:n<=m):m+1 - n=m+1 - (n+1)+1:=(Wl h).trans (congrArg _ (Nat.succ_sub_succ m n).symm)
theorem f3{P:Int->Prop}(h:∀n< 3,P (n:Nat)){x:Int}(H:0<=x/\x< 3):P x:=mS H.1▸h x.toNat ((Int.toNat_lt H.1).mpr H.2)
theorem YR:∀{a:Int},0<=a/\a< 3->∀{b:Int},0<=b/\b< 3->min (min 0 (1+a)+1) (1+b)=1:=by refine f3 (P:=λa=>∀{b:Int},0<=b/\b< 3->min (min 0 (1+a)+1) (1+b)=1) λn H=>f3 (P:=λb=>min _ _=1) λm H=>?_;revert n m;decide
theorem MX:∀{a:Int},0<=a/\a< 3->∀{b:Int},0<=b/\b< 3->∀{c:Int},0<=c/\c< 3->1<=min (min (min 0 (1+a)+1) (1+b)+1) (1+c)/\min (min (min 0 (1+a)+1) (1+b)+1) (1+c)<=2:=by refine f3 (P:=λa=>∀{b:Int},0<=b/\b< 3->∀{c:Int},0<=c/\c< 3->1<=min (min (min 0 (1+a)+1) (1+b)+1) (1+c)/\min (min (min 0 (1+a)+1) (1+b)+1) (1+c)<=2) λn H=>f3 (P:=λb=>∀{c:Int},0<=c/\c< 3->1<=min (min _ (1+b)+1) (1+c)/\min (min _ (1+b)+1) (1+c)<=2) λm H=>f3 (P:=λc=>1<=min _ _/\min _ _<=2) λk H=>?_;revert n m k;decide
theorem YS{m:Int}(h:1<=m){d:Int}(hd:0<=d/\d< 3):1<=min (m+1) (1+d)/\min (m+1) (1+d)<=m+1:=⟨Wj.mpr ⟨kW (by decide) (aTp h 1),Int.add_le_add_left hd.1 1⟩,LL ..⟩
theorem sC{x c:Int}:x+(a - c)=x+(a - b)+(b - c):=by rw[LI,<-aTx (a - b),Int.sub_add_cancel]
theorem z0(H:0<=a)(J:0<=b)(h:¬(0< a/\0< b)):a=0\/b=0:=(aTo _).elim (λq=> .inr (bw (fH.mp λr=>h ⟨q,r⟩) J)) λq=> .inl (bw (fH.mp q) H)
theorem B8{c:Prop}[Decidable c]{x m:Int}(X:0<=x)(J:x<=m)(H:0<=m):0<=(if c then x else 0)/\(if c then x else 0)<=m:=by
 by_cases h:c;·rw[if_pos h];exact⟨X,J⟩
 ·rw[if_neg h];exact⟨fx _,H⟩
theorem hO{P:Prop}(h:∀G:Prop,(P->G)->G):P:=h P id
inductive Ax where
 |v (i:Nat)
 |n (k:Nat)
 |a (x y:Ax)
 |s (x y:Ax)
 |m (k:Nat) (x:Ax)
noncomputable instance:Add Ax:=⟨.a⟩
noncomputable instance:Sub Ax:=⟨.s⟩
noncomputable instance(k:Nat):OfNat Ax k:=⟨.n k⟩
noncomputable abbrev Y0:Ax:= .v 0
noncomputable abbrev Y1:Ax:= .v 1
noncomputable abbrev Y2:Ax:= .v 2
noncomputable abbrev Y3:Ax:= .v 3
abbrev Y4:Ax:=nc (.v 4)
abbrev Y5:Ax:=nc (.v 5)
abbrev Y6:Ax:=nc (.v 6)
def kg:List Int->List Int->List Int
 |[],q=>q|p,[]=>p|a::p,b::q=>(a+b)::kg p q
def mZ(k:Int)(p:List Int):List Int:=nc (p.map (k*·))
noncomputable def Gm:Nat->List Int
 |0=>[1]|n+1=>0::Gm n
def Ax.p:Ax->List Int
 | .v i=>0::Gm i| .n k=>[(k:Int)]| .a x y=>kg x.p y.p| .s x y=>kg x.p (mZ (-1) y.p)| .m k x=>mZ k x.p
noncomputable def kj(d:α):List α->Nat->α
 |[],_=>d|x::_,0=>x|_::l,n+1=>kj d l n
noncomputable def dL(x:Nat->Int):Nat->List Int->Int
 |_,[]=>0|i,a::p=>a*x i+dL x (i+1) p
theorem sD(x:Nat->Int):∀(i:Nat)(p q:List Int),dL x i (kg p q)=dL x i p+dL x i q
 |i,[],q=>(Wm _).symm|i,a::p,[]=>(uG _).symm|i,a::p,b::q=>by
  show _*x i+dL x _ _=(a*x i+dL x _ p)+(b*x i+dL x _ q)
  simp only[sD x _ p q,Wn,LI,LI,Int.add_left_comm (b*x i)]
theorem sG(x:Nat->Int)(k:Int):∀(i:Nat)(p:List Int),dL x i (mZ k p)=k*dL x i p
 |i,[]=>(yN k).symm|i,a::p=>by show k*a*x i+dL x _ (mZ k p)=k*(a*x i+dL x _ p);simp only[sG x k _ p,Int.mul_add,pk]
theorem MY(x:Nat->Int):∀n i:Nat,dL x i (Gm n)=x (i+n)
 |0,i=>by show 1*x i+0=x i;rw[LN,uG]
 |n+1,i=>by show 0*x i+dL x _ _=x _;simp only[MY x n _,Bz,Wm,LK,LO 1]
def Ax.e(l:List Int):Ax->Int
 | .v i=>kj 0 l i| .n k=>k| .a x y=>x.e l+y.e l| .s x y=>x.e l - y.e l| .m k x=>k*x.e l
theorem qJ(l:List Int):∀t:Ax,t.e l=dL (kj 0 (1::l)) 0 t.p
 | .v i=>by show kj 0 l i=0*1+dL _ 1 _;simp only[MY,LO 1 i,Bz,Wm];rfl
 | .n k=>by show(k:Int)=k*1+0;rw[Fs,uG]
 | .a x y=>by show x.e l+y.e l=dL _ 0 (kg x.p y.p);simp only[sD,qJ l x,qJ l y]
 | .s x y=>by show x.e l - y.e l=dL _ 0 (kg x.p _);simp only[sD,sG,qJ l x,qJ l y,Wo,LN];rfl
 | .m k x=>by show k*x.e l=dL _ 0 (mZ k x.p);simp only[sG,qJ l x]
structure be where
 k:Nat
 l:Ax
 r:Ax
noncomputable abbrev lE:=be.mk 0
noncomputable abbrev lL:=be.mk 1
noncomputable abbrev eQ:=be.mk 2
def be.d(l:List Int)(w:be):Prop:=match w.k with
 |0=>w.l.e l<=w.r.e l|1=>w.l.e l< w.r.e l|_=>w.l.e l=w.r.e l
def be.v(w:be):List Int:=kg (kg w.r.p (mZ (-1) w.l.p)) [match w.k with|1=> -1|_=>0]
def be.w(w:be):List Int:=kg (kg w.l.p (mZ (-1) w.r.p)) [match w.k with|0=> -1|_=>0]
variable {w:aj}
def fz(d:α->Prop):List α->Prop->Prop
 |[],g=>g|r::rs,g=>d r->fz d rs g
def B9:List be->List Int->List Int->List Int
 |[],_,c=>c|r::rs,ms,c=>B9 rs ms.tail (kg c (mZ (ms.headD 0) r.v))
noncomputable def zj:List be->List Int->Bool
 |[],_=>true|r::rs,ms=>(yO 2 r.k||decide (0<=ms.headD 0)) && zj rs ms.tail
theorem YT{l:List Int}{r:be}(h:r.d l):0<=dL (kj 0 (1::l)) 0 r.v/\(2<=r.k->dL (kj 0 (1::l)) 0 r.v=0):=by
 obtain⟨k,a,b⟩:=r;have e:∀c:Int,dL (kj 0 (1::l)) 0 (kg (kg b.p (mZ (-1) a.p)) [c])=b.e l - a.e l+c:=λc=>by simp only[sD,sD,sG,<-qJ,<-qJ];show _+_+(c*1+0)=_;simp only[Fs,uG,Wo,LN];rfl
 match k,h with
 |0,h=>exact⟨le_of_le_of_eq (Wp (LP h) (fx 0)) (e 0).symm,λh=>absurd (show 2<=0 from h) (by decide)⟩|1,h=>exact⟨le_of_le_of_eq (LP (aTy h)) (e (-1)).symm,λh=>absurd (show 2<=1 from h) (by decide)⟩|k+2,h=>have z:=e 0;simp only[show a.e l=b.e l from h,Int.sub_self]at z;exact⟨Int.le_of_eq z.symm,λj=>z⟩
theorem Gn{l:List Int}{g:Prop}:∀(J:List be)(H:List Int)(c:List Int),zj J H=true->(0<=dL (kj 0 (1::l)) 0 (B9 J H c)->g)->0<=dL (kj 0 (1::l)) 0 c->fz (be.d l) J g
 |[],_,c,_,k,h=>k h|r::rs,H,c,p,k,h=>λX=>by
  simp only[zj,gy]at p;refine Gn rs H.tail _ p.2 k ?_;rw[sD,sG];obtain⟨a,b⟩:=YT X;refine Wp h ?_;rcases aTz.mp p.1 with q|q
  ·simp only[b (dk q),yN];exact fx 0
  ·exact ma (of_decide_eq_true q) a
noncomputable def Go:List Int->Bool
 |[]=>false|c::p=>decide (c< 0) && p.all (· ==0)
theorem YU{x:Nat->Int}(H:x 0=1):∀p,Go p=true->¬0<=dL x 0 p
 |[],h=>nomatch h|c::p,h=>λk=>by
  simp only[Go,gy]at h;have z:∀(i:Nat)(p:List Int),p.all (· ==0)=true->dL x i p=0:=λi p=>by
   induction p generalizing i with
   |nil=>exact λj=>rfl|cons a p ih=>intro q;simp only[Wq,gy]at q;show a*x i+dL x _ p=0;rw[ih _ q.2,eq_of_beq q.1,Bz];rfl
  have:=of_decide_eq_true h.1;have e:dL x 0 (c::p)=c:=by show c*x 0+dL x 1 p=c;simp only[z 1 p h.2,H,Fs,uG]
  rw[e]at k;exact wN.mpr this k
theorem MZ{l:List Int}{r:be}(H:r.k< 2)(h:¬r.d l):0<=dL (kj 0 (1::l)) 0 r.w:=by
 obtain⟨k,a,b⟩:=r;have e:∀c:Int,dL (kj 0 (1::l)) 0 (kg (kg a.p (mZ (-1) b.p)) [c])=a.e l - b.e l+c:=λc=>by simp only[sD,sD,sG,<-qJ,<-qJ];show _+_+(c*1+0)=_;simp only[Fs,uG,Wo,LN];rfl
 match k,h,H with
 |0,h,_=>exact le_of_le_of_eq (LP (aTy (wN.mp h))) (e (-1)).symm|1,h,_=>exact le_of_le_of_eq (Wp (LP (fH.mp h)) (fx 0)) (e 0).symm
theorem Ca{d:α->Prop}{p q:Prop}(h:p->q):∀H:List α,fz d H p->fz d H q
 |[],k=>h k|_::H,k=>λr=>Ca h H (k r)
def nT(H:List be)(g:be)(J:List Int)(m:Int):Bool:=Ft g.k 2 && (decide (0<=m) && (zj H J && Go (B9 H J (mZ m g.w))))
theorem iA(l:List Int)(H:List be)(g:be)(J:List Int)(m:Int)(h:nT H g J m=true):fz (be.d l) H (g.d l):=by
 simp only[nT,gy,gy,gy]at h;obtain⟨h0,Z,X,Y⟩:=h;refine aT0 λk=>k ?_;by_cases q:g.d l
 ·exact Ca (p:=True) (λj=>q) H (by
   clear X Y k;induction H with
   |nil=>trivial|cons _ _ ih=>exact λj=>ih)
 ·refine Gn H J _ X (λz=>absurd z (YU rfl _ Y)) ?_;rw[sG];exact ma (of_decide_eq_true Z) (MZ (dk h0) q)
def Ax.en(l:List Nat):Ax->Nat
 | .v i=>kj 0 l i| .n k=>k| .a x y=>x.en l+y.en l| .s x y=>x.en l - y.en l| .m k x=>k*x.en l
noncomputable def Ax.ns:Ax->Bool
 | .a x y=>x.ns && y.ns| .s _ _=>false| .m _ x=>x.ns|_=>true
theorem M0:∀(l:List Nat)(i:Nat),((kj 0 l i:Nat):Int)=kj 0 (l.map λa:Nat=>(a:Int)) i
 |[],_=>rfl|_::_,0=>rfl|_::l,i+1=>M0 l i
theorem zk(l:List Nat):∀t:Ax,t.ns=true->((t.en l:Nat):Int)=t.e (l.map λa:Nat=>(a:Int))
 | .v i,_=>M0 l i| .n k,_=>rfl| .a x y,h=>by have h:=LQ.mp h;show((x.en l+y.en l:Nat):Int)=_;simp only[aTv,zk l x h.1,zk l y h.2];rfl
 | .s x y,h=>nomatch h| .m k x,h=>by show((k*x.en l:Nat):Int)=_;simp only[aT1,zk l x h];rfl
def be.dn(l:List Nat)(w:be):Prop:=match w.k with
 |0=>w.l.en l<=w.r.en l|1=>w.l.en l< w.r.en l|_=>w.l.en l=w.r.en l
def be.ns(w:be):Bool:=nc (w.l.ns && w.r.ns)
variable {ns:List Int}
theorem M1{l:List Nat}{w:be}(h:w.ns=true):w.dn l ↔ w.d (l.map λa:Nat=>(a:Int)):=by
 obtain⟨k,a,b⟩:=w;have h:=LQ.mp h;have H:=zk l a h.1;have J:=zk l b h.2;match k with
 |0=>show a.en l<=b.en l ↔ a.e _<=b.e _;rw[<-H,<-J];exact bK.symm|1=>show a.en l< b.en l ↔ a.e _< b.e _;rw[<-H,<-J];exact cc.symm|k+2=>show a.en l=b.en l ↔ a.e _=b.e _;simp only[<-H,<-J];exact Int.natCast_inj.symm
noncomputable def Gp:List Int->Bool
 |[]=>false|c::p=>decide (c< 0) && p.all (decide<|· <=0)
theorem YV{x:Nat->Int}(J:x 0=1)(hn:∀i,0<=x i):∀p,Gp p=true->¬0<=dL x 0 p
 |[],h=>nomatch h|c::p,h=>λk=>by
  simp only[Gp,gy]at h;have z:∀(i:Nat)(p:List Int),p.all _=true->dL x i p<=0:=λi p=>by
   induction p generalizing i with
   |nil=>exact λj=>fx 0|cons a p ih=>intro q;simp only[Wq,gy]at q;exact Int.add_nonpos (Int.mul_nonpos_of_nonpos_of_nonneg (of_decide_eq_true q.1) (hn i)) (ih _ q.2)
  have H:0<=c*x 0+dL x 1 p:=k;rw[J,Fs]at H;have:=Int.add_lt_add_of_lt_of_le (of_decide_eq_true h.1) (z 1 p h.2);exact absurd H (wN.mpr this)
theorem M2:∀(l:List Nat)(i:Nat),0<=kj (0:Int) (1::l.map λa:Nat=>(a:Int)) i
 |_,0=>show _<=1 by decide
 |[],_+1=>fx 0|a::l,1=>bG a|_::l,i+2=>M2 l (i+1)
theorem M4{d e:α->Prop}{p:Prop}:∀H:List α,(∀r∈H,e r->d r)->fz d H p->fz e H p
 |[],_,k=>k|r::H,h,k=>λq=>M4 H (λr H=>h r (aB H)) (k (h r ay q))
def nU(H:List be)(g:be)(J:List Int)(m:Int):Bool:=Ft g.k 2 && (decide (0<=m) && (zj H J && (Gp (B9 H J (mZ m g.w)) && (g.ns && H.all be.ns))))
theorem nA(l:List Nat)(H:List be)(g:be)(J:List Int)(m:Int)(h:nU H g J m=true):fz (be.dn l) H (g.dn l):=by
 simp only[nU,gy]at h;obtain⟨h0,h1,X,Z,h4,Y⟩:=h;refine M4 H (λr hr=>(M1 (r5.mp Y r hr)).mp) ?_;refine Ca (M1 h4).mpr H ?_;refine aT0 λk=>k ?_;by_cases q:g.d (l.map λa:Nat=>(a:Int))
 ·exact Ca (p:=True) (λj=>q) H (by
   clear X Z Y k;induction H with
   |nil=>trivial|cons _ _ ih=>exact λj=>ih)
 ·refine Gn H J _ X (λz=>absurd z (YV rfl (M2 l) _ Z)) ?_;rw[sG];exact ma (of_decide_eq_true h1) (MZ (dk h0) q)
theorem nB(l:List Nat)(H:List be)(g:be)(h:nU H g (H.map λ_=>1) 1=true):fz (be.dn l) H (g.dn l):=nA l H g _ 1 h
theorem iB(l:List Int)(H:List be)(g:be)(h:nT H g (H.map λ_=>1) 1=true):fz (be.d l) H (g.d l):=iA l H g _ 1 h
theorem g9(H:List be)(g:be)(J:List Int)(m:Int)(h:nT H g J m=true):fz (be.d [a]) H (g.d [a]):=iA [a] H g J m h
theorem cP(H:List be)(g:be)(J:List Int)(m:Int)(h:nT H g J m=true):fz (be.d [a,b]) H (g.d [a,b]):=iA [a,b] H g J m h
theorem jO{c:Int}(H:List be)(g:be)(J:List Int)(m:Int)(h:nT H g J m=true):fz (be.d [a,b,c]) H (g.d [a,b,c]):=iA [a,b,c] H g J m h
theorem YW{c d:Int}(H:List be)(g:be)(J:List Int)(m:Int)(h:nT H g J m=true):fz (be.d [a,b,c,d]) H (g.d [a,b,c,d]):=iA [a,b,c,d] H g J m h
theorem bf(H:List be)(g:be)(h:nT H g (H.map λz=>1) 1=true):fz (be.d [a]) H (g.d [a]):=iB [a] H g h
theorem bR(H:List be)(g:be)(h:nT H g (H.map λz=>1) 1=true):fz (be.d [a,b]) H (g.d [a,b]):=iB [a,b] H g h
theorem hH{c:Int}(H:List be)(g:be)(h:nT H g (H.map λz=>1) 1=true):fz (be.d [a,b,c]) H (g.d [a,b,c]):=iB [a,b,c] H g h
theorem Cc{c d:Int}(H:List be)(g:be)(h:nT H g (H.map λz=>1) 1=true):fz (be.d [a,b,c,d]) H (g.d [a,b,c,d]):=iB [a,b,c,d] H g h
theorem qM{a:Nat}(H:List be)(g:be)(J:List Int)(m:Int)(h:nU H g J m=true):fz (be.dn [a]) H (g.dn [a]):=nA [a] H g J m h
theorem fA{a b:Nat}(H:List be)(g:be)(J:List Int)(m:Int)(h:nU H g J m=true):fz (be.dn [a,b]) H (g.dn [a,b]):=nA [a,b] H g J m h
theorem cA{a b c:Nat}(H:List be)(g:be)(J:List Int)(m:Int)(h:nU H g J m=true):fz (be.dn [a,b,c]) H (g.dn [a,b,c]):=nA [a,b,c] H g J m h
theorem lr{a b c d:Nat}(H:List be)(g:be)(J:List Int)(m:Int)(h:nU H g J m=true):fz (be.dn [a,b,c,d]) H (g.dn [a,b,c,d]):=nA [a,b,c,d] H g J m h
theorem bu{a:Nat}(H:List be)(g:be)(h:nU H g (H.map λz=>1) 1=true):fz (be.dn [a]) H (g.dn [a]):=nB [a] H g h
theorem aT{a b:Nat}(H:List be)(g:be)(h:nU H g (H.map λz=>1) 1=true):fz (be.dn [a,b]) H (g.dn [a,b]):=nB [a,b] H g h
theorem b8{a b c:Nat}(H:List be)(g:be)(h:nU H g (H.map λz=>1) 1=true):fz (be.dn [a,b,c]) H (g.dn [a,b,c]):=nB [a,b,c] H g h
theorem qN{a b c d:Nat}(H:List be)(g:be)(h:nU H g (H.map λz=>1) 1=true):fz (be.dn [a,b,c,d]) H (g.dn [a,b,c,d]):=nB [a,b,c,d] H g h
theorem m4{x:Int}(h: -9007199254740991<=x)(k:x<=9007199254740991):x.natAbs< 2 ^ 53:=by
 rcases Int.le_total 0 x with z|z
 ·exact cc.mp (by rw[Fu z];exact jF k (by decide))
 ·exact cc.mp (by rw[aTn z];exact jF (Int.neg_le_of_neg_le h) (by decide))
theorem ij{x:Int}(J:0<=x)(H:x<=100000000):x.natAbs< 2 ^ 53:=cc.mp (by rw[Fu J];exact jF H (by decide))
section
open PySem PySem.Float64
def Is(x:UInt64)(z:Int):Prop:=∃t,t< infMag/\x=pack (decide (z< 0)) t/\V t=z.natAbs
def Rep(z:Int):Prop:=∃t,t< infMag/\V t=z.natAbs
theorem Is.dec{x:UInt64}(h:Is x z):∃m e,decode x= .fin (decide (z< 0)) m e/\m*2 ^ (e+1074).toNat=z.natAbs:=by refine ii h λt Z H Y=>?_;subst H;obtain⟨m,e,J,X⟩:=decode_pack _ Z;exact⟨m,e,J,X.trans Y⟩
theorem Is.val{x:UInt64}(h:Is x z):Float64.val x=z:=by
 refine ii h λt X H J=>?_;subst H;rw[val_pack _ X,J];unfold sgn;by_cases H:z< 0;·simp[H];exact YJ H
 ·simp[H];exact Fu (fH.mp H)
theorem M5{t u:Nat}(h:V t=V u):t=u:=by
 rcases Nat.lt_trichotomy t u with l|l|l
 ·exact absurd h (dw (V_lt l))
 ·exact l
 ·exact absurd h.symm (dw (V_lt l))
theorem Is.inj{x:UInt64}(h:Is x z)(h':Is y z):x=y:=by refine ii h λt j H X=>?_;subst H;refine ii h' λu j J Y=>?_;subst J;exact rR (M5 (X.trans Y.symm)) rfl
theorem YX{t:Nat}(h:t< infMag):V t<=(2 ^ 53 - 1)*2 ^ 2045:=by have H:infMag=2047*2 ^ 52:=rfl;have:=V_mono (t':=2045*2 ^ 52+(2 ^ 53 - 1)) (Fv h);rwa [V_at (by decide) (.inl (by decide))]at this
theorem Cd{r:UInt64}{H:Bool}{W D t:Nat}(R:Right r H W D)(Z:t< infMag)(J:W=D*V t)(Y:0< D):r=pack H t:=by
 refine Gk R λu X hu zl hn=>?_;subst X;have bp:u< infMag:=by
  rcases aT2 hu with h|h
  ·exact h
  ·have:=zl.mp h;rw[J]at this;have H:=Ws (by exact o5 (YX Z) (r6 _)) Y;have X:2*(D*V t)=D*(2*V t):=by rw[<-ja,dW 2 D,ja]
   exact absurd H (dA.mpr (X▸this))
 have H:=(hn bp t).1;have X:dist W _=0:=rR J (o3 _);have Z:W=D*V u:=by simp only[X]at H;exact YI H
 exact rR (M5 (Nat.eq_of_mul_eq_mul_left Y (Z.symm.trans J))) rfl
theorem Gq{n:Int}{j:Nat}(hn:n.natAbs< 2 ^ 53)(h1:52<=j)(h2:j<=1200):Rep (n*2 ^ j):=by
 have H:infMag=2047*2 ^ 52:=rfl;by_cases X:n.natAbs=0
 ·refine⟨0,by decide,?_⟩;simp only[BA,X,BB];exact V_zero
 ·have J:n.natAbs.log2<=52:=by have:=(aT3 X).mpr hn;exact LR this
  have Z:=Nat.lt_log2_self (n:=n.natAbs);refine⟨(j - (52 - n.natAbs.log2))*2 ^ 52+n.natAbs*2 ^ (52 - n.natAbs.log2),?_,?_⟩
  ·have Y:n.natAbs*2 ^ (52 - n.natAbs.log2)< 2 ^ 53:=by have H:n.natAbs*2 ^ _< 2 ^ _*2 ^ (52 - n.natAbs.log2):=yM Z (r6 _);rw[<-Fw,o7 J]at H;exact H
   exact iI (Fx (jG _ (aE (nL ..) h2)) (cT Y)) (by decide)
  ·have Y:n.natAbs*2 ^ (52 - n.natAbs.log2)<=2 ^ 53:=by have H:n.natAbs*2 ^ _< 2 ^ _*2 ^ (52 - n.natAbs.log2):=yM Z (r6 _);rw[<-Fw,o7 J]at H;exact cT H
   have Z:2 ^ 52<=n.natAbs*2 ^ (52 - n.natAbs.log2):=by have H:2 ^ n.natAbs.log2*2 ^ _<=n.natAbs*2 ^ (52 - n.natAbs.log2):=jG _ (Nat.log2_self_le X);rwa [<-Fw,Fp J]at H
   simp only[V_at Y (.inl Z),ja,<-Fw,o6 h1,BA,Wt];rfl
theorem Is.add{x:UInt64}(J:Is x a)(H:Is y b)(Y:Rep (a+b)):Is (uH x y) (a+b):=by
 refine c7 J.dec λm e Z z=>c7 H.dec λk f X z=>?_;have h:=add_right Z X;replace h:=H.val▸(J.val▸h)
 by_cases H:a+b=0
 ·rw[h.1 H];refine⟨0,by decide,?_,H▸V_zero⟩;have J:(decide (a< 0) && decide (b< 0))=false:=by rw[Bool.and_eq_false_iff,decide_eq_false_iff_not,decide_eq_false_iff_not];exact YK H
  have e2:decide (a+b< 0)=false:=by rw[decide_eq_false_iff_not];exact fH.mpr (cP [eQ (Y0+Y1) 0] (lE 0 (Y0+Y1)) [-1] 1 rfl H)
  refine rR J (rR e2 ?_);rfl
 ·exact aO Y λt X J=>⟨t,X,Cd (h.2 H) X (rR (J ..) (rR (Fy ..) rfl)) Wu,J⟩
theorem Is.sub{x:UInt64}(X:Is x a)(J:Is y b)(hr:Rep (a - b)):Is (gX x y) (a - b):=by
 refine c7 X.dec λm e dx z=>c7 J.dec λk f Y z=>?_;have h:=sub_right dx Y;replace h:=J.val▸(X.val▸h)
 by_cases H:a - b=0
 ·rw[h.1 H];refine⟨0,by decide,?_,H▸V_zero⟩;have Z:(decide (a< 0) && !decide (b< 0))=false:=by have:a=b:=bw (bR [eQ (Y0-Y1) 0] (lE Y0 Y1) rfl H) (cP [eQ (Y1-Y0) 0] (lE Y0 Y1) [-1] 1 rfl H);refine rR this ?_;cases decide (b< 0)<;>rfl
  have e2:decide (a - b< 0)=false:=by rw[decide_eq_false_iff_not];exact fH.mpr (cP [eQ (Y0-Y1) 0] (lE 0 (Y0-Y1)) [-1] 1 rfl H)
  refine rR Z (rR e2 ?_);rfl
 ·exact aO hr λt X J=>⟨t,X,Cd (h.2 H) X (rR (J ..) (rR (Fy ..) rfl)) Wu,J⟩
theorem pL(h:0<=a):decide (a< 0)=false:=by rw[decide_eq_false_iff_not];exact fH.mpr (bf [lE 0 Y0] (lE 0 Y0) rfl h)
theorem Is.mul{x:UInt64}{c:Int}(J:Is x a)(H:Is y b)(ha:0<=a)(X:0<=b)(hc:0<=c)(Y:Rep c)(e:a*b=c*2 ^ 1074):Is (iJ x y) c:=by refine c7 J.dec λm Z dx z=>c7 H.dec λk f Z z=>?_;have h:=mul_right dx Z;rw[J.val,H.val,pL ha,pL X]at h;refine aO Y λt H J=>⟨t,H,?_,J⟩;rw[pL hc];refine Cd h H ?_ (r6 _);rw[J,<-BA,e,BA,dW,Wt];rfl
theorem Is.div{x:UInt64}{c:Int}(Y:Is x a)(X:Is y b)(ha:0<=a)(H:0< b)(hc:0<=c)(hr:Rep c)(e:a*2 ^ 1074=b*c):Is (gY x y) c:=by
 refine c7 Y.dec λm J dx z=>c7 X.dec λk f dy J=>?_;have Z:k≠0:=λh=>by simp only[h,BB]at J;exact aT4.mpr (nM H) J.symm
 have h:=div_right dx dy Z;simp only[Y.val,X.val,pL ha,pL (gm H)]at h;refine aO hr λt J X=>⟨t,J,?_,X⟩;rw[pL hc];refine Cd h J ?_ (Int.natAbs_pos.mpr (nM H));rw[X,<-BA,<-e,BA,Wt];rfl
theorem Is.cmp{x:UInt64}(J:Is x a)(H:Is y b):kX x y=some (compare a b):=c7 J.dec λm e Y z=>c7 H.dec λk f X z=>rR (cmp_right Y X) (rR J.val (rR H.val rfl))
theorem Is.isZero{x:UInt64}(J:Is x a)(h:a≠0):kZ x=false:=by
 refine c7 J.dec λm e J H=>?_;unfold kZ;refine rR J ?_;induction m with
 |zero=>rw[BB]at H;exact absurd H.symm (aT4.mpr h)|succ m=>rfl
theorem Is.int{x:UInt64}(J:Is x z)(X:0<=z):∃H m e,BC x= .fin H m e/\BD H m e=z / 2 ^ 1074:=by
 refine c7 J.dec λm e J H=>⟨_,m,e,J,?_⟩;rw[pL X];show aT5 false m e=_;have Y:z=((m*2 ^ (e+1074).toNat:Nat):Int):=rR H ((Fu X).symm);unfold aT5;have H:sgn false m=(m:Int):=rfl;refine rR H (rR Y ?_);by_cases H:e>=0
 ·rw[if_pos H,o1 H,Fw,<-ja];push_cast;rw[aT6 _ (nM (r7 (by decide)))]
 ·rw[if_neg H];refine rR (BE _ (gm (r7 (by decide)))) ?_;have X:(2:Int) ^ 1074=2 ^ (-e).toNat*2 ^ (e+1074).toNat:=by rw[<-wO,(YL (decode_ge J) H)]
  simp only[X];push_cast;rw[aT7 _ _ (r7 (by decide))]
end
noncomputable section
inductive Ob:Type 1 where
 |ad (a:af)
 |cd (c:bB)
 |en (l:List (Option (af×ar)))
 |sm {α:Type} (t:cb α)
structure Out where
 res:cz
 post:List (af×ar)
 new:List (af×ar)
 sz:Nat
 tk:Nat
inductive aF where
 |nil
 |cons (any:Option Nat) (c:bB) (ix:List Nat) (pre:List (af×ar)) (out:(Nat->Nat)->Out) (next:(Nat->Nat)->aF)
abbrev aM:Type:=(Nat->Nat)->aF
structure WS where
 led:List (af×ar)
 sz:Nat
 tk:Nat
 ev:List Nat
 os:aF
structure Cx where
 S:BF
 K:uI
 dep:Nat
 ub:Nat
 aJ:Option af
noncomputable abbrev Xs:=Nat->Nat->Nat
noncomputable abbrev Rs(O:Type):=Option (List (Ob×Ob)×O)
structure Run(O:Type):Type 1 where
 S:∀{α:Type},List bB->Xs->WS->cb α->(Except ag α->Xs->WS->Rs O)->Rs O
 C:List bB->Xs->WS->bB->(cz->Xs->WS->Rs O)->Rs O
noncomputable def putAll(led:List (af×ar)):List Nat->List (af×ar)->List (af×ar)
 |i::ix,p::ps=>putAll (led.set i p) ix ps|_,_=>led
def Ce(c:bB):Bool:=nc (bZ c.weight 0)
def ji(x y:Ob)(r:Rs O):Rs O:=nc (match r with
 |some p=>some ((x,y)::p.1,p.2)|none=>none)
noncomputable def nsOk(o:ar):Bool:=match o.data with
 | .dict es _=>es.all λe=>(match e.key with
  | .str .. =>true|_=>false)
 |_=>false
def Cf(fr:Option af)(led:List (af×ar))(ix:List Nat):Bool:=match fr with
 |none=>true|some _=>(match led.getLast? with
  |some p=>nsOk p.2 && ix.all λi=>yO (i+2) led.length|none=>false)
def w8(fr:Option af)(led:List (af×ar))(r:Rs O):Rs O:=match fr with
 |none=>r|some L=>(match led.getLast? with
  |some p=>ji (.ad p.1) (.ad L) r|none=>r)
def YY(X:Cx)(J:List bB)(H:Option Nat)(led:List (af×ar))(ix:List Nat):Bool:=match H with
 |none=>J.all Ce && yO (J.map Fz).sum X.ub && Cf X.aJ led ix|some n=>yO ((J.map Wv).sum+n) X.dep
def YZ(H:Option Nat)(fr:Option af):Option Addr:=nc (match H with
 |none=>fr|some _=>none)
def Ci(b:Bool)(S:BF):Setting:=nc ({ S with params:={ S.params with followText:=λr=>if r="special-get-raises" then b else S.params.followText r } })
def cu(x:Option α)(f:α->Rs O):Rs O:=nc (match x with
 |none=>none|some a=>f a)
def pM(b:Bool)(r:Rs O):Rs O:=nc (match b with
 |false=>none|true=>r)
def pN(b:Bool)(r:Rs O):Rs O:=nc (match b with
 |false=>r|true=>none)
def zm(l:List Nat):Option (Nat×List Nat):=nc (match l with
 |[]=>none|e::ev=>some (e,ev))
def Y7(l:List Nat):Bool:=nc (match l with
 |[]=>false|e::_=>bZ e 777)
def M6(d:k7):Option (Array ag):=nc (@aT8 (λj=>Option (Array ag)) d none (λj=>none) (λj j=>none) (λj j=>none) (λj j j=>none) (λj j=>none) (λj=>none) (λj=>none) (λj=>none) (λv=>some v) none)
def Gs(d:k7):Option FuncData:=nc (@aT8 (λj=>Option uJ) d none (λj=>none) (λj j=>none) (λj j=>none) (λj j j=>none) (λj j=>none) (λj=>none) (λv=>some v) (λj=>none) (λj=>none) none)
def zn(v:ag):Option Addr:=nc (@aT9 (λj=>Option af) v none none none (λj=>none) (λj j=>none) (λj j=>none) (λj j=>none) (λj j=>none) (λj=>none) (λj=>none) (λa=>some a))
def M7(v:ag):Option Str:=nc (@aT9 (λj=>Option Str) v none none none (λj=>none) (λj j=>none) (λj j=>none) (λs j=>some s) (λj j=>none) (λj=>none) (λj=>none) (λj=>none))
def Cj(c:bB):Option (ag×pq):=nc (@Code.casesOn (λj=>Option (ag×pq)) c (λf a=>some (f,a)) (λj j=>none) (λj j=>none) (λj j=>none) (λj j j=>none) (λj j j j j=>none) (λj j=>none) (λj j=>none) (λj j j j=>none) (λj j j j j=>none) (λj j j j j=>none) (λj j j j j=>none) (λj j j j j=>none))
theorem Y8{d:k7}{v:Array ag}(h:M6 d=some v):d= .fields v:=by
 induction d with
 |fields v=>exact congrArg _ (dH h)|_=>injection h
theorem M8{d:k7}{v:uJ}(h:Gs d=some v):d= .func v:=by
 induction d with
 |func v=>exact congrArg _ (dH h)|_=>injection h
theorem Gt{d:ag}{v:af}(h:zn d=some v):d= .ref v:=by
 induction d with
 |ref v=>exact congrArg _ (dH h)|_=>injection h
theorem Y9{d:ag}{v:Str}(h:M7 d=some v):∃t,d= .str v t:=by
 induction d with
 |str v t=>exact⟨t,congrArg (ag.str · t) (dH h)⟩|_=>injection h
theorem M9{d:bB}{v:ag×pq}(h:Cj d=some v):d= .call v.1 v.2:=by
 induction d with
 |call f a=>exact congrArg (λv:ag×pq=>Code.call v.1 v.2) (dH h)|_=>injection h
def Ck(X:Cx)(D:Run O)(Y:List bB)(J:Xs)(H:WS)(t:cb α)(κ:Except ag α->Xs->WS->Rs O):Rs O:=@Ww α (λj=>Rs O) t
 (λa=>κ (.ok a) J H)
 (λe=>κ (.error e) J H)
 (λj=>none)
 (λj=>none)
 (λj k=>D.S Y J H (k ()) κ)
 (λj k=>D.S Y J H (k ()) κ)
 (λa j k=>cu (zm H.ev) λq=>@r8 (λj=>Rs O) q.1 (cu (X.K.lookup a) λo=>D.S Y J { H with ev:=q.2 } (k o) κ) λi=>cu H.led[i]? λp=>ji (.ad a) (.ad p.1) (D.S Y J { H with ev:=q.2 } (k p.2) κ))
 (λa j f k=>cu (zm H.ev) λq=>@r8 (λj=>Rs O) q.1 none λi=>cu H.led[i]? λp=>pN (f p.2).isFreed (ji (.ad a) (.ad p.1) (D.S Y J { H with ev:=q.2,led:=H.led.set i (p.1,f p.2) } (k ()) κ)))
 (λo k=>pN o.isFreed (D.S Y J { H with led:=(H.sz,o)::H.led,sz:=H.sz+1 } (k H.sz) κ))
 (λj j=>none)
 (λj k=>D.S Y J H (k ()) κ)
 (λj j=>none)
 (λk=>D.S Y J { H with tk:=H.tk+1 } (k H.tk) κ)
 (λk=>cond (Y7 H.ev) (ji (.sm (k (Ci true X.S))) (.sm (k (Ci false X.S))) (D.S Y J { H with ev:=H.ev.tail } (k (Ci true X.S)) κ)) (D.S Y J H (k X.S) κ))
 (λj j j=>none)
 (λj j j=>none)
 (λc h j j k=>@Option.casesOn ag (λj=>Rs O) h (D.C Y J H c λr Z cK=>D.S Y Z cK (k r) κ) λj=>none)
 (λo k=>pN o (D.S Y J H (k none) κ))
 (λj j=>none)
 (λj j=>none)
 (λj j j j=>none)
 (λj j j j=>none)
 (λj=>none)
 (λj j=>none)
 (λj=>none)
 (λj j j j j=>none)
def Na(b:FuncBody)(env:lb):Code:=nc (match b with
 | .stmts b=> .func b env| .expr e=> .expr e env)
def Gu(X:Cx)(D:Run O)(H:List bB)(J:Xs)(Y:WS)(a:af)(args:pq)(fd:uJ)(κ:cz->Xs->WS->Rs O):Rs O:=pN (fd.scope.isCoroutine||fd.scope.isGenerator||yO X.dep (H.map Wv).sum) (D.S (.call (.ref a) args::H) J Y (md fd args) λb Y J=>(match b with
  | .ok binds=>D.S (.call (.ref a) args::H) Y J (me fd.scope fd.globals fd.closure binds (fd.qualname++".<locals>.") (some a) fd.code none fd.builtins) λe J Y=>(match e with
   | .ok env=>D.C H J Y (Na fd.body env) κ| .error _=>none)
  | .error _=>none))
def Nc(X:Cx)(D:Run O)(H:List bB)(J:Xs)(Y:WS)(a:af)(args:pq)(κ:cz->Xs->WS->Rs O):Rs O:=cu (X.K.lookup a) λo=>cu (Gs o.data) λfd=>pM (LU X.K fd.code fd.qualname) (Gu X D H J Y a args fd κ)
def Nd(X:Cx)(D:Run O)(J:List bB)(Y:Xs)(H:WS)(i j:Nat)(a:af)(args:pq)(κ:cz->Xs->WS->Rs O):Rs O:=cu H.led[i]? λp=>cu H.led[j]? λq=>cu (Gs p.2.data) λfd=>cu (zn fd.code) λc=>cu (M6 q.2.data) λvs=>cu vs[1]? λv=>cu (M7 v) λn=>pM (n==fd.qualname) (ji (.ad a) (.ad p.1) (ji (.ad c) (.ad q.1) (Gu X D J Y H a args fd κ)))
def stepT(X:Cx)(pt:List bB)(H:Xs)(J:WS)(Y:List Nat)(c:bB)(κ:cz->Xs->WS->Rs O)(Z:aF):Rs O:=match Z with
 | .nil=>none| .cons any c0 ix pre out next=>pM (YY X pt any J.led ix) (ji (.cd c) (.cd c0) (ji (.en (ix.map λi=>J.led[i]?)) (.en (pre.map some)) (w8 (YZ any X.aJ) J.led (κ (out (H 0)).res (λi=>H (i+1)) ⟨(out (H 0)).new++putAll J.led ix (out (H 0)).post,(out (H 0)).sz,(out (H 0)).tk,Y,next (H 0)⟩))))
def Za(X:Cx)(D:Run O)(J:List bB)(Y:Xs)(H:WS)(c:bB)(κ:cz->Xs->WS->Rs O):Rs O:=cu (zm H.ev) λq=>@r8 (λj=>Rs O) q.1
  (D.S (c::J) Y { H with ev:=q.2 } (uK treeTable c) λr Z cK=>(match r with
   | .error e=>κ (.error e) Z cK| .ok f=>(match f with
    | .done f=>κ (.ok f) Z cK| .again c'=>pM c'.quiet (D.C J Z cK c' κ))))
  λn=>@r8 (λj=>Rs O) n
   (cu (Cj c) λp=>cu (zn p.1) λa=>Nc X D J Y { H with ev:=q.2 } a p.2 κ)
   λn=>@r8 (λj=>Rs O) n
    (stepT X J Y H q.2 c κ H.os)
    λj=>cu (Cj c) λp=>cu (zn p.1) λa=>cu (zm q.2) λi=>cu (zm i.2) λj=>Nd X D J Y { H with ev:=j.2 } i.1 j.1 a p.2 κ
def step(X:Cx)(D:Run O):Run O:=⟨Ck X D,Za X D⟩
def run(X:Cx)(n:Nat):Run O:=Nat.rec ⟨λ_ _ _ _ _=>none,λ_ _ _ _ _=>none⟩ (λ_ D=>step X D) n
abbrev aI(w:aj)(a b:Nat)(f:Option af)(n:Nat):Run O:=run ⟨⟨Rw.prog,w.params⟩,K w.params,a,b,f⟩ n
structure f5(aa:aw)(led:List (af×ar))(h:aw):Prop where
 at_:∀p∈led,h.get? p.1=some p.2
 nd:(led.map (·.1)).Nodup
 keep:∀b o,aa.get? b=some o->h.get? b=some o
 off:∀p∈led,aa.get? p.1=none
def sI(led:List (af×ar))(h h':aw):Prop:=∀b o,h.get? b=some o->(∀p∈led,p.1≠b)->h'.get? b=some o
theorem sI.refl{led:List (af×ar)}{h:aw}:sI led h h:=λ_ _ e _=>e
def ik(h h':aw):Prop:=∀b o,h.get? b=some o->∃H,h'.get? b=some H
structure Goes(led:List (af×ar))(h:aw)(jj:List (af×ar))(h':aw):Prop where
 keep:sI led h h'
 live:ik h h'
 new:∀p∈jj,h.get? p.1=none\/∃q∈led,q.1=p.1
theorem Goes.refl{led:List (af×ar)}{h:aw}:Goes led h led h:=⟨.refl,λz o e=>⟨o,e⟩,λp H=> .inr ⟨p,H,rfl⟩⟩
theorem Goes.trans{a b c:List (af×ar)}{h Y:aw}(x:Goes a h b h')(y:Goes b h' c Y):Goes a h c Y:=by
 refine⟨λz o e n=>y.keep z o (x.keep z o e n) λp J q=>?_,λz o e=>(x.live z o e).elim λZ H=>y.live z Z H,λp J=>?_⟩
 ·rcases x.new p J with l|⟨r,X,H⟩
  ·replace l:=e▸(q▸l);injection l
  ·exact n r X (H.trans q)
 ·rcases y.new p J with l|⟨q,hq,e⟩
  ·refine .inl ?_;induction z:h.get? p.1 with
   |none=>rfl|some o=>obtain⟨Z,e⟩:=x.live _ _ z;replace e:=l▸e;injection e
  ·rcases x.new q hq with l|⟨r,X,H⟩
   ·exact .inl (e▸l)
   ·exact .inr ⟨r,X,H.trans e⟩
structure ax(ao:Prop)(aa:aw)(ak:am)(led:List (af×ar))(s:am):Prop where
 h:f5 aa led s.heap
 os:s.os=ak.os
 gens:ao->∀x∈s.gens,Wx x=true
 same:ao\/(s.gens=ak.gens/\s.drawn=ak.drawn)
structure Fits(ao:Prop)(aa:aw)(ak:am)(st:WS)(s:am):Prop where
 r:ax ao aa ak st.led s
 sz:s.heap.objs.size=st.sz
 tk:s.toks=st.tk
def Told(ao:Prop)(M:fV)(A:aD)(U:Nat)(fr:Option af)(aa:aw)(c:bB)(pre:List (af×ar))(out:(Nat->Nat)->Out):Prop:=∀(u:Nat)(s ak:am)(R:cz->am->Prop),u<=U->ax ao aa ak pre s->(∀L,fr=some L->(∃m,s.heap.Ns L m)/\∀p∈pre,p.1≠L)->(∀x s',s'.heap.objs.size=(out x).sz->s'.toks=(out x).tk->(out x).post.map (·.1)=pre.map (·.1)->(∀p∈(out x).new,s.heap.get? p.1=none)->ax ao aa ak ((out x).new++(out x).post) s'->sI pre s.heap s'.heap->R (out x).res s')->eH M { A with units:=u } c R s
def aF.Ok(ao:Prop)(M:fV)(A:aD)(U:Nat)(fr:Option af)(aa:aw):aF->List af->Prop
 | .nil,_=>True| .cons any c ix pre out next,lv=>ix.length=pre.length/\ix.Nodup/\(match any with
   |none=>Told ao M A U fr aa c pre out|some n=>∀H:aD,H.handled=none->(0< n->H.depth+n<=bk)->Told ao M H H.units none aa c pre out)/\∀x,(∀b∈lv++pre.map (·.1),b<(out x).sz/\∀p∈(out x).new,b≠p.1)->(∀p∈(out x).new,p.1<(out x).sz)->(next x).Ok ao M A U fr aa (lv++pre.map (·.1)++(out x).new.map (·.1))
abbrev bJ(next:aM)(ao:Prop)(w:aj)(A:aD)(U:Nat)(fr:Option af)(aa:aw):Prop:=∀e lv,(next e).Ok ao (av w) A U fr aa lv
theorem Ng{h:aw}{a:af}{o:ar}(e:h.get? a=some o)(H:nsOk o=true):∃m,h.Ns a m:=by
 obtain⟨c,d,X,sl⟩:=o;induction X with
 |dict es ep=>
  refine⟨LW es,_,es,ep,e,rfl,λx X=>?_,λz=>rfl⟩;have:=aUa.mp H x X;induction J:x.key with
  |str n t=>exact⟨n,t,rfl⟩|_=>simp only[J]at this;injection this
 |_=>injection H
section
variable {led:List (af×ar)}{h:aw}
theorem Gv:∀{l:List (af×ar)},(l.map (·.1)).Nodup->∀{i:Nat}{p q:af×ar},l[i]?=some p->∀{j:Nat},l[j]?=some q->q.1=p.1->j=i:=by intro l J i p q e j H h;have X:j<(l.map (·.1)).length:=rR (dB ..) ((r9.mp H).1);exact(aUb X J).mp (by simp only[dP,dP,e,H];exact congrArg some h)
theorem map_set(l:List (af×ar))(i:Nat)(p q:af×ar)(e:l[i]?=some p)(X:q.1=p.1):(l.set i q).map (·.1)=l.map (·.1):=by
 refine rR List.map_set (rR X ?_);apply jH;intro j;by_cases H:i=j
 ·subst H;obtain⟨J,rfl⟩:=r9.mp e;simp[J]
 ·simp[H]
theorem f5.low(R:f5 aa led h):∀p∈led,p.1< h.objs.size:=λp H=>dJ (R.at_ p H)
theorem f5.idx(R:f5 aa led h){i:Nat}{p:af×ar}(e:led[i]?=some p):h.get? p.1=some p.2:=R.at_ p (jb e)
theorem f5.alloc(R:f5 aa led h){o:ar}(J:o.isFreed=false):f5 aa ((h.objs.size,o)::led) (h.push o):=by
 refine⟨λp hp=>?_,?_,λa H e=>cZ _ (R.keep a H e),λp hp=>?_⟩
 ·rcases a9.mp hp with rfl|hp
  ·exact gZ _ J
  ·exact cZ _ (R.at_ p hp)
 ·refine cj.mpr ⟨λJ=>?_,R.nd⟩;refine aO (bq.mp J) λp hp e=>?_;exact absurd e (dw (R.low p hp))
 ·rcases a9.mp hp with rfl|hp
  ·induction q:aa.get? h.objs.size with
   |none=>rfl|some H=>exact absurd (dJ (R.keep _ _ q)) (jI _)
  ·exact R.off p hp
theorem f5.update(R:f5 aa led h){i:Nat}{p:af×ar}{f:ar->ar}(e:led[i]?=some p)(hf:(f p.2).isFreed=false):f5 aa (led.set i (p.1,f p.2)) (h.update p.1 f):=by
 have Z:lc p.1 h (h.update p.1 f):=ib ..;refine⟨λq Y=>?_,by rw[map_set _ _ p (p.1,f p.2) e rfl];exact R.nd,λa o' J=>?_,λq Y=>?_⟩
 ·obtain⟨j,H⟩:=LY Y;by_cases X:i=j
  ·subst X;replace H:=(aUc (r9.mp e).1)▸H;injection H with H;subst H
   exact nN f (R.idx e) hf
  ·replace H:=(Wy X)▸H;exact rR (Z.2 _ λh'=>X (Gv R.nd e H h').symm) (R.idx H)
 ·have ne:a≠p.1:=λh'=>by have:=R.off p (jb e);replace this:=J▸(h'▸this);injection this
  exact rR (Z.2 _ ne) (R.keep _ _ J)
 ·have H:q.1∈(led.set i _).map (·.1):=b7 Y;rw[map_set _ _ p (p.1,f p.2) e rfl]at H;refine aO (bq.mp H) λX H J=>?_;exact rL J (R.off X H)
theorem Zb{i:Nat}{p:af×ar}{o:ar}(e:led[i]?=some p):∀q∈led.set i (p.1,o),∃H∈led,H.1=q.1:=λq X=>by have J:q.1∈(led.set i _).map (·.1):=b7 X;rw[map_set _ _ p (p.1,o) e rfl]at J;refine aO (bq.mp J) λH J X=>?_;exact⟨H,J,X⟩
theorem Zc:∀(ix:List Nat)(led post pre:List (af×ar)),ix.Nodup->ix.map (λi=>led[i]?)=pre.map some->post.map (·.1)=pre.map (·.1)->((putAll led ix post).map (·.1)=led.map (·.1))/\∀p∈putAll led ix post,p∈post\/∃j,led[j]?=some p/\j ∉ ix:=by
 intro ix;induction ix with
 |nil=>
  intro led post pre z J e2;induction pre with
  |cons _ _=>injection J|nil=>induction post with
   |cons _ _=>injection e2|nil=>exact⟨rfl,λp Y=> .inr ((LY Y).imp λj H=>⟨H,bi⟩)⟩
 |cons i ix ih=>
  intro led post pre nd J e2;induction pre using px with
  |nil=>injection J|cons r pre=>induction post with
   |nil=>injection e2|cons q post=>
    simp only[iK,iK,uL]at J e2;obtain⟨Zd,Z⟩:=cj.mp nd;have e3:ix.map (λj=>(led.set i q)[j]?)=pre.map some:=by simp only[<-J.2];refine Wz λj H=>Wy (show i≠j from λh=>Zd (h▸H))
    obtain⟨a,b⟩:=ih _ post pre Z e3 e2.2;refine⟨a.trans (map_set _ _ _ _ J.1 e2.1),λp Y=>?_⟩;rcases b p Y with h|⟨j,H,hn⟩
    ·exact .inl (aB h)
    ·by_cases X:i=j
     ·subst X;replace H:=(aUc (r9.mp J.1).1)▸H;injection H with H;subst H
      exact .inl ay
     ·rw[Wy X]at H;exact .inr ⟨j,H,λH=>(a9.mp H).elim (λh=>X h.symm) hn⟩
theorem f5.sel(R:f5 aa led h){ix:List Nat}{ents:List (af×ar)}(Y:ix.Nodup)(e:ix.map (λi=>led[i]?)=ents.map some):f5 aa ents h:=by
 have X:∀p∈ents,p∈led:=λp H=>by have:some p∈ix.map _:=e▸b7 H;refine aO (bq.mp this) λi v J=>?_;exact jb J
 refine⟨λp H=>R.at_ p (X p H),?_,R.keep,λp H=>R.off p (X p H)⟩;have X:(ents.map some).map (λx=>x.map (·.1))=(ix.map (λi=>led[i]?)).map (λx=>x.map (·.1)):=by rw[e]
 have e2:(ents.map (·.1)).map some=ix.map (λi=>(led.map (·.1))[i]?):=by rw[BH]at X ⊢;refine rR (show(some ∘ λx:af×ar=>x.1)=_ from rfl) (rR X (rR BH ?_));refine Wz λi z=>?_;simp only[dP];rfl
 refine aYm (S:=(· ≠·)) some (λa b h e=>h (congrArg some e)) ?_;rw[e2];refine List.pairwise_map.mpr ?_;refine aYn (λ{i j}J hj cB e3=>?_) Y;refine aO (bq.mp (e▸b7 J)) λp v H=>?_;have J:i<(led.map (·.1)).length:=rR (dB ..) ((r9.mp H.symm).1);exact cB ((aUb J R.nd).mp e3)
theorem Goes.sel{a b:List (af×ar)}(G:Goes a h b h'){ix:List Nat}{ents:List (af×ar)}(e:ix.map (λi=>b[i]?)=ents.map some):Goes a h ents h':=⟨G.keep,G.live,λp H=>by have:some p∈ix.map _:=e▸b7 H;refine aO (bq.mp this) λi z H=>?_;exact G.new p (jb H)⟩
theorem f5.told(R:f5 aa led h){ix:List Nat}{post H:List (af×ar)}(nd:ix.Nodup)(e1:ix.map (λi=>led[i]?)=pre.map some)(e2:post.map (·.1)=pre.map (·.1))(hn:∀p∈H,h.get? p.1=none)(J:f5 aa (H++post) h')(Z:sI pre h h'):f5 aa (H++putAll led ix post) h'/\Goes led h (H++putAll led ix post) h'/\(putAll led ix post).map (·.1)=led.map (·.1):=by
 refine d8 (Zc ix led post pre nd e1 e2) λa b=>?_;have H:∀p∈pre,p∈led:=λp hp=>by have:some p∈ix.map _:=e1▸b7 hp;refine aO (bq.mp this) λi v hi=>?_;exact jb hi
 have X:∀p∈putAll ..,∃q∈led,q.1=p.1:=λp hp=>by have:p.1∈(putAll ..).map (·.1):=b7 hp;rw[a]at this;exact bq.mp this
 refine⟨⟨λp hp=>?_,?_,J.keep,λp hp=>?_⟩,⟨λz o e n=>Z z o e λp hp=>n p (H p hp),λz o e=>?_,λp hp=>?_⟩,a⟩
 ·rcases cr.mp hp with hp|hp
  ·exact J.at_ p (bL _ hp)
  ·rcases b p hp with hp|⟨j,hj,hn⟩
   ·exact J.at_ p (bD _ hp)
   ·refine Z _ _ (R.idx hj) λq Y h=>?_;have:some q∈ix.map _:=e1▸b7 Y;refine aO (bq.mp this) λi hi H=>?_;have q:=Gv R.nd hj H h;exact hn (q▸hi)
 ·rw[bM,fj];have H:=J.nd;rw[bM,fj]at H;refine⟨H.1,a▸R.nd,λx hx y hy e=>?_⟩;obtain⟨p,hp,rfl⟩:=bq.mp hx;rw[a]at hy;refine aO (bq.mp hy) λq Y eq1=>?_;subst eq1;have z:=R.at_ q Y;simp only[<-e,hn p hp]at z;injection z
 ·rcases cr.mp hp with hp|hp
  ·exact J.off p (bL _ hp)
  ·refine aO (X p hp) λq Y e=>?_;exact e▸R.off q Y
 ·by_cases q:∃p∈pre,p.1=z
  ·obtain⟨p,hp,rfl⟩:=q;have:p.1∈post.map (·.1):=e2▸b7 hp;refine aO (bq.mp this) λr Y H=>?_;exact⟨r.2,H▸J.at_ r (bD _ Y)⟩
  ·exact⟨o,Z z o e λp hp h=>q ⟨p,hp,h⟩⟩
 ·rcases cr.mp hp with hp|hp
  ·exact .inl (hn p hp)
  ·exact .inr (X p hp)
theorem Ze{M:fV}{q:d6}{k:Unit->cb α}{Q:α->am->Prop}(h:aG M A (k ()) Q E s):aG M A (.at q k) Q E s:=λΓ p H=>by exact h Γ q H
theorem Zf{M:fV}{e:ag}{Q:α->am->Prop}(h:E e s):aG M A (.raise e) Q E s:=λz z z=>h
theorem Zg{M:fV}{k:Option ag->cb α}{Q:α->am->Prop}(h:aG M A (k A.handled) Q E s):aG M A (.handled false k) Q E s:=λΓ p H=>by simp only[Sem.wp_handled];exact rR H.1 (h Γ p H)
theorem Zh{M:fV}{a:af}{J:Option ag}{f:ar->ar}{o:ar}{k:Unit->cb α}{Q:α->am->Prop}(H:s.heap.get? a=some o)(h:aG M A (k ()) Q E { s with heap:=s.heap.update a f }):aG M A (.update a J f k) Q E s:=λΓ p J=>by exact⟨by refine rR H ?_;rfl,h Γ p J⟩
theorem Nh{M:fV}{c:bB}{g:Bool}{l:List ag}{k:cz->cb α}{Q:α->am->Prop}(h:eH M A c (λr s'=>aG M A (k r) Q E s') s):aG M A (.call c none g l k) Q E s:=λΓ p H=>by exact wpCode_mono (λr s' h'=>h' Γ p H) (h _ p rfl (H.enter c none p (by intro x;injection x)))
def gJ(A:aD)(H:List bB):Around:=nc (H.foldr (λc A=>A.under c) A)
theorem Gw:∀H,(gJ A H).handled=A.handled
 |[]=>rfl|_::H=>Gw H
theorem Gx:∀H,(gJ A H).depth=A.depth+(H.map Wv).sum
 |[]=>rfl|c::H=>by show(gJ A H).depth+c.weight=A.depth+_;exact rR (Gx H) (c8 (b8 [] (lE (Y0+Y1+Y2) (Y0+(Y2+Y1))) rfl) (b8 [] (lE (Y0+(Y1+Y2)) (Y0+Y2+Y1)) rfl))
theorem Zi{c:bB}(h:Ce c=true):A.under c={ A with units:=A.units+c.cUnits }:=by have H:=Nat.eq_of_beq_eq_true h;simp[Around.under,H,Code.envs_of_weight H,Code.guards_of_weight H,pushEnvs,pushGuards]
theorem Ni:∀H,H.all Ce=true->gJ A H={ A with units:=A.units+(H.map Fz).sum }
 |[],_=>rfl|c::H,h=>by
  simp only[Wq,gy]at h;show(gJ A H).under c=_;rw[Zi h.1,Ni H h.2];show({ A with units:=A.units+(H.map Fz).sum+c.cUnits }:aD)={ A with units:=A.units+(c.cUnits+(H.map Fz).sum) }
  rw[LK,LO c.cUnits]
end
section
variable {K:uI}{ub:Nat}{P:O->Prop}
def Met(P:O->Prop)(x:Rs O):Prop:=∃l o,x=some (l,o)/\(∀p∈l,p.1=p.2)/\P o
def Good(ao:Prop)(M:fV)(A:aD)(U:Nat)(fr:Option af)(aa:aw)(H:WS):Prop:=∃lv:List af,(∀b∈lv,b∈H.led.map (·.1))/\H.os.Ok ao M A U fr aa lv
structure Sound(ao:Prop)(prog:c9)(w:aj)(K:uI)(aa:aw)(A:aD)(dep ub U:Nat)(fr:Option af)(P:O->Prop)(D:Run O):Prop where
 S:∀{α:Type}(pt:List bB)(st:WS)(t:cb α)(κ:Except ag α->Xs->WS->Rs O)(Q:α->am->Prop)(E:ag->am->Prop)(s ak:am),Fits ao aa ak st s->Good ao (aR prog w) A U fr aa st->
  (∀σ,Met P (D.S pt σ st t κ))->
  (∀r cK s',Fits ao aa ak cK s'->Good ao (aR prog w) A U fr aa cK->Goes st.led s.heap cK.led s'.heap->(∀σ,Met P (κ r σ cK))->(match r with| .ok a=>Q a s'| .error e=>E e s'))->
  aG (aR prog w) (gJ A pt) t Q E s
 C:∀(pt:List bB)(st:WS)(c:bB)(κ:cz->Xs->WS->Rs O)(R:cz->am->Prop)(s ak:am),Fits ao aa ak st s->Good ao (aR prog w) A U fr aa st->
  (∀σ,Met P (D.C pt σ st c κ))->
  (∀r cK s',Fits ao aa ak cK s'->Good ao (aR prog w) A U fr aa cK->Goes st.led s.heap cK.led s'.heap->(∀σ,Met P (κ r σ cK))->R r s')->
  eH (aR prog w) (gJ A pt) c R s
noncomputable def Zj(x:Nat->Nat)(H:Xs):Xs
 |0=>x|i+1=>H i
theorem Ob.zr{a b:af}(h:Ob.ad a=Ob.ad b):a=b:=by cases h;rfl
theorem Ob.Zk{a b:bB}(h:Ob.cd a=Ob.cd b):a=b:=by cases h;rfl
theorem Ob.Zl{a b:List (Option (af×ar))}(h:Ob.en a=Ob.en b):a=b:=by cases h;rfl
theorem Ob.Zm{a b:cb α}(h:Ob.sm a=Ob.sm b):a=b:=by cases h;rfl
theorem Met.not{x:Rs O}(h:x=none):¬Met P x:=λ⟨_,_,e,_⟩=>by replace e:=h▸e;injection e
theorem Met.ji{x y:Ob}{r:Rs O}(h:Met P (ji x y r)):x=y/\Met P r:=by
 obtain⟨l,o,e,H,J⟩:=h;induction r with
 |none=>injection e|some p=>cases e;exact⟨H _ ay,p.1,p.2,rfl,λq X=>H _ (aB X),J⟩
theorem Fits.ev{H:WS}{ev:List Nat}(F:Fits ao aa ak H s):Fits ao aa ak { H with ev:=ev } s:=⟨F.r,F.sz,F.tk⟩
theorem Met.frame{led:List (af×ar)}{r:Rs O}(h:Met P (w8 fr led r)):Met P r:=by
 unfold w8 at h;split at h;·exact h
 ·split at h;·exact h.ji.2
  ·exact h
theorem Met.cu{x:Option α}{f:Xs->α->Rs O}(h:∀H,Met P (cu x (f H))):∃a,x=some a/\∀H,Met P (f H a):=by
 induction x with
 |none=>exact absurd (h λj j=>0) (Met.not rfl)|some a=>exact⟨a,rfl,h⟩
theorem Met.pM{b:Bool}{f:Xs->Rs O}(h:∀H,Met P (pM b (f H))):b=true/\∀H,Met P (f H):=by
 induction b with
 |false=>exact absurd (h λj j=>0) (Met.not rfl)|true=>exact⟨rfl,h⟩
theorem Met.pN{b:Bool}{f:Xs->Rs O}(h:∀H,Met P (pN b (f H))):b=false/\∀H,Met P (f H):=by
 induction b with
 |false=>exact⟨rfl,h⟩|true=>exact absurd (h λj j=>0) (Met.not rfl)
theorem Met.vg{x y:Ob}{f:Xs->Rs O}(h:∀H,Met P (Mine.Internal.ji x y (f H))):x=y/\∀H,Met P (f H):=⟨(h λj j=>0).ji.1,λH=>(h H).ji.2⟩
theorem Met.cond{b:Bool}{f g:Xs->Rs O}(h:∀H,Met P (cond b (f H) (g H))):(∀H,Met P (f H))\/∀H,Met P (g H):=by
 induction b with
 |false=>exact .inr h|true=>exact .inl h
theorem Zn{led:List (af×ar)}{ix:List Nat}{r:Rs O}(R:ax ao aa ak led s)(J:Cf (some L) led ix=true)(H:Met P (w8 (some L) led r))(he:∀q∈pre,∃i,i∈ix/\led[i]?=some q):(∃m,s.heap.Ns L m)/\∀p∈pre,p.1≠L:=by
 unfold Cf at J;unfold w8 at H;induction X:led.getLast? with
 |none=>rw[X]at J;injection J|some p=>rw[X]at H J;have Y:=Ob.zr H.ji.1;simp only[gy]at J;have Z:led[led.length - 1]?=some p:=rL aUd X;refine⟨Y▸Ng (R.h.idx Z) J.1,λq H h=>?_⟩;refine aO (he q H) λi X zq=>?_;have H:=dk (r5.mp J.2 i X);exact jI 0 (cA [eQ Y0 Y1,lE (Y0+2) Y2,eQ (Y1+1) Y2] (lL 0 0) [-1,1,-1] 0 rfl (Gv R.h.nd Z zq (h.trans Y.symm)) H (bY (aE (dG ..) H)))
end
structure Bd where
 ao:Prop
 prog:c9
 w:aj
 K:uI
 aa:aw
 bE:aD
 dep:Nat
 ub:Nat
 U:Nat
 aJ:Option af
 X:K.In aa
 hA:bE.handled=none
 hd:0< dep->aa.NoLimit/\bE.depth+dep<=bk
 hU:bE.units+ub<=U
abbrev Bd.M(B:Bd):Model:=nc (aR B.prog B.w)
noncomputable abbrev Bd.x(B:Bd):Cx:=⟨⟨B.prog,B.w.params⟩,B.K,B.dep,B.ub,B.aJ⟩
structure Bd.At(B:Bd)(ak:am)(st:WS)(s:am):Prop where
 F:Fits B.ao B.aa ak st s
 ok:Good B.ao B.M B.bE B.U B.aJ B.aa st
section
variable {B:Bd}{P:O->Prop}{D:Run O}{st:WS}{pt:List bB}
theorem Bd.At.ev{ev:List Nat}(a:B.At ak st s):B.At ak { st with ev:=ev } s:=⟨a.F.ev,a.ok⟩
def Bd.End(B:Bd)(P:O->Prop)(ak:am)(st:WS)(s:am){H:Type}(f:H->Xs->WS->Rs O)(R:H->am->Prop):Prop:=∀r H s',B.At ak H s'->Goes st.led s.heap H.led s'.heap->(∀J,Met P (f r J H))->R r s'
def Cm(Q:α->am->Prop)(E:ag->am->Prop)(r:Except ag α)(s:am):Prop:=match r with
 | .ok a=>Q a s| .error e=>E e s
theorem Bd.End.go{H:Type}{f:H->Xs->WS->Rs O}{R:H->am->Prop}{H:WS}(h:B.End P ak st s f R)(G:Goes st.led s.heap H.led s'.heap):B.End P ak H s' f R:=λr J H a g m=>h r J H a (G.trans g) m
structure gn(B:Bd)(P:O->Prop)(D:Run O):Prop where
 S:∀{α:Type}(pt:List bB)(st:WS)(t:cb α)(κ:Except ag α->Xs->WS->Rs O)(Q:α->am->Prop)(E:ag->am->Prop)(s ak:am),B.At ak st s->(∀σ,Met P (D.S pt σ st t κ))->B.End P ak st s κ (Cm Q E)->aG B.M (gJ B.bE pt) t Q E s
 C:∀(pt:List bB)(st:WS)(c:bB)(κ:cz->Xs->WS->Rs O)(R:cz->am->Prop)(s ak:am),B.At ak st s->(∀σ,Met P (D.C pt σ st c κ))->B.End P ak st s κ R->eH B.M (gJ B.bE pt) c R s
theorem gn.body(I:gn B P D){a:af}{κ:cz->Xs->WS->Rs O}(a0:B.At ak st s)(H:∀σ,Met P (Gu B.x D pt σ st a args fd κ))(h:B.End P ak st s κ R){o:ar}(ho:s.heap.get? a=some o)(sJ:o.data= .func fd)(Nj:s.heap.CodeRec fd.code fd.qualname):eH B.M (gJ B.bE pt) (.call (.ref a) args) R s:=by
 refine d8 (Met.pN H) λX H=>?_;rw[BI,BI]at X;have J:=Nat.lt_of_not_le λh=>by replace h:=X.2▸Nat.ble_eq_true_of_le h;injection h
 have hd:=B.hd (Nat.zero_lt_of_lt J);have xb:(gJ B.bE pt).depth< recursionLimit:=rR (Gx _) (qr (WA J _) hd.2);have Y:aG B.M (gJ B.bE pt).in1 (md fd args) (λJ ba=>
   aG B.M (gJ B.bE pt).in1 (me fd.scope fd.globals fd.closure J (fd.qualname++".<locals>.") (some a) fd.code none fd.builtins)
    (λenv J=>J.heap.NoLimit/\eH B.M (gJ B.bE pt) (Na fd.body env) R J) (λe s'=>R (.error e) s') ba) (λe s'=>R (.error e) s') s:=by
  refine I.S _ _ _ _ _ _ s ak a0 H λr cK s' a1 G hm=>?_;induction r with
  |error _=>exact absurd (hm λj j=>0) (Met.not rfl)|ok b=>
   refine I.S _ cK _ _ _ _ s' ak a1 hm λr' zp s2 a2 G' sK=>?_;induction r' with
   |error _=>exact absurd (sK λj j=>0) (Met.not rfl)|ok env=>exact⟨hd.1.keeps a2.F.r.h.keep,I.C pt zp _ κ R s2 ak a2 sK (h.go (G.trans G'))⟩
 induction Z:fd.body with
 |stmts body=>rw[Z]at Y;exact FA xb ho sJ X.1.1 X.1.2 Z Nj Y|expr body=>rw[Z]at Y;exact kla_callFunE xb ho sJ X.1.1 X.1.2 Z Nj Y
theorem Goes.push{led:List (af×ar)}{h:aw}{o:ar}(e:h.objs.size=sz):Goes led h ((sz,o)::led) (h.push o):=by
 refine⟨λz H e j=>cZ _ e,λz H e=>⟨H,cZ _ e⟩,λp hp=>?_⟩;rcases a9.mp hp with rfl|hp
 ·exact .inl (wP (qu e))
 ·exact .inr ⟨p,hp,rfl⟩
theorem Goes.set{led:List (af×ar)}{h:aw}{i:Nat}{p:af×ar}{f:ar->ar}(J:led[i]?=some p)(hh:h.get? p.1=some p.2)(Z:(f p.2).isFreed=false):Goes led h (led.set i (p.1,f p.2)) (h.update p.1 f):=by
 have X:lc p.1 h (h.update p.1 f):=ib ..;refine⟨λz Y H nz=>(X.2 z λq=>nz p (jb J) q.symm).trans H,λz Y H=>?_,λq hq=> .inr (Zb J q hq)⟩;by_cases q:z=p.1;·exact rR q ⟨_,nN f hh Z⟩
 ·exact⟨Y,(X.2 z q).trans H⟩
theorem gn.load(I:gn B P D){a:af}{X:Option ag}{k:ar->cb α}{κ:Except ag α->Xs->WS->Rs O}{Q:α->am->Prop}(J:B.At ak st s)(H:∀Z,Met P (Ck B.x D pt Z st (.load a X k) κ))(h:B.End P ak st s κ (Cm Q E)):aG B.M (gJ B.bE pt) (.load a X k) Q E s:=by
 refine aO (Met.cu H) λq j H=>?_;obtain⟨e,X⟩:=q;induction e with
 |zero=>refine aO (Met.cu H) λo X H=>?_;exact nd_load (J.F.r.h.keep _ _ (B.X _ _ X)) (I.S pt _ _ κ Q E s ak J.ev H h)|succ i=>refine aO (Met.cu H) λp Y H=>?_;refine d8 (Met.vg H) λe H2=>?_;replace e:=Ob.zr e;subst e;exact nd_load (J.F.r.h.idx Y) (I.S pt _ _ κ Q E s ak J.ev H2 h)
theorem gn.update(I:gn B P D){a:af}{Z:Option ag}{f:ar->ar}{k:Unit->cb α}{κ:Except ag α->Xs->WS->Rs O}{Q:α->am->Prop}(J:B.At ak st s)(H:∀σ,Met P (Ck B.x D pt σ st (.update a Z f k) κ))(h:B.End P ak st s κ (Cm Q E)):aG B.M (gJ B.bE pt) (.update a Z f k) Q E s:=by
 refine aO (Met.cu H) λq j H=>?_;obtain⟨e,ev⟩:=q;induction e with
 |zero=>exact absurd (H λj j=>0) (Met.not rfl)|succ i=>refine aO (Met.cu H) λp X H=>?_;refine d8 (Met.pN H) λY H=>?_;refine d8 (Met.vg H) λe H2=>?_;replace e:=Ob.zr e;subst e;have H:lc p.1 s.heap (s.heap.update p.1 f):=ib ..;exact Zh (J.F.r.h.idx X) (I.S pt { st with ev:=ev,led:=st.led.set i _ } _ κ Q E { s with heap:=s.heap.update p.1 f } ak ⟨⟨⟨J.F.r.h.update X Y,J.F.r.os,J.F.r.gens,J.F.r.same⟩,H.1▸J.F.sz,J.F.tk⟩,J.ok.imp λlv k=>⟨λb H=>rR (map_set _ _ p (p.1,f p.2) X rfl) (k.1 b H),k.2⟩⟩ H2 (h.go (Goes.set X (J.F.r.h.idx X) Y)))
theorem gn.ask(I:gn B P D){k:BF->cb α}{κ:Except ag α->Xs->WS->Rs O}{Q:α->am->Prop}(J:B.At ak st s)(H:∀Y,Met P (Ck B.x D pt Y st (.ask k) κ))(h:B.End P ak st s κ (Cm Q E)):aG B.M (gJ B.bE pt) (.ask k) Q E s:=by
 refine nd_ask ?_;rcases Met.cond H with H|H
 ·refine d8 (Met.vg H) λe H=>?_;have X:∀b,k (Ci b ⟨B.prog,B.w.params⟩)=k _:=λb=>by
   induction b with
   |false=>exact(Ob.Zm e).symm|true=>rfl
  show aG B.M _ _ ..;exact rR ((congrArg k (congrArg (λv:aj=>(⟨B.prog,v.params⟩:BF)) (World.withFollow_self B.w "special-get-raises")).symm).trans (X _)) (I.S pt _ _ κ Q E s ak J.ev H h)
 ·exact I.S pt _ _ κ Q E s ak J H h
theorem gn.told{c:bB}{ev:List Nat}{κ:cz->Xs->WS->Rs O}{os:aF}(J:Fits B.ao B.aa ak st s)(sL:∀b∈lv,b∈st.led.map (·.1))(ok:os.Ok B.ao B.M B.bE B.U B.aJ B.aa lv)(H:∀σ,Met P (stepT B.x pt σ st ev c κ os))(h:B.End P ak st s κ R):eH B.M (gJ B.bE pt) c R s:=by
 induction os with
 |nil=>exact absurd (H λj j=>0) (Met.not rfl)|cons any c0 ix pre out next=>
  refine zh ok λhl hn ht hx=>?_;refine d8 (Met.pM H) λhq H=>?_;refine d8 (Met.vg H) λhc H=>?_;refine d8 (Met.vg H) λX H2=>?_;replace hc:=Ob.Zk hc;replace X:=Ob.Zl X;subst hc;have hR:∀x s',s'.heap.objs.size=(out x).sz->s'.toks=(out x).tk->(out x).post.map (·.1)=pre.map (·.1)->_->ax B.ao B.aa ak ((out x).new++(out x).post) s'->sI pre s.heap s'.heap->R (out x).res s':=λx s' hs kr jk vh hr H=>by
   refine cJ (J.r.h.told hn X jk vh hr.h H) λa1 a2 a4=>?_;have Z:∀b∈lv++pre.map (·.1),b∈st.led.map (·.1):=λb hb=>(cr.mp hb).elim (sL b) λhb=>by refine aO (bq.mp hb) λp Y eq1=>?_;subst eq1;refine aO (bq.mp (X▸b7 Y)) λi u H=>?_;exact b7 (jb H)
   refine h (out x).res ⟨(out x).new++putAll st.led ix (out x).post,(out x).sz,(out x).tk,_,next x⟩ s' ⟨⟨⟨a1,hr.os,hr.gens,hr.same⟩,hs,kr⟩,⟨_,λb hb=>?_,hx x (λb hb=>?_) λp Y=>by rw[<-hs];exact a1.low p (bL _ Y)⟩⟩ a2 λσ=>Met.frame (H2 (Zj x σ))
   ·rw[bM,a4];rcases cr.mp hb with hb|hb
    ·exact bD _ (Z b hb)
    ·exact bL _ hb
   ·have f6:=Z b hb;refine aO (bq.mp f6) λp Y eq2=>?_;subst eq2;rw[<-a4]at f6;refine aO (bq.mp f6) λZ iM H=>?_;exact⟨by simp only[<-hs,<-H];exact a1.low Z (bD _ iM),λq hq e=>by have z:=J.r.h.at_ p Y;simp only[e,vh q hq]at z;injection z⟩
  have Nk:ax B.ao B.aa ak pre s:=⟨J.r.h.sel hn X,J.r.os,J.r.gens,J.r.same⟩
  induction any with
  |some nn=>have H:=dk hq;exact ht _ (rR (Gw _) B.hA) (λY=>rR (Gx _) (aE (qu (LK ..)) (aE (yP H _) (B.hd (qr Y (aE (dG ..) H))).2))) (gJ B.bE pt).units s ak R (a8 _) Nk (λL hL=>by injection hL) hR|none=>have H:(pt.all Ce && yO (pt.map Fz).sum B.ub && Cf ..)=true:=hq;simp only[gy]at H;refine rR (Ni pt H.1.1) ?_;refine ht _ s ak R (aE (yP (dk H.1.2) _) B.hU) Nk (λL hL=>?_) hR;have Z:Met P (w8 B.aJ st.led _):=H2 λj j=>0;have Y:=H.2;rw[hL]at Z Y;exact Zn J.r Y Z (λi H=>bq.mp (X▸b7 H))
theorem gn.Zq(I:gn B P D){c:bB}{κ:cz->Xs->WS->Rs O}(J:B.At ak st s)(H:∀X,Met P (cu (Cj c) λp=>cu (zn p.1) λa=>Nc B.x D pt X st a p.2 κ))(h:B.End P ak st s κ R):eH B.M (gJ B.bE pt) c R s:=by refine aO (Met.cu H) λp Y H=>?_;refine aO (Met.cu H) λa e2 H=>?_;refine aO (Met.cu H) λo X H=>?_;refine aO (Met.cu H) λfd Z H=>?_;refine d8 (Met.pM H) λe4 H=>?_;exact rR (M9 Y) (rR (Gt e2) (I.body J H h (J.F.r.h.keep _ _ (B.X _ _ X)) (M8 Z) (BJ (λH H H=>J.F.r.h.keep _ _ (B.X _ _ H)) e4)))
theorem gn.Zr(I:gn B P D){i:Nat}{a:af}{κ:cz->Xs->WS->Rs O}(J:B.At ak st s)(H:∀X,Met P (Nd B.x D pt X st i j a args κ))(h:B.End P ak st s κ R):eH B.M (gJ B.bE pt) (.call (.ref a) args) R s:=by refine aO (Met.cu H) λp h1 H=>?_;refine aO (Met.cu H) λq X H=>?_;refine aO (Met.cu H) λfd e3 H=>?_;refine aO (Met.cu H) λY e4 H=>?_;refine aO (Met.cu H) λvs Y H=>?_;refine aO (Met.cu H) λv e8 H=>?_;refine aO (Met.cu H) λn Z H=>?_;refine d8 (Met.pM H) λZs H=>?_;refine d8 (Met.vg H) λha H=>?_;refine d8 (Met.vg H) λhc H=>?_;refine BK (Y9 Z) λt Z=>?_;exact I.body J H h (rR (Ob.zr ha) (J.F.r.h.idx h1)) (M8 e3) ⟨q.1,q.2,vs,t,(Gt e4).trans (congrArg _ (Ob.zr hc)),J.F.r.h.idx X,Y8 Y,e8.trans (congrArg some (Z.trans (congrArg (ag.str · t) (beq_iff_eq.mp Zs))))⟩
theorem gn.step(I:gn B P D):gn B P (step B.x D):=by
 refine⟨?_,?_⟩
 ·intro α pt st t κ Q E s ak J H h;induction t using Ww with
  |pure a=>exact nd_pure (h _ st s J .refl H)|raise x=>exact Zf (h _ st s J .refl H)|rule _ k=>exact nd_rule (I.S pt st _ κ Q E s ak J H h)|«at» _ k=>exact Ze (I.S pt st _ κ Q E s ak J H h)|point _ k=>exact nd_point (I.S pt st _ κ Q E s ak J H h)|ask k=>exact I.ask J H h|fresh k=>exact nd_fresh (I.S pt { st with tk:=st.tk+1 } _ κ Q E { s with toks:=s.toks+1 } ak ⟨⟨⟨J.F.r.h,J.F.r.os,J.F.r.gens,J.F.r.same⟩,J.F.sz,congrArg _ J.F.tk⟩,J.ok⟩ (rR J.F.tk H) h)|handled o k=>refine d8 (Met.pN H) λe H=>?_;subst e;exact Zg (rR ((Gw pt).trans B.hA) (I.S pt st _ κ Q E s ak J H h))|load a pp k=>exact I.load J H h|alloc o k=>refine d8 (Met.pN H) λhf H=>?_;exact nd_alloc (I.S pt { st with led:=_::st.led,sz:=st.sz+1 } _ κ Q E { s with heap:=s.heap.push o } ak ⟨⟨⟨J.F.sz▸J.F.r.h.alloc hf,J.F.r.os,J.F.r.gens,J.F.r.same⟩,(qv ..).trans (congrArg _ J.F.sz),J.F.tk⟩,J.ok.imp λlv k=>⟨λb hb=>aB (k.1 b hb),k.2⟩⟩ (rR J.F.sz H) (h.go (Goes.push J.F.sz)))|update a pp f k=>exact I.update J H h|call c hd g l k=>
   induction hd with
   |none=>exact Nh (I.C pt st c _ _ s ak J H λr Y s' Z G X=>I.S pt Y _ κ Q E s' ak Z X (h.go G))|some _=>exact absurd (H λj j=>0) (Met.not rfl)
  |_=>exact absurd (H λj j=>0) (Met.not rfl)
 ·intro pt st c κ R s ak J H h;refine aO (Met.cu H) λq j H=>?_;obtain⟨e,ev⟩:=q;induction e using r8 with
  |zero=>
   refine aUe ?_;show aG B.M _ (uK gz c) ..;rw[table_eq_tree];refine I.S (c::pt) _ _ _ _ _ s ak J.ev H λr Y s' Z G X=>?_;induction r with
   |error e=>exact h _ Y s' Z G X|ok f=>induction f with
    |done f=>exact h _ Y s' Z G X|again c'=>exact d8 (Met.pM X) λhq X=>⟨hq,I.C pt Y c' κ R s' ak Z X (h.go G)⟩
  |succ n=>
   induction n using r8 with
   |zero=>exact I.Zq J.ev H h|succ n=>
    induction n using r8 with
    |zero=>refine aO J.ok λlv X ok=>?_;exact gn.told J.F X ok H h|succ n=>refine aO (Met.cu H) λp X H=>?_;refine aO (Met.cu H) λa e2 H=>?_;refine aO (Met.cu H) λi j H=>?_;refine aO (Met.cu H) λj e H=>?_;exact rR (M9 X) (rR (Gt e2) (I.Zr J.ev H h))
theorem gn.all:∀n,gn B P (run B.x n)
 |0=>⟨λz z z z z z z z z H z=>absurd (H λz z=>0) (Met.not rfl),λz z z z z z z z H z=>absurd (H λz z=>0) (Met.not rfl)⟩|n+1=>(gn.all n).step
end
section
variable {K:uI}{ub:Nat}{P:O->Prop}
theorem zt(X:K.In aa)(hA:A.handled=none)(hd:0< dep->aa.NoLimit/\A.depth+dep<=bk)(hU:A.units+ub<=U)(n:Nat):Sound ao prog w K aa A dep ub U fr P (run ⟨⟨prog,w.params⟩,K,dep,ub,fr⟩ n):=have I:gn (Bd.mk ao prog w K aa A dep ub U fr X hA hd hU) P _:=gn.all n
 ⟨λY st t κ Q E s ak F Z H h=>I.S Y st t κ Q E s ak ⟨F,Z⟩ H λr J s' a G hm=>by have:=h r J s' a.F a.ok G hm;induction r<;>exact this,λY st c κ R s ak F Z H h=>I.C Y st c κ R s ak ⟨F,Z⟩ H λr J s' a G hm=>h r J s' a.F a.ok G hm⟩
end
def fin(r:β)(_:Xs)(H:WS):Rs (β×WS):=nc (some ([],(r,H)))
def view(H:List Nat)(x:Rs (β×WS)):Option (β×List (Option (af×ar))×Nat×Nat):=nc (match x with
 |some p=>some (p.2.1,H.map (λi=>p.2.2.led[i]?),p.2.2.sz,p.2.2.tk)|none=>none)
def Nl(x:Rs β):List Ob:=nc (match x with
 |some p=>p.1.map (·.1)|none=>[])
def Nm(x:Rs β):List Ob:=nc (match x with
 |some p=>p.1.map (·.2)|none=>[])
abbrev Ends(H:List Nat)(x:Rs (β×WS))(y:β×List (Option (af×ar))×Nat×Nat):Prop:=(view H x,Nl x)=(some y,Nm x)
section
variable {led:List (af×ar)}{h:aw}
theorem Cn{P:β×WS->Prop}{H:List Nat}{x:Rs (β×WS)}{y:β×List (Option (af×ar))×Nat×Nat}(X:Ends H x y)(Y:∀r J,(r,H.map (λi=>J.led[i]?),J.sz,J.tk)=y->P (r,J)):Met P x:=by
 have e:view H x=some y:=congrArg WB X;induction x with
 |none=>injection e|some p=>refine⟨p.1,_,rfl,λq Z=>?_,Y p.2.1 p.2.2 (dH e)⟩;obtain⟨i,hi⟩:=LY Z;have a:(p.1.map (·.1))[i]?=(p.1.map (·.2))[i]?:=congrArg (·[i]?) (congrArg wQ X);simp only[dP,dP,hi]at a;exact dH a
end
section
variable {K:uI}
theorem wp_run{t:cb α}{Q:α->am->Prop}(SR:ax ao aa ak pre s)(X:K.In aa)(hA:A.handled=none)(dep ub n:Nat)(ev J:List Nat)(Z:aF)(gq:(∀p∈pre,p.1< s.heap.objs.size)->Z.Ok ao (aR prog w) A U fr aa (pre.map (·.1)))(hd:0< dep->aa.NoLimit/\A.depth+dep<=bk)(hU:A.units+ub<=U)(nd:J.Nodup)(Y:Xs->α)(ents:Xs->List (af×ar))(sz tk:Xs->Nat)(e:∀H,Ends J ((run ⟨⟨prog,w.params⟩,K,dep,ub,fr⟩ n).S [] H ⟨pre,s.heap.objs.size,s.toks,ev,Z⟩ t fin) (.ok (Y H),(ents H).map some,sz H,tk H))(h:∀H s',ax ao aa ak (ents H) s'->s'.heap.objs.size=sz H->s'.toks=tk H->Goes pre s.heap (ents H) s'.heap->Q (Y H) s'):aG (aR prog w) A t Q E s:=by
 refine(zt (P:=λo:Except ag α×WS=>∃H,(o.1,J.map (λi=>o.2.led[i]?),o.2.sz,o.2.tk)=(.ok (Y H),(ents H).map some,sz H,tk H)) X hA hd hU n).S [] ⟨pre,s.heap.objs.size,s.toks,ev,Z⟩ t fin Q E s ak ⟨SR,rfl,rfl⟩ ⟨_,λz=>id,gq SR.h.low⟩
  (λH=>Cn (e H) λr J h=>⟨H,h⟩) λr J s' F z G hm=>?_;obtain⟨j,j,e1,j,H,e2⟩:=hm λz z=>0;cases e1;simp only[se]at e2;obtain⟨rfl,e3,e4,e5⟩:=e2;exact h H s' ⟨F.r.h.sel nd e3,F.r.os,F.r.gens,F.r.same⟩ (F.sz.trans e4) (F.tk.trans e5) (G.sel e3)
end
end
variable {M:fV}{out:(Nat->Nat)->Out}{body:List cq}
section
variable {h:aw}{m:Str->Option ag}
end
section
variable {h:aw}{m:Str->Option ag}
abbrev Gy(fd:uJ)(d:Option af):Obj:=nc (⟨.type "function",d, .func fd,#[]⟩)
end
def Nn(H:Option cq):List Stmt:=pB H 0
def Zt(H:Option cq):Bw×Expr×Scope:=eL (pE H 0)
def Zu(H:Option cq):Bw×Expr×Scope:=Zt ((Nn H)[2]?)
noncomputable def Gz:{p:Bw×Expr×LH // p=Zu (jN 20)}:=by apply aUf;conv=>rhs;whnf
abbrev GA(Z:Str)(X:af)(J:ag)(H:af)(Y:ag):Obj:=kla_obj "<lambda>" Z Gz.1.1 Gz.1.2.1 Gz.1.2.2 [("signs",X)] J H Y
abbrev Co(w:aj)(n:Int)(tn:ab)(Y pb:af)(H J X k4 Z:ab):Obj:=nc (LZ [⟨aS w.params "lineno", .str "lineno" H, .int n tn⟩,⟨aS w.params "instream", .str "instream" J, .ref Y⟩,⟨aS w.params "whitespace", .str "whitespace" X, .str "\n\t\r " Z⟩,⟨aS w.params "pushback", .str "pushback" k4, .ref pb⟩] 4)
abbrev GB(w:aj)(H:af)(k:ab):Obj:=nc (LZ [⟨aS w.params "read", .str "read" k, .ref H⟩] 1)
structure KX where
 p:c9
 loose:List Str
 sM:WC->Option ag
 mg:Str->Option ag
 mb:Str->Option ag
 dp:Nat
 un:Nat
 gd:Option (List bB)
 cn:Str
 nms:List (Str×BL)
 xc:Bool
 xd:Bool
 xe:List (Str×Const)
 a:af
 mr:ag
 cl:List (Str×af)
 outer:List lb
 Zv:aD
 base:aw
 aa:aw
 L:af
abbrev KX.sc(k:KX):Scope:=nc (⟨.function,k.nms,k.xc,k.xd,k.xe⟩)
abbrev KX.bE(k:KX):Around:=nc (ktrTop k.dp k.un k.gd k.cn k.sc k.L k.a k.mr k.cl k.outer)
structure KX.Ok(k:KX)(w:aj):Prop where
 B:Below k.Zv k.base k.outer k.aa
 X:aK w k.aa
 T:Top k.p k.loose k.sM k.mg k.mb k.aa
 C:CodeHd k.base 256 252
def nW(w:aj)(c:bB)(n:Nat)(pre:List (af×ar))(out:(Nat->Nat)->Out):Prop:=∀(k:KX)(m:Str->Option ag)(news:List (af×ar))(s:am)(R:cz->am->Prop),k.Ok w->Fr k.aa k.L s.heap m->py k.aa k.L s.heap (pre++news)->(pre.map (·.1)).Nodup->(∀q∈news,∀p∈pre,q.1≠p.1)->k.dp+n< bk->k.un+40*n< dQ->(∀x∈s.gens,Wx x=true)->(∀x s',s'.heap.objs.size=(out x).sz->s'.toks=(out x).tk->s'.os=s.os->(∀x∈s'.gens,Wx x=true)->Fr k.aa k.L s'.heap m->py k.aa k.L s'.heap ((out x).new++((out x).post++news))->((out x).new.map (·.1)).Nodup->(∀p∈(out x).new,∀q∈pre++news,q.1≠p.1)->s'.heap.get? k.L=s.heap.get? k.L->R (out x).res s')->eH (av w) k.bE c R s
noncomputable def others(h aa:aw)(L:af)(H:List af):List (af×ar):=(fI h.objs.size).filterMap λb=>match h.get? b with
 |some o=>if b=L\/b∈H\/(aa.get? b).isSome=true then none else some (b,o)|none=>none
theorem vi{h aa:aw}{L:af}{J:List af}{p:af×ar}:p∈others h aa L J ↔ h.get? p.1=some p.2/\p.1≠L/\p.1 ∉ J/\aa.get? p.1=none:=by
 unfold others;rw[List.mem_filterMap];constructor
 ·rintro ⟨b,j,e⟩;split at e
  ·rename_i o X;split at e;·injection e
   ·rename_i H;injection e with e;subst e
    refine⟨X,λq=>H (.inl q),λq=>H (.inr (.inl q)),?_⟩;induction z:aa.get? b with
    |none=>rfl|some o'=>exact absurd (.inr (.inr (by rw[z];rfl))) H
  ·injection e
 ·rintro ⟨e,Y,Z,n3⟩;refine⟨p.1,aUg.mpr (dJ e),?_⟩;rw[e];dsimp only;rw[if_neg (by rintro (q|q|q);exact Y q;exact Z q;replace q:=n3▸q;injection q)]
abbrev fp(w:aj)(wr:ag)(b J rn:Bool)(dl ds ns Z Y:af)(X:ab)(ep:Nat)(H:Fin 17->ab):Obj:=nc (LZ [⟨aS w.params "_write", .str "_write" (H 0),wr⟩,⟨aS w.params "_data", .str "_data" (H 1), .ref dl⟩,⟨aS w.params "_with_comments", .str "_with_comments" (H 2), .bool false⟩,⟨aS w.params "_strip_text", .str "_strip_text" (H 3), .bool b⟩,⟨aS w.params "_exclude_attrs", .str "_exclude_attrs" (H 4), .none⟩,⟨aS w.params "_exclude_tags", .str "_exclude_tags" (H 5), .none⟩,⟨aS w.params "_rewrite_prefixes", .str "_rewrite_prefixes" (H 6), .bool false⟩,⟨aS w.params "_qname_aware_tags", .str "_qname_aware_tags" (H 7), .none⟩,⟨aS w.params "_find_qname_aware_attrs", .str "_find_qname_aware_attrs" (H 8), .none⟩,⟨aS w.params "_declared_ns_stack", .str "_declared_ns_stack" (H 9), .ref ds⟩,⟨aS w.params "_ns_stack", .str "_ns_stack" (H 10), .ref ns⟩,⟨aS w.params "_prefix_map", .str "_prefix_map" (H 11), .ref Z⟩,⟨aS w.params "_preserve_space", .str "_preserve_space" (H 12), .ref Y⟩,⟨aS w.params "_pending_start", .str "_pending_start" (H 13), .none⟩,⟨aS w.params "_root_seen", .str "_root_seen" (H 14), .bool J⟩,⟨aS w.params "_root_done", .str "_root_done" (H 15), .bool rn⟩,⟨aS w.params "_ignored_depth", .str "_ignored_depth" (H 16), .int 0 X⟩] ep)
theorem Zw(l:af)(vs:List ag)(v:ag)(e:Nat)(Z:vs.length<=1000):Told ao (av w) A U fr aa (bC "list.append" [.ref l,v]) [(l,listOf vs.toArray e)] (λx=>⟨.ok (.ret .none),[(l,listOf (vs++[v]).toArray (e+1))],[],x 0,x 1⟩):=by intro u s ak R J H j hR;have X:=H.h.at_ _ ay;refine dK aUh.plain aUi (aUh.check _ _ _ _ _ _ _ _ ⟨_,X,rfl⟩ (PySem.F.args_list_append_2 _ _) ?_);show aG _ _ (updateSeq l _>>=λz=>ret .none) ..;have ku:vs.toArray.size<=sizeLine:=aE Z (by decide);refine au (FB X rfl (aH ?_) ku (by rw[aUj];omega));have J:=H.h.update (i:=0) (f:=λo=>o.mapSeq (·.push v)) rfl rfl;have Y:lc l s.heap (s.heap.update l λo=>o.mapSeq (·.push v)):=ib ..;have e1:mT _ _=listOf (vs++[v]).toArray (e+1):=rL (aUk ..) (mapSeq_push ..);replace J:f5 aa [(l,mT _ _)] _:=J;rw[e1]at J;exact hR (λi=>bif bZ i 0 then s.heap.objs.size else s.toks) _ Y.1 rfl rfl (λp X=>nomatch X) ⟨J,H.os,H.gens,H.same⟩ λb o J H=>(Y.2 b (H _ ay).symm).trans J
abbrev il(i:Nat)(l:af)(vs:List ag)(e:Nat)(v:ag)(next:aM):aF:= .cons (some 0) (bC "list.append" [.ref l,v]) [i] [(l,aA vs e)] (λx=>⟨.ok (.ret .none),[(l,aA (vs++[v]) (e+1))],[],x 0,x 1⟩) next
theorem lu{i:Nat}{l:af}{e:Nat}{v:ag}{next:aM}(H:vs.length<=1000)(h:∀x:Nat->Nat,(∀b∈lv++[l],b< x 0)->(next x).Ok ao (av w) A U fr aa (lv++[l]++[])):(il i l vs e v next).Ok ao (av w) A U fr aa lv:=⟨rfl,cj.mpr ⟨bi,bN⟩,λJ J z=>Zw l vs v e H,λx H z=>h x λb J=>(H b J).1⟩
theorem No(l:af)(vs:List ag)(e k:Nat)(X:vs.length=k)(Z:k<=1001):Told ao (av w) A U fr aa (.builtin "len" ⟨[.ref l],[]⟩) [(l,listOf vs.toArray e)] (λx=>⟨.ok (.ret (.int k (x 2))),[(l,listOf vs.toArray e)],[],x 0,x 1⟩):=by
 intro u s ak R hu H j hR;have J:((vs.toArray.size:Nat):Int)=(k:Int):=by rw[pz,X]
 refine qw WE ?_;have Y:((vs.toArray.size:Nat):Int)< 2 ^ 63:=by exact rR J (iB [(k:Nat)] [lE Y0 1001] (lL Y0 9223372036854775808) rfl (bK.mpr Z))
 refine pA (PySem.wpAny_len_body_list (Q:=λr s'=>r= .int k _/\s'={ s with toks:=s.toks+1+1 }) ⟨_,(H.h.at_ _ ay),rfl,e,rfl⟩ Y ⟨rR J rfl,rfl⟩) (λJ s' h'=>?_) λz z e=>e;obtain⟨r,rfl,rfl,rfl⟩:=h';exact hR (λi=>bif bZ i 0 then s.heap.objs.size else bif bZ i 1 then s.toks+1+1 else s.toks+1) _ rfl rfl rfl (λp J=>nomatch J) ⟨H.h,H.os,H.gens,H.same⟩ λb o H J=>H
theorem xf(l:af)(vs:List ag)(y:ag)(e:Nat)(Z:vs.length<=1000):Told ao (av w) A U fr aa (bC "list.pop" [.ref l]) [(l,listOf (vs++[y]).toArray e)] (λx=>⟨.ok (.ret y),[(l,listOf vs.toArray (e+1))],[],x 0,x 1⟩):=by
 intro u s ak R H J z hR;have X:=J.h.at_ _ ay;have Y:(vs++[y]).toArray.size - 1=vs.length:=by refine rR pz (rR bQ ?_);rfl
 have hy:(vs++[y]).toArray[(vs++[y]).toArray.size - 1]?=some y:=by simp
 have he:(vs++[y]).toArray.eraseIdxIfInBounds vs.length=vs.toArray:=by have:=PySem.W.kl_erase vs [] y;rwa [dR]at this
 have H:=J.h.update (i:=0) (f:=λo=>o.mapSeq λa=>a.eraseIdxIfInBounds ((vs++[y]).toArray.size - 1)) rfl rfl;have sb:lc l s.heap (s.heap.update l λo=>o.mapSeq λa=>a.eraseIdxIfInBounds ((vs++[y]).toArray.size - 1)):=ib ..;refine dK aUl.plain PySem.F.entry_list_pop (aUl.check _ _ _ _ _ _ _ _ ⟨_,X,rfl⟩ (PySem.F.args_list_pop_1 _) ?_);refine aYo l _ e y hy (rR pz (rR bQ (aE (si Z) (by decide)))) _ _ _ _ _ ⟨X,?_⟩;have e1:mT (λa=>a.eraseIdxIfInBounds ((vs++[y]).toArray.size - 1)) (listOf (vs++[y]).toArray e)=listOf vs.toArray (e+1):=by
  have Z:=H.at_ _ ay;have q':(s.heap.update l λo=>o.mapSeq λa=>a.eraseIdxIfInBounds _).get? l=some _:=(PySem.IsL.update X λa=>a.eraseIdxIfInBounds ((vs++[y]).toArray.size - 1))
  dsimp only[List.set]at Z;rw[Z]at q';have X:=dH q';rw[Y,he]at X;rw[Y];refine X.trans ?_;rw[if_neg (by simp)]
 replace H:f5 aa [(l,mT _ _)] _:=H;rw[e1]at H;exact hR (λi=>bif bZ i 0 then s.heap.objs.size else s.toks) _ sb.1 rfl rfl (λp X=>nomatch X) ⟨H,J.os,J.gens,J.same⟩ λb o J H=>(sb.2 b (H _ ay).symm).trans J
abbrev vj(i:Nat)(l:af)(vs:List ag)(e k:Nat)(next:aM):aF:= .cons (some 0) (.builtin "len" ⟨[.ref l],[]⟩) [i] [(l,aA vs e)] (λx=>⟨.ok (.ret (.int k (x 2))),[(l,aA vs e)],[],x 0,x 1⟩) next
abbrev xg(i:Nat)(l:af)(vs:List ag)(y:ag)(e:Nat)(next:aM):aF:= .cons (some 0) (bC "list.pop" [.ref l]) [i] [(l,aA (vs++[y]) e)] (λx=>⟨.ok (.ret y),[(l,aA vs (e+1))],[],x 0,x 1⟩) next
theorem nY{H:Nat}{c:bB}{i:Nat}{l:af}{o:ar}{next:aM}(X:∀J:aD,J.handled=none->(0< H->J.depth+H<=bk)->Told ao M J J.units none aa c [(l,o)] out)(h:∀x:Nat->Nat,(∀b∈lv++[l],b<(out x).sz/\∀p∈(out x).new,b≠p.1)->(∀p∈(out x).new,p.1<(out x).sz)->(next x).Ok ao M A U fr aa (lv++[l]++(out x).new.map (·.1))):(aF.cons (some H) c [i] [(l,o)] out next).Ok ao M A U fr aa lv:=⟨rfl,cj.mpr ⟨bi,bN⟩,X,λx J H=>h x J H⟩
section
open PySem PySem.W PyProof.Rows PySem.P
noncomputable section
theorem eO{T:String}{B:Builtin}{rest:List ag}{m:Made}{r:Nat->ag}(H:yQ T name id)(J:mf gz id=some B)(args:lf id ⟨self::rest,[]⟩)(g:L0 (B ⟨self::rest,[]⟩) m)(Y:∀s:am,s.TypeIs self T)(Z:∀(Q:ag->am->Prop)(s:am),(∀t tk,Q (r t) { s with toks:=tk })->m.post Q s):Told ao (av w) A U fr aa (.call (.builtin id) ⟨self::rest,[]⟩) [] (λx=>⟨.ok (.ret (r (x 2))),[],[],x 0,x 1⟩):=by intro u s ak R X X j hR;refine dK H.plain J (H.check _ _ _ _ _ _ _ _ (Y s) args (g _ _ _ _ _ (Z _ s λt tk=>?_)));exact hR (λi=>bif bZ i 0 then s.heap.objs.size else bif bZ i 1 then tk else t) _ rfl rfl rfl (λz H=>absurd H bi) ⟨X.h,X.os,X.gens,X.same⟩ λb o H J=>H
abbrev cM(id:String)(args:List ag)(r:Nat->ag)(next:aM):aF:=nc (.cons (some 0) (.call (.builtin id) ⟨args,[]⟩) [] [] (λx=>⟨.ok (.ret (r (x 2))),[],[],x 0,x 1⟩) next)
theorem dZ{args:List ag}{r:Nat->ag}{next:aM}(J:∀H:aD,Told ao (av w) H H.units none aa (.call (.builtin id) ⟨args,[]⟩) [] (λx=>⟨.ok (.ret (r (x 2))),[],[],x 0,x 1⟩))(h:∀x:Nat->Nat,(∀b∈lv,b< x 0)->(next x).Ok ao (av w) A U fr aa lv):(cM id args r next).Ok ao (av w) A U fr aa lv:=⟨rfl,bN,λH z z=>J H,λx H z=>by simp only[wR,dR]at H ⊢;exact h x λb J=>(H b J).1⟩
theorem Zx{x y:Str}{b:Bool}(h:(x.cps.toList==y.cps.toList)=b):Told ao (av w) A U fr aa (bC "str.__eq__" [.str x t, .str y u]) [] (λx=>⟨.ok (.ret (.bool b)),[],[],x 0,x 1⟩):=eO (r:=λz=> .bool b) PySem.F.slot_str_eq PySem.F.entry_str_eq (PySem.F.args_str_eq_2 _ _) (gives_str_eq x y t u) (λs=>ic ..) λQ s k=>h▸k 0 s.toks
abbrev cC(x y:Str)(t u:ab)(b:Bool)(next:aM):aF:=cM "str.__eq__" [.str x t, .str y u] (λ_=> .bool b) next
theorem Zy{x y:Str}{b:Bool}(h:(!(kb x y 0 x.length 1).isEmpty)=b):Told ao (av w) A U fr aa (bC "str.__contains__" [.str x t, .str y u]) [] (λx=>⟨.ok (.ret (.bool b)),[],[],x 0,x 1⟩):=eO (r:=λz=> .bool b) PySem.F.slot_str_contains PySem.F.entry_str_contains (PySem.F.args_str_contains_2 _ _) (gives_str_contains x y t u) (λs=>ic ..) λQ s k=>h▸k 0 s.toks
abbrev mu(x y:Str)(t u:ab)(b:Bool)(next:aM):aF:=cM "str.__contains__" [.str x t, .str y u] (λ_=> .bool b) next
theorem Zz{x y z:Str}(h:x++y=z)(H:x.length+y.length<=gA):Told ao (av w) A U fr aa (bC "str.__add__" [.str x t, .str y u]) [] (λx=>⟨.ok (.ret (.str z (x 2))),[],[],x 0,x 1⟩):=eO PySem.F.slot_str_add PySem.F.entry_str_add (PySem.F.args_str_add_2 _ _) (gives_str_add x y t u) (λs=>ic ..) λQ s k=>by subst h;exact PySem.SB.post_add H λH J=>k H J
abbrev cQ(x y z:Str)(t u:ab)(next:aM):aF:=cM "str.__add__" [.str x t, .str y u] (λt=> .str z t) next
section
variable {x y z:Str}{b:Bool}{next:aM}
theorem dC(h:(x.cps.toList==y.cps.toList)=b)(k:bJ next ao w A U fr aa):(cC x y t u b next).Ok ao (av w) A U fr aa lv:=dZ (λz=>Zx h) λe z=>k e lv
theorem nZ(h:(!(kb x y 0 x.length 1).isEmpty)=b)(k:bJ next ao w A U fr aa):(mu x y t u b next).Ok ao (av w) A U fr aa lv:=dZ (λz=>Zy h) λe z=>k e lv
theorem n6(h:x++y=z)(H:x.length+y.length<=gA)(k:bJ next ao w A U fr aa):(cQ x y z t u next).Ok ao (av w) A U fr aa lv:=dZ (λj=>Zz h H) λe j=>k e lv
end
abbrev Any(ao:Prop)(w:aj)(aa:aw)(n:Nat)(c:bB)(pre:List (af×ar))(out:(Nat->Nat)->Out):Prop:=∀H:aD,H.handled=none->(0< n->H.depth+n<=bk)->Told ao (av w) H H.units none aa c pre out
theorem aF.Ok.units{u:Nat}:∀(H:aF)lv,H.Ok ao (av w) A U none aa lv->H.Ok ao (av w) { A with units:=u } U none aa lv:=by
 intro H;induction H with
 |nil=>exact λz=>id|cons any c ix pre out next ih=>exact λn h=>⟨h.1,h.2.1,(by induction any<;>exact h.2.2.1),λx J H=>ih x _ (h.2.2.2 x J H)⟩
theorem bS{c:bB}(X:aK w aa)(NL:aa.NoLimit)(N:Nat)(ev H:List Nat)(os:Nat->Nat->aF)(nd:H.Nodup)(Z:Nat->Nat->Xs->Nat->Nat)(jk:∀x,(out x).post.map (·.1)=pre.map (·.1))(gq:∀Y:aD,Y.handled=none->∀sz tk,(∀p∈pre,p.1< sz)->(os sz tk).Ok ao (av w) Y Y.units none aa (pre.map (·.1)))(e:∀sz tk J,Ends H ((aI w n 0 none N).C [] J ⟨pre,sz,tk,ev,os sz tk⟩ c fin) ((out (Z sz tk J)).res,((out (Z sz tk J)).new++(out (Z sz tk J)).post).map some,(out (Z sz tk J)).sz,(out (Z sz tk J)).tk)):Any ao w aa n c pre out:=λY hA Z u s ak R hu SR z hR=>by
 refine(zt (A:={ Y with units:=u }) (P:=λo:cz×WS=>∃x,(o.1,H.map (λi=>o.2.led[i]?),o.2.sz,o.2.tk)=((out x).res,((out x).new++(out x).post).map some,(out x).sz,(out x).tk)) X hA (λh=>⟨NL,Z h⟩) hu N).C [] ⟨pre,s.heap.objs.size,s.toks,ev,os s.heap.objs.size s.toks⟩ c fin R s ak ⟨SR,rfl,rfl⟩
  ⟨_,λz=>id,(gq Y hA _ _ SR.h.low).units _ _⟩ (λJ=>Cn (e ..) λr H h=>⟨_,h⟩) λr H s' F z G hm=>?_;obtain⟨j,j,e1,j,x,e2⟩:=hm λz z=>0;cases e1;simp only[se]at e2;obtain⟨rfl,e3,e4,e5⟩:=e2;have R':=F.r.h.sel nd e3;have G':=G.sel e3;refine hR x s' (F.sz.trans e4) (F.tk.trans e5) (jk x) (λp hp=>?_) ⟨R',F.r.os,F.r.gens,F.r.same⟩ G'.keep;rcases G'.new p (bL _ hp)with h|⟨q,hq,e⟩
 ·exact h
 ·have H:=R'.nd;rw[bM,fj]at H;refine absurd rfl (H.2.2 p.1 (b7 hp) p.1 ?_);exact rR (jk x) (rL e (b7 hq))
noncomputable def rv:List (Nat×ab)->List ag
 |[]=>[]|c::l=>rv l++[.str ⟨#[c.1]⟩ c.2]
abbrev xh:Str:=nc ("_law_stream.<locals>.<lambda>")
structure LX where
 lx:af
 ld:af
 sf:af
 sd:af
 rd:af
 c2:af
 ce:af
 sl:af
 pb:af
 n:Int
 e1:Nat
 tn:ab
 k1:ab
 k2:ab
 k3:ab
 k4:ab
 k5:ab
 k6:ab
 kq:ab
 GC:uJ
 pm:ag
 ct:ag
 oct:ag
 GD:Option af
 v0:ag
 vr:List ag
 sN:Array (Option ag)
 GE:ag
 GF:Option af
 GG:Array (Option ag)
abbrev LX.led(X:LX)(w:aj)(l:List (Nat×ab)):List (af×ar):=[(X.lx,dX 227 X.ld),(X.ld,Co w X.n X.tn X.sf X.pb X.k1 X.k2 X.k3 X.k4 X.k5),(X.sf,Gy X.GC (some X.sd)),(X.sd,GB w X.rd X.k6),(X.rd,GA xh X.ce X.pm X.c2 X.ct),(X.c2,⟨X.oct,X.GD, .fields (X.v0:: .str xh X.kq::X.vr).toArray,X.sN⟩),(X.ce,⟨X.GE,X.GF, .cell (some (.ref X.sl)),X.GG⟩),(X.sl,listOf (rv l).toArray X.e1)]
end
end
variable {X:LX}
section
noncomputable def pP(a b:UInt64):Bool:=kX a b==some Ordering.gt
noncomputable def pQ(a b:UInt64):Bool:=kX a b==some Ordering.lt
def fM(a b c:UInt64):UInt64:=if pP b a then(if pP c b then c else b)else(if pP c a then c else a)
def iN(a b c:UInt64):UInt64:=if pQ b a then(if pQ c b then c else b)else(if pQ c a then c else a)
end
abbrev lw(id:String)(x y r:UInt64)(t u:ab)(next:aM):aF:=cM id [.float x t, .float y u] (λk=> .float r k) next
abbrev n7(id:String)(x y:UInt64)(b:Bool)(t u:ab)(next:aM):aF:=cM id [.float x t, .float y u] (λ_=> .bool b) next
section
variable {x r:UInt64}{b:Bool}{next:aM}{B:Builtin}
theorem zu(J:yQ "float" name id)(H:mf gz id=some B)(args:∀a c,lf id ⟨[a,c],[]⟩)(g:L0 (B ⟨[.float x t, .float y u],[]⟩) (.float r))(k:bJ next ao w A U fr aa):(lw id x y r t u next).Ok ao (av w) A U fr aa lv:=dZ (λz=>eO J H (args _ _) g (λs=>rfl) λQ s k=>k _ _) λe z=>k e lv
theorem zv(J:yQ "float" name id)(H:mf gz id=some B)(args:∀a c,lf id ⟨[a,c],[]⟩)(g:L0 (B ⟨[.float x t, .float y u],[]⟩) (.val (.bool b)))(k:bJ next ao w A U fr aa):(n7 id x y b t u next).Ok ao (av w) A U fr aa lv:=dZ (λz=>eO (r:=λz=> .bool b) J H (args _ _) g (λs=>rfl) λQ s k=>k 0 s.toks) λe z=>k e lv
theorem Nq(h:pP x y=b)(k:bJ next ao w A U fr aa):(n7 "float.__gt__" x y b t u next).Ok ao (av w) A U fr aa lv:=by subst h;exact zv PySem.F.slot_float_gt PySem.F.entry_float_gt PySem.F.args_float_gt_2 (aYp x t y u) k
theorem jP(h:gX x y=r)(k:bJ next ao w A U fr aa):(lw "float.__sub__" x y r t u next).Ok ao (av w) A U fr aa lv:=by subst h;exact zu aUm aUn aUo (aYq x t y u) k
theorem Nt(h:pQ x y=b)(k:bJ next ao w A U fr aa):(n7 "float.__lt__" x y b t u next).Ok ao (av w) A U fr aa lv:=by subst h;exact zv PySem.F.slot_float_lt PySem.F.entry_float_lt PySem.F.args_float_lt_2 (aYr x t y u) k
theorem ZA(h:(kX x y==some .lt||kX x y==some .eq)=b)(k:bJ next ao w A U fr aa):(n7 "float.__le__" x y b t u next).Ok ao (av w) A U fr aa lv:=by subst h;exact zv PySem.F.slot_float_le PySem.F.entry_float_le PySem.F.args_float_le_2 (aYs x t y u) k
theorem n8(h:(kX x y==some .eq)=b)(k:bJ next ao w A U fr aa):(n7 "float.__eq__" x y b t u next).Ok ao (av w) A U fr aa lv:=by subst h;exact zv PySem.F.slot_float_eq PySem.F.entry_float_eq PySem.F.args_float_eq_2 (aYt x t y u) k
theorem Nu(h:(kX x y !=some .eq)=b)(k:bJ next ao w A U fr aa):(n7 "float.__ne__" x y b t u next).Ok ao (av w) A U fr aa lv:=by subst h;exact zv PySem.F.slot_float_ne PySem.F.entry_float_ne PySem.F.args_float_ne_2 (aYu x t y u) k
theorem zw(h:uH x y=r)(k:bJ next ao w A U fr aa):(lw "float.__add__" x y r t u next).Ok ao (av w) A U fr aa lv:=by subst h;exact zu PySem.F.slot_float_add PySem.F.entry_float_add PySem.F.args_float_add_2 (aYv x t y u) k
theorem sO(h:iJ x y=r)(k:bJ next ao w A U fr aa):(lw "float.__mul__" x y r t u next).Ok ao (av w) A U fr aa lv:=by subst h;exact zu WF WG WH (aYw x t y u) k
theorem oa(H:kZ y=false)(h:gY x y=r)(k:bJ next ao w A U fr aa):(lw "float.__truediv__" x y r t u next).Ok ao (av w) A U fr aa lv:=by subst h;exact zu aUp aUq aUr (aYx x t y u (by refine rR H ?_;decide)) k
theorem Cp(H:kZ y=false)(h:(WI x y).2=r)(k:bJ next ao w A U fr aa):(lw "float.__mod__" x y r t u next).Ok ao (av w) A U fr aa lv:=by subst h;exact zu PySem.F.slot_float_mod PySem.F.entry_float_mod PySem.F.args_float_mod_2 (aYy x t y u (by refine rR H ?_;decide)) k
end
def GH(id:String)(a b c:UInt64)(t u v:ab)(H J:Bool):aF:=n7 id b a H u t λ_=>n7 id c (bif H then b else a) J v (bif H then u else t) λ_=> .nil
abbrev Cq(f:String)(a b c:UInt64)(t u v:ab):Code:=nc (.call (.builtin f) ⟨[.float a t, .float b u, .float c v],[]⟩)
noncomputable section
abbrev LX.jm(X:LX)(b:Bool)(t:ab):LX:=nc ({ X with n:=bif b then X.n+1 else X.n,tn:=bif b then t else X.tn,e1:=X.e1+1 })
def Nv(X:LX)(c:Nat)(t:ab)(l:List (Nat×ab))(b:Bool):aF:=vj 9 X.sl (rv ((c,t)::l)) X.e1 ((rv l).length+1) λ_=>xg 9 X.sl (rv l) (.str ⟨#[c]⟩ t) X.e1 λx=>cC ⟨#[c]⟩ "\n" t (x 1+1) b λ_=> .nil
def ZB(b:Bool):List Nat:=(dN 51 0x8421084a52949129490042628cc521080200842106010800008000004100421)++(bif b then(dN 35 0x884200600006018003000001800400c600006000003)else [])
def Nx:List Nat:=(dN 51 0x8001084a0280a029490042628cc521080200842106010800008000004100421)
def GI(X:LX)(w:aj)(c:Nat)(t:ab)(l:List (Nat×ab))(b:Bool):(Nat->Nat)->Out:=nc (λx=>⟨.ok (.ret (.str ⟨#[c]⟩ t)),(X.jm b (x 2)).led w l,[],x 0,x 1⟩)
def GJ(X:LX)(w:aj):(Nat->Nat)->Out:=nc (λx=>⟨.ok (.ret (.str "" (x 2))),X.led w [],[],x 0,x 1⟩)
abbrev xi(X:LX):Code:=nc (.call (.ref 210) ⟨[.ref X.lx],[]⟩)
noncomputable def ZC(b:Bool)(H:Xs):Nat->Nat
 |0=>H 2 0|1=>bif b then H 2 1+5 else H 2 1|_=>H 2 1+2
def ZD(X:LX)(w:aj)(c:Nat)(t:ab)(l:List (Nat×ab))(b:Bool)(sz tk:Nat)(H:Xs):=(aI w 3 0 none 500).C [] H ⟨X.led w ((c,t)::l),sz,tk,ZB b,Nv X c t l b⟩ (xi X) fin
def bX(o:Out):cz×List (Option (af×ar))×Nat×Nat:=nc ((o.res,(o.new++o.post).map some,o.sz,o.tk))
theorem ZE(X:LX)(w:aj)(c:Nat)(t:ab)(l:List (Nat×ab))(b:Bool)(sz tk:Nat)(H:Xs):Ends [2,3,4,5,6,7,8,9] (ZD X w c t l b sz tk H) (bX (GI X w c t l b (ZC b H))):=by
 revert w;induction b
 ·refine bW (λw=>?_) (λw=>?_);·kernel_rfl
  ·kernel_rfl
 ·refine bW (λw=>?_) (λw=>?_);·kernel_rfl
  ·kernel_rfl
theorem Ct(l:List (Nat×ab)):(rv l).length=l.length:=by
 induction l with
 |nil=>rfl|cons c l ih=>refine rR bQ (rR ih ?_);rfl
theorem ZF(Y:aK w aa)(J:aa.NoLimit)(X:LX)(c:Nat)(t:ab)(l:List (Nat×ab))(b:Bool)(Z:(c==10)=b)(H:l.length<=1000):Any ao w aa 3 (xi X) (X.led w ((c,t)::l)) (GI X w c t l b):=bS Y J 500 _ [2,3,4,5,6,7,8,9] (λz z=>Nv ..) (by decide) _ (λz=>rfl) (λJ J z z z=>
  nY (λJ z z=>No _ _ _ _ (by rw[Ct,Ct];rfl) (rR (Ct ..) (iI H (by decide)))) λx z z=>nY (λJ z z=>xf _ _ _ _ (rR (Ct ..) H)) λx z z=>dC (Z▸(aUs _)) λz z=>True.intro) λsz tk H=>ZE ..
end
def ZG(J H:Bool):List Nat:=(dN 34 0x4210c4200802080210884310802008200802008400)++((bif J then [1,1,1]else [])++((dN 12 0x108431080200820)++((bif H then [1,1,1]else [])++(dN 15 0xc63088431080200820))))
def Ny(w:aj)(f id:String)(a b c:UInt64)(t u v:ab)(H J:Bool)(sz tk:Nat)(Y:Xs):=(aI w 2 0 none 500).C [] Y ⟨[],sz,tk,ZG H J,GH id a b c t u v H J⟩ (Cq f a b c t u v) fin
noncomputable def zy(a b c:UInt64)(H J:Bool):UInt64:=bif J then c else bif H then b else a
noncomputable def Nz(t u v:ab)(J Y:Bool)(H:Xs):Nat->Nat
 |0=>H 1 0+2|1=>H 1 1|_=>bif Y then v else bif J then u else t
def NA(a b c:UInt64)(H J:Bool):(Nat->Nat)->Out:=λx=>⟨.ok (.ret (.float (zy a b c H J) (x 2))),[],[],x 0,x 1⟩
section
variable (w:aj)(a b c:UInt64)(t u v:ab)(b1 b2:Bool)(sz tk:Nat)(σ:Xs)
theorem ZH:Ends [] (Ny w "max" "float.__gt__" a b c t u v b1 b2 sz tk σ) (bX (NA a b c b1 b2 (Nz t u v b1 b2 σ))):=by revert w;induction b1<;>induction b2<;>refine bW (λw=>?_) (λw=>?_)<;>kernel_rfl
theorem ZI:Ends [] (Ny w "min" "float.__lt__" a b c t u v b1 b2 sz tk σ) (bX (NA a b c b1 b2 (Nz t u v b1 b2 σ))):=by revert w;induction b1<;>induction b2<;>refine bW (λw=>?_) (λw=>?_)<;>kernel_rfl
end
abbrev pR(f:String)(a b c m:UInt64)(t u v:ab)(next:aM):aF:= .cons (some 2) (Cq f a b c t u v) [] [] (λx=>⟨.ok (.ret (.float m (x 2))),[],[],x 0,x 1⟩) next
section
variable (XK:aK w aa)(NL:aa.NoLimit)(a b c:UInt64)(t u v:ab)
include XK NL
theorem ZJ:Any ao w aa 2 (Cq "max" a b c t u v) [] (λx=>⟨.ok (.ret (.float (fM a b c) (x 2))),[],[],x 0,x 1⟩):=by
 have h:fM a b c=zy a b c (pP b a) (pP c (bif pP b a then b else a)):=by unfold fM zy;induction pP b a<;>simp only[cond_true,cond_false,if_true,if_false,WJ]<;>split<;>simp_all
 exact h▸bS XK NL 500 _ [] (λz z=>GH "float.__gt__" a ..) bN _ (λz=>rfl) (λH H z z z=>Nq rfl λz z=>Nq rfl λz z=>True.intro) λsz tk H=>ZH ..
theorem ZK:Any ao w aa 2 (Cq "min" a b c t u v) [] (λx=>⟨.ok (.ret (.float (iN a b c) (x 2))),[],[],x 0,x 1⟩):=by
 have h:iN a b c=zy a b c (pQ b a) (pQ c (bif pQ b a then b else a)):=by unfold iN zy;induction pQ b a<;>simp only[cond_true,cond_false,if_true,if_false,WJ]<;>split<;>simp_all
 exact h▸bS XK NL 500 _ [] (λz z=>GH "float.__lt__" a ..) bN _ (λz=>rfl) (λH H z z z=>Nt rfl λz z=>Nt rfl λz z=>True.intro) λsz tk H=>ZI ..
end
abbrev jo:UInt64:=nc (4611686018427387904)
abbrev Cu:UInt64:=nc (4616189618054758400)
abbrev kx:UInt64:=nc (4618441417868443648)
abbrev e6:UInt64:=nc (4607182418800017408)
abbrev im:=lw "float.__sub__"
abbrev Cw:=lw "float.__add__"
abbrev vk:=lw "float.__mul__"
abbrev ly:=lw "float.__truediv__"
abbrev GK:=lw "float.__mod__"
abbrev oe:=n7 "float.__eq__"
structure HV where
 r:UInt64
 g:UInt64
 b:UInt64
 mx:UInt64
 mn:UInt64
 rg:UInt64
 s:UInt64
 d1:UInt64
 d2:UInt64
 d3:UInt64
 rc:UInt64
 gc:UInt64
 bc:UInt64
 k:UInt64
 h0:UInt64
 h1:UInt64
 h:UInt64
 sm:UInt64
 l:UInt64
 n1:UInt64
 n2:UInt64
def GL(q:Nat)(V:HV)(J tg tb:ab)(H Y rc Z bc:Nat->Nat)(Y:Nat->Nat):aF:=match q with
 |0=>oe V.r V.mx true J (H 2) λ_=>im V.bc V.gc V.h0 (bc 2) (Z 2) λa=>ly V.h0 kx V.h1 (a 2) (a 1+1) λb=>GK V.h1 e6 V.h (b 2) (b 1) λ_=> .nil|1=>oe V.r V.mx false J (H 2) λc=>oe V.g V.mx true tg (H 2) λc=>Cw jo V.rc V.k (c 1) (rc 2) λa=>im V.k V.bc V.h0 (a 2) (bc 2) λa=>ly V.h0 kx V.h1 (a 2) (a 1+1) λb=>GK V.h1 e6 V.h (b 2) (b 1) λ_=> .nil|_=>oe V.r V.mx false J (H 2) λc=>oe V.g V.mx false tg (H 2) λc=>Cw Cu V.gc V.k (c 1) (Z 2) λa=>im V.k V.rc V.h0 (a 2) (rc 2) λa=>ly V.h0 kx V.h1 (a 2) (a 1+1) λb=>GK V.h1 e6 V.h (b 2) (b 1) λ_=> .nil
def Cy(q:Nat)(V:HV)(Y tg tb:ab):aF:=pR "max" V.r V.g V.b V.mx Y tg tb λH=>pR "min" V.r V.g V.b V.mn Y tg tb λZ=>im V.mx V.mn V.rg (H 2) (Z 2) λJ=>oe V.mn V.mx false (Z 2) (H 2) λ_=>ly V.rg V.mx V.s (J 2) (H 2) λs=>
 im V.mx V.r V.d1 (H 2) Y λa=>ly V.d1 V.rg V.rc (a 2) (J 2) λrc=>im V.mx V.g V.d2 (H 2) tg λa=>ly V.d2 V.rg V.gc (a 2) (J 2) λgc=>im V.mx V.b V.d3 (H 2) tb λa=>ly V.d3 V.rg V.bc (a 2) (J 2) λZ=>GL q V Y tg tb H J rc gc Z Z
def NB(V:HV)(H tg tb:ab):aF:=pR "max" V.r V.g V.b V.mx H tg tb λJ=>pR "min" V.r V.g V.b V.mn H tg tb λH=>im V.mx V.mn V.rg (J 2) (H 2) λY=>oe V.mn V.mx true (H 2) (J 2) λ_=> .nil
abbrev kA(f:af)(V:HV)(H tg tb:ab):Code:=nc (.call (.ref f) ⟨[.float V.r H, .float V.g tg, .float V.b tb],[]⟩)
abbrev xj:UInt64:=nc (4602678819172646912)
abbrev ZL:=n7 "float.__le__"
def GM(q:Nat)(V:HV)(Y tg tb:ab)(J H:Nat->Nat):aF:=im V.mx V.r V.d1 (J 2) Y λa=>ly V.d1 V.rg V.rc (a 2) (H 2) λrc=>im V.mx V.g V.d2 (J 2) tg λa=>ly V.d2 V.rg V.gc (a 2) (H 2) λgc=>im V.mx V.b V.d3 (J 2) tb λa=>ly V.d3 V.rg V.bc (a 2) (H 2) λZ=>GL q V Y tg tb J H rc gc Z Z
def vm(q:Nat)(lo:Bool)(V:HV)(Y tg tb:ab):aF:=pR "max" V.r V.g V.b V.mx Y tg tb λH=>pR "min" V.r V.g V.b V.mn Y tg tb λZ=>Cw V.mx V.mn V.sm (H 2) (Z 2) λsm=>im V.mx V.mn V.rg (H 2) (Z 2) λJ=>ly V.sm jo V.l (sm 2) (J 1+1) λl=>oe V.mn V.mx false (Z 2) (H 2) λe=>ZL V.l xj lo (l 2) (e 1) λe=>
  bif lo then ly V.rg V.sm V.s (J 2) (sm 2) λ_=>GM q V Y tg tb H J else im jo V.mx V.n1 (e 1) (H 2) λa=>im V.n1 V.mn V.n2 (a 2) (Z 2) λa=>ly V.rg V.n2 V.s (J 2) (a 2) λ_=>GM q V Y tg tb H J
def NC(V:HV)(J tg tb:ab):aF:=pR "max" V.r V.g V.b V.mx J tg tb λH=>pR "min" V.r V.g V.b V.mn J tg tb λJ=>Cw V.mx V.mn V.sm (H 2) (J 2) λsm=>im V.mx V.mn V.rg (H 2) (J 2) λY=>ly V.sm jo V.l (sm 2) (Y 1+1) λl=>oe V.mn V.mx true (J 2) (H 2) λe=> .nil
structure RV where
 h:UInt64
 s:UInt64
 v:UInt64
 m1:UInt64
 f:UInt64
 a1:UInt64
 p:UInt64
 a2:UInt64
 a3:UInt64
 q:UInt64
 a4:UInt64
 a5:UInt64
 a6:UInt64
 t:UInt64
abbrev qP(V:RV)(H Y J:ab):Code:=nc (.call (.ref 189) ⟨[.float V.h H, .float V.s Y, .float V.v J],[]⟩)
def NF(V:RV)(H:ab)(tk:Nat):aF:=oe V.s 0 true H (tk+3) λ_=> .nil
abbrev zz(x:UInt64)(i:Int)(t:ab)(next:aM):aF:=cM "float.__int__" [.float x t] (λk=> .int i k) next
abbrev NG(x:UInt64)(i:Int)(r:UInt64)(t u:ab)(next:aM):aF:=cM "float.__sub__" [.float x t, .int i u] (λk=> .float r k) next
def vn(i:Nat)(V:RV)(Y H J:ab)(tk:Nat):aF:=oe V.s 0 false H (tk+3) λe=>vk V.h kx V.m1 Y (e 1) λm=>zz V.m1 i (m 2) λj=>vk V.h kx V.m1 Y (j 1+1) λm=>NG V.m1 i V.f (m 2) (j 2) λf=>im e6 V.s V.a1 (f 1+1) H λa=>vk V.v V.a1 V.p J (a 2) λp=>vk V.s V.f V.a2 H (f 2) λa=>im e6 V.a2 V.a3 (p 1+1) (a 2) λa=>vk V.v V.a3 V.q J (a 2) λq=>im e6 V.f V.a4 (q 1+2) (f 2) λa=>vk V.s V.a4 V.a5 H (a 2) λa=>im e6 V.a5 V.a6 (q 1+1) (a 2) λa=>vk V.v V.a6 V.t J (a 2) λt=> .nil
abbrev ZM(a b c:UInt64)(t u v:ab):Obj:=nc (⟨.type "tuple",none, .seq #[.float a t, .float b u, .float c v] 0,#[]⟩)
def cR(a b c:UInt64):(Nat->Nat)->Out:=λx=>⟨.ok (.ret (.ref (x 2))),[],[(x 2,ZM a b c (x 3) (x 4) (x 5))],x 0,x 1⟩
noncomputable def iP(k n:Nat)(ta tb tc:ab)(H:Xs):Nat->Nat
 |0=>H k 0+1|1=>H k 1+n|2=>H k 0|3=>ta|4=>tb|_=>tc
def qQ(q:Nat):List Nat:=match q with
 |0=>(dN 13 0x1084211082108821)|_=>(dN 17 0x108421108210882208821)
def GN:List Nat:=(dN 64 0x10421088220842110441084220882108441088210842108821084410840008441084000042108421)
def ZN:List Nat:=(dN 36 0x88210842108821084410840008441084000042108421)
def xk(H:Bool):List Nat:=bif H then(dN 72 0x104210882208421104410842208821084410882208421104211042108821084410840008441084000042108421)else(dN 75 0x821084411042108822084211044108422104410882208421104211042108821084410840008441084000042108421)
def ZO:List Nat:=(dN 42 0x2208421104211042108821084410840008441084000042108421)
def xl(i:Nat):List Nat:=(dN 58 0x210800108442108210842210821084221042108822084200080000041000410042108421)++((List.replicate (i+1) [0,0,1]).flatten++[1,1])
def ZP:List Nat:=(dN 13 0x1084410042108421)
def iQ(w:aj)(H:List Nat)(J:aF)(c:bB)(sz tk:Nat)(Y:Xs):=(aI w 5 0 none 600).C [] Y ⟨[],sz,tk,H,J⟩ c fin
section
variable (w:aj)(V:HV)(W:RV)(t u v:ab)(sz tk:Nat)(σ:Xs)
theorem ZQ:Ends [0] (iQ w ZN (NB V t u v) (kA 182 V t u v) sz tk σ) (bX (cR 0 0 V.mx (iP 3 2 (σ 3 1) (σ 3 1+1) (σ 0 2) σ))):=by revert w;refine bW (λw=>?_) (λw=>?_)<;>kernel_rfl
theorem ZR:Ends [0] (iQ w (GN++qQ 0) (Cy 0 V t u v) (kA 182 V t u v) sz tk σ) (bX (cR V.h V.s V.mx (iP 14 1 (σ 14 2) (σ 4 2) (σ 0 2) σ))):=by revert w;refine bW (λw=>?_) (λw=>?_)<;>kernel_rfl
theorem ZS:Ends [0] (iQ w (GN++qQ 1) (Cy 1 V t u v) (kA 182 V t u v) sz tk σ) (bX (cR V.h V.s V.mx (iP 16 1 (σ 16 2) (σ 4 2) (σ 0 2) σ))):=by revert w;refine bW (λw=>?_) (λw=>?_)<;>kernel_rfl
theorem ZT:Ends [0] (iQ w (GN++qQ 2) (Cy 2 V t u v) (kA 182 V t u v) sz tk σ) (bX (cR V.h V.s V.mx (iP 16 1 (σ 16 2) (σ 4 2) (σ 0 2) σ))):=by revert w;refine bW (λw=>?_) (λw=>?_)<;>kernel_rfl
theorem ZU:Ends [0] (iQ w ZO (NC V t u v) (kA 175 V t u v) sz tk σ) (bX (cR 0 V.l 0 (iP 5 2 (σ 5 1) (σ 4 2) (σ 5 1+1) σ))):=by revert w;refine bW (λw=>?_) (λw=>?_)<;>kernel_rfl
theorem ZV:Ends [0] (iQ w (xk true++qQ 0) (vm 0 true V t u v) (kA 175 V t u v) sz tk σ) (bX (cR V.h V.l V.s (iP 17 1 (σ 17 2) (σ 4 2) (σ 7 2) σ))):=by revert w;refine bW (λw=>?_) (λw=>?_)<;>kernel_rfl
theorem ZW:Ends [0] (iQ w (xk false++qQ 0) (vm 0 false V t u v) (kA 175 V t u v) sz tk σ) (bX (cR V.h V.l V.s (iP 19 1 (σ 19 2) (σ 4 2) (σ 9 2) σ))):=by revert w;refine bW (λw=>?_) (λw=>?_)<;>kernel_rfl
theorem ZX:Ends [0] (iQ w (xk true++qQ 1) (vm 1 true V t u v) (kA 175 V t u v) sz tk σ) (bX (cR V.h V.l V.s (iP 19 1 (σ 19 2) (σ 4 2) (σ 7 2) σ))):=by revert w;refine bW (λw=>?_) (λw=>?_)<;>kernel_rfl
theorem ZY:Ends [0] (iQ w (xk false++qQ 1) (vm 1 false V t u v) (kA 175 V t u v) sz tk σ) (bX (cR V.h V.l V.s (iP 21 1 (σ 21 2) (σ 4 2) (σ 9 2) σ))):=by revert w;refine bW (λw=>?_) (λw=>?_)<;>kernel_rfl
theorem ZZ:Ends [0] (iQ w (xk true++qQ 2) (vm 2 true V t u v) (kA 175 V t u v) sz tk σ) (bX (cR V.h V.l V.s (iP 19 1 (σ 19 2) (σ 4 2) (σ 7 2) σ))):=by revert w;refine bW (λw=>?_) (λw=>?_)<;>kernel_rfl
theorem Z0:Ends [0] (iQ w (xk false++qQ 2) (vm 2 false V t u v) (kA 175 V t u v) sz tk σ) (bX (cR V.h V.l V.s (iP 21 1 (σ 21 2) (σ 4 2) (σ 9 2) σ))):=by revert w;refine bW (λw=>?_) (λw=>?_)<;>kernel_rfl
theorem Z1:Ends [0] (iQ w ZP (NF W u tk) (qP W t u v) sz tk σ) (bX (cR W.v W.v W.v (iP 0 0 v v v σ))):=by revert w;refine bW (λw=>?_) (λw=>?_)<;>kernel_rfl
theorem Z2:Ends [0] (iQ w (xl 0) (vn 0 W t u v tk) (qP W t u v) sz tk σ) (bX (cR W.v W.t W.p (iP 13 5 v (σ 13 2) (σ 6 2) σ))):=by revert w;refine bW (λw=>?_) (λw=>?_)<;>kernel_rfl
theorem Z3:Ends [0] (iQ w (xl 1) (vn 1 W t u v tk) (qP W t u v) sz tk σ) (bX (cR W.q W.v W.p (iP 13 6 (σ 9 2) v (σ 6 2) σ))):=by revert w;refine bW (λw=>?_) (λw=>?_)<;>kernel_rfl
theorem Z4:Ends [0] (iQ w (xl 2) (vn 2 W t u v tk) (qP W t u v) sz tk σ) (bX (cR W.p W.v W.t (iP 13 7 (σ 6 2) v (σ 13 2) σ))):=by revert w;refine bW (λw=>?_) (λw=>?_)<;>kernel_rfl
theorem Z5:Ends [0] (iQ w (xl 3) (vn 3 W t u v tk) (qP W t u v) sz tk σ) (bX (cR W.p W.q W.v (iP 13 8 (σ 6 2) (σ 9 2) v σ))):=by revert w;refine bW (λw=>?_) (λw=>?_)<;>kernel_rfl
theorem Z6:Ends [0] (iQ w (xl 4) (vn 4 W t u v tk) (qP W t u v) sz tk σ) (bX (cR W.t W.p W.v (iP 13 9 (σ 13 2) (σ 6 2) v σ))):=by revert w;refine bW (λw=>?_) (λw=>?_)<;>kernel_rfl
theorem Z7:Ends [0] (iQ w (xl 5) (vn 5 W t u v tk) (qP W t u v) sz tk σ) (bX (cR W.v W.p W.q (iP 13 10 v (σ 6 2) (σ 9 2) σ))):=by revert w;refine bW (λw=>?_) (λw=>?_)<;>kernel_rfl
end
noncomputable abbrev iR(a b:UInt64):Bool:=kX a b==some .eq
structure vo(q:Nat)(V:HV):Prop where
 mx:fM V.r V.g V.b=V.mx
 mn:iN V.r V.g V.b=V.mn
 rg:gX V.mx V.mn=V.rg
 ne:iR V.mn V.mx=false
 rz:kZ V.rg=false
 d1:gX V.mx V.r=V.d1
 d2:gX V.mx V.g=V.d2
 d3:gX V.mx V.b=V.d3
 rc:gY V.d1 V.rg=V.rc
 gc:gY V.d2 V.rg=V.gc
 bc:gY V.d3 V.rg=V.bc
 h1:gY V.h0 kx=V.h1
 h:(WI V.h1 e6).2=V.h
 way:(q=0/\iR V.r V.mx=true/\gX V.bc V.gc=V.h0)\/(q=1/\iR V.r V.mx=false/\iR V.g V.mx=true/\uH jo V.rc=V.k/\gX V.k V.bc=V.h0)\/
  (q=2/\iR V.r V.mx=false/\iR V.g V.mx=false/\uH Cu V.gc=V.k/\gX V.k V.rc=V.h0)
section
variable (XK:aK w aa)(NL:aa.NoLimit)(V:HV)(t u v:ab)(W:RV)
theorem GO:kZ kx=false:=by decide+kernel
theorem Cz:kZ e6=false:=by decide+kernel
theorem NH:kZ jo=false:=by decide+kernel
theorem Z8{q:Nat}{V:HV}(H:vo q V){J tg:ab}{mx Y rc Z bc la:Nat->Nat}:(GL q V J tg tb mx Y rc Z bc la).Ok ao (av w) A U none aa lv:=by
 rcases H.way with ⟨rfl,a,b⟩|⟨rfl,a,b,c,d⟩|⟨rfl,a,b,c,d⟩
 ·exact n8 a λz z=>jP b λz z=>oa GO H.h1 λz z=>Cp Cz H.h λz z=>True.intro
 ·exact n8 a λz z=>n8 b λz z=>zw c λz z=>jP d λz z=>oa GO H.h1 λz z=>Cp Cz H.h λz z=>True.intro
 ·exact n8 a λz z=>n8 b λz z=>zw c λz z=>jP d λz z=>oa GO H.h1 λz z=>Cp Cz H.h λz z=>True.intro
theorem GP{q:Nat}{V:HV}(H:vo q V){J tg:ab}{Z Y:Nat->Nat}:(GM q V J tg tb Z Y).Ok ao (av w) A U none aa lv:=jP H.d1 λz z=>oa H.rz H.rc λz z=>jP H.d2 λz z=>oa H.rz H.gc λz z=>jP H.d3 λz z=>oa H.rz H.bc λz z=>Z8 H
include XK NL in
theorem CA{a b c m:UInt64}{t u v:ab}{next:aM}(h:fM a b c=m)(k:bJ next ao w A U none aa):(pR "max" a b c m t u v next).Ok ao (av w) A U none aa lv:=by subst h;exact⟨rfl,bN,ZJ XK NL a b c t u v,λx z z=>k x _⟩
include XK NL in
theorem CB{a b c m:UInt64}{t u v:ab}{next:aM}(h:iN a b c=m)(k:bJ next ao w A U none aa):(pR "min" a b c m t u v next).Ok ao (av w) A U none aa lv:=by subst h;exact⟨rfl,bN,ZK XK NL a b c t u v,λx z z=>k x _⟩
include XK NL
theorem Z9{q:Nat}(H:vo q V)(Z:kZ V.mx=false)(hs:gY V.rg V.mx=V.s):Any ao w aa 5 (kA 182 V t u v) [] (cR V.h V.s V.mx):=by
 have Y:∀(J:aD),(Cy q V t u v).Ok ao _ J J.units none aa []:=λJ=>
  CA XK NL H.mx λmx z=>CB XK NL H.mn λmn z=>jP H.rg λrg z=>n8 H.ne λz z=>oa Z hs λz z=>GP H;rcases H.way with ⟨rfl,j⟩|⟨rfl,j⟩|⟨rfl,j⟩
 ·exact bS XK NL 600 _ [0] _ (by decide) _ (λz=>rfl) (λJ z z z z=>Y J) λsz tk H=>ZR ..
 ·exact bS XK NL 600 _ [0] _ (by decide) _ (λz=>rfl) (λJ z z z z=>Y J) λsz tk H=>ZS ..
 ·exact bS XK NL 600 _ [0] _ (by decide) _ (λz=>rfl) (λJ z z z z=>Y J) λsz tk H=>ZT ..
theorem aAa(Y:fM V.r V.g V.b=V.mx)(H:iN V.r V.g V.b=V.mn)(Z:iR V.mn V.mx=true)(J:gX V.mx V.mn=V.rg):Any ao w aa 5 (kA 182 V t u v) [] (cR 0 0 V.mx):=bS XK NL 600 _ [0] (λz z=>NB ..) (by decide) _ (λz=>rfl) (λA' z z z z=>CA XK NL Y λY z=>CB XK NL H λH z=>jP J λH z=>n8 Z λz z=>True.intro) λsz tk H=>ZQ ..
theorem aAb{q:Nat}{Z:Bool}(H:vo q V)(h1:uH V.mx V.mn=V.sm)(h2:gY V.sm jo=V.l)(h3:(kX V.l xj==some .lt||kX V.l xj==some .eq)=Z)(h4:Z=true->kZ V.sm=false/\gY V.rg V.sm=V.s)(h5:Z=false->gX jo V.mx=V.n1/\gX V.n1 V.mn=V.n2/\kZ V.n2=false/\gY V.rg V.n2=V.s):Any ao w aa 5 (kA 175 V t u v) [] (cR V.h V.l V.s):=by
 have Y:∀(J:aD),(vm q Z V t u v).Ok ao _ J J.units none aa []:=λJ=>by
  refine CA XK NL H.mx λmx z=>CB XK NL H.mn λmn z=>zw h1 λsm z=>jP H.rg λrg z=>oa NH h2 λz z=>n8 H.ne λz z=>ZA h3 λz z=>?_;induction Z with
  |true=>exact oa (h4 rfl).1 (h4 rfl).2 λz z=>GP H|false=>exact jP (h5 rfl).1 λz z=>jP (h5 rfl).2.1 λz z=>oa (h5 rfl).2.2.1 (h5 rfl).2.2.2 λz z=>GP H
 rcases H.way with ⟨rfl,j⟩|⟨rfl,j⟩|⟨rfl,j⟩<;>induction Z
 ·exact bS XK NL 600 _ [0] _ (by decide) _ (λz=>rfl) (λJ z z z z=>Y J) λsz tk H=>ZW ..
 ·exact bS XK NL 600 _ [0] _ (by decide) _ (λz=>rfl) (λJ z z z z=>Y J) λsz tk H=>ZV ..
 ·exact bS XK NL 600 _ [0] _ (by decide) _ (λz=>rfl) (λJ z z z z=>Y J) λsz tk H=>ZY ..
 ·exact bS XK NL 600 _ [0] _ (by decide) _ (λz=>rfl) (λJ z z z z=>Y J) λsz tk H=>ZX ..
 ·exact bS XK NL 600 _ [0] _ (by decide) _ (λz=>rfl) (λJ z z z z=>Y J) λsz tk H=>Z0 ..
 ·exact bS XK NL 600 _ [0] _ (by decide) _ (λz=>rfl) (λJ z z z z=>Y J) λsz tk H=>ZZ ..
theorem aAc(Z:fM V.r V.g V.b=V.mx)(J:iN V.r V.g V.b=V.mn)(h3:iR V.mn V.mx=true)(Y:gX V.mx V.mn=V.rg)(h5:uH V.mx V.mn=V.sm)(H:gY V.sm jo=V.l):Any ao w aa 5 (kA 175 V t u v) [] (cR 0 V.l 0):=bS XK NL 600 _ [0] (λz z=>NC ..) (by decide) _ (λz=>rfl) (λA' z z z z=>CA XK NL Z λZ z=>CB XK NL J λJ z=>zw h5 λz z=>jP Y λJ z=>oa NH H λz z=>n8 h3 λz z=>True.intro) λsz tk H=>ZU ..
end
structure NI(i:Nat)(V:RV):Prop where
 nz:iR V.s 0=false
 m1:iJ V.h kx=V.m1
 int:∃sg m e,BC V.m1= .fin sg m e/\BD sg m e=(i:Int)
 f:gX V.m1 (d7 i)=V.f
 a1:gX e6 V.s=V.a1
 p:iJ V.v V.a1=V.p
 a2:iJ V.s V.f=V.a2
 a3:gX e6 V.a2=V.a3
 q:iJ V.v V.a3=V.q
 a4:gX e6 V.f=V.a4
 a5:iJ V.s V.a4=V.a5
 a6:gX e6 V.a5=V.a6
 t:iJ V.v V.a6=V.t
def NJ(i:Nat)(V:RV):(Nat->Nat)->Out:=match i with
 |0=>cR V.v V.t V.p|1=>cR V.q V.v V.p|2=>cR V.p V.v V.t|3=>cR V.p V.q V.v|4=>cR V.t V.p V.v|_=>cR V.v V.p V.q
section
theorem aAd{x:UInt64}{i:Int}{next:aM}(h:∃J m e,BC x= .fin J m e/\BD J m e=i)(k:bJ next ao w A U none aa):(zz x i t next).Ok ao (av w) A U none aa lv:=by refine mY h λJ m e Y H=>?_;subst H;exact dZ (λz=>eO aUt aUu (aUv _) (aUw t Y) (λs=>rfl) λQ s k=>k _ _) λe z=>k e lv
theorem aAe{x r:UInt64}{i:Int}{next:aM}(H:lh (d7 i)=false)(h:gX x (d7 i)=r)(k:bJ next ao w A U none aa):(NG x i r t u next).Ok ao (av w) A U none aa lv:=by subst h;exact dZ (λz=>eO aUm aUn (aUo _ _) (aYz x t i u (by refine rR H ?_;decide)) (λs=>rfl) λQ s k=>k _ _) λe z=>k e lv
variable (XK:aK w aa)(NL:aa.NoLimit)(V:RV)(t u v:ab)
include XK NL
theorem aAf(h:iR V.s 0=true):Any ao w aa 5 (qP V t u v) [] (cR V.v V.v V.v):=bS XK NL 600 _ [0] (λz tk=>NF ..) (by decide) _ (λz=>rfl) (λH z z z z=>n8 h λz z=>True.intro) λsz tk H=>Z1 ..
theorem aAg{i:Nat}(Z:i< 6)(H:NI i V):Any ao w aa 5 (qP V t u v) [] (NJ i V):=by
 have zl:lh (d7 i)=false:=by rcases i with _|_|_|_|_|_|i<;>first|decide+kernel|exact absurd Z (dA.mpr (dG ..))
 have Y:∀(J:aD)tk,(vn i V t u v tk).Ok ao (av w) J J.units none aa []:=λJ tk=>
  n8 H.nz λz z=>sO H.m1 λz z=>aAd H.int λz z=>sO H.m1 λz z=>aAe zl H.f λz z=>jP H.a1 λz z=>sO H.p λz z=>sO H.a2 λz z=>jP H.a3 λz z=>sO H.q λz z=>jP H.a4 λz z=>sO H.a5 λz z=>jP H.a6 λz z=>sO H.t λz z=>True.intro;rcases i with _|_|_|_|_|_|i
 ·exact bS XK NL 600 _ [0] _ (by decide) _ (λz=>rfl) (λJ z z z z=>Y J _) λsz tk H=>Z2 ..
 ·exact bS XK NL 600 _ [0] _ (by decide) _ (λz=>rfl) (λJ z z z z=>Y J _) λsz tk H=>Z3 ..
 ·exact bS XK NL 600 _ [0] _ (by decide) _ (λz=>rfl) (λJ z z z z=>Y J _) λsz tk H=>Z4 ..
 ·exact bS XK NL 600 _ [0] _ (by decide) _ (λz=>rfl) (λJ z z z z=>Y J _) λsz tk H=>Z5 ..
 ·exact bS XK NL 600 _ [0] _ (by decide) _ (λz=>rfl) (λJ z z z z=>Y J _) λsz tk H=>Z6 ..
 ·exact bS XK NL 600 _ [0] _ (by decide) _ (λz=>rfl) (λJ z z z z=>Y J _) λsz tk H=>Z7 ..
 ·exact absurd Z (dA.mpr (dG ..))
end
section
open PySem PySem.Float64
set_option exponentiation.threshold 3000
noncomputable def N(k:Nat)(n:Int):Int:=n*2 ^ (1074 - k)
theorem CC{n:Int}(hn:n.natAbs< 2 ^ 53)(H:k<=1000):Rep (N k n):=Gq hn (fA [lE Y1 1000,eQ (Y0+Y1) 1074] (lE 52 Y0) [1,-1] 1 rfl H (bY (bu [lE Y0 1000] (lE Y0 1074) rfl H))) (aT [eQ (Y0+Y1) 1074] (lE Y0 1200) rfl (bY (bu [lE Y0 1000] (lE Y0 1074) rfl H)))
theorem NK(k:Nat)(a b:Int):N k a+N k b=N k (a+b):=(Wn ..).symm
theorem NM(k:Nat)(a b:Int):N k a - N k b=N k (a - b):=(Int.sub_mul ..).symm
theorem sR{k:Nat}(i:Nat)(a:Int)(h:k+i<=1074):N k a=N (k+i) (a*2 ^ i):=by unfold N;exact rR (pk ..) (rL (wO ..) (rR (YN h ..) rfl))
theorem og(h:0<=a):0<=N k a:=ma h (gm (r7 (by decide)))
theorem vp{k:Nat}{a:Int}(h:0< a):0< N k a:=WK h (r7 (by decide))
theorem CD:N k a<=N k b ↔ a<=b:=Int.mul_le_mul_right (r7 (by decide))
theorem zA:N k a=N k b ↔ a=b:=Int.mul_eq_mul_right_iff (nM (r7 (by decide)))
theorem zB{x:UInt64}(Y:Is x (N k a))(J:Is y (N k b))(h:(a+b).natAbs< 2 ^ 53)(H:k<=1000):Is (uH x y) (N k (a+b)):=rL (NK ..) (Y.add J (rR (NK ..) (CC h H)))
theorem m5{x:UInt64}(Y:Is x (N k a))(J:Is y (N k b))(h:(a - b).natAbs< 2 ^ 53)(H:k<=1000):Is (gX x y) (N k (a - b)):=rL (NM ..) (Y.sub J (rR (NM ..) (CC h H)))
theorem qR{x:UInt64}(hx:Is x (N j a))(Z:Is y (N k b))(J:0<=a)(Y:0<=b)(h:(a*b).natAbs< 2 ^ 53)(H:j+k<=1000):Is (iJ x y) (N (j+k) (a*b)):=by refine hx.mul Z (og J) (og Y) (og (ma J Y)) (CC h H) ?_;unfold N;exact rR (pk ..) (rR (WL (2 ^ _) ..) (rL (pk ..) (rR (pk (a*b) ..) (rL (wO ..) (rL (wO ..) (rR (YM (aE H (by decide)) ..) rfl))))))
theorem zC{x:UInt64}{m:Nat}{c:Int}(hx:Is x (N k a))(Y:Is y (N k b))(J:0<=a)(Z:0< b)(hc:0<=c)(h:c.natAbs< 2 ^ 53)(H:m<=1000)(e:a*2 ^ m=b*c):Is (gY x y) (N m c):=by
 refine hx.div Y (og J) (vp Z) (og hc) (CC h H) ?_;unfold N;have J:(2:Int) ^ 1074=2 ^ m*2 ^ (1074 - m):=by rw[<-wO,show m+(1074 - m)=1074 from c8 (aT [eQ (Y1+Y0) 1074] (lE (Y0+Y1) 1074) rfl (bY (bu [lE Y0 1000] (lE Y0 1074) rfl H))) (fA [eQ (Y1+Y0) 1074] (lE 1074 (Y0+Y1)) [-1] 1 rfl (bY (bu [lE Y0 1000] (lE Y0 1074) rfl H)))]
 simp only[J,pk,WL (2 ^ (1074 - k)),<-pk a,e,pk b c,pk b _,WL (2 ^ _) c]
theorem GQ{x:UInt64}(H:Is x a)(J:Is y b):pP x y=decide (b< a):=by
 unfold pP;refine rR (H.cmp J) ?_;rcases L1 a b with h|h|h
 ·rw[show compare a b= .lt from L2.mpr h];simp;exact bR [lL Y0 Y1] (lE Y0 Y1) rfl h
 ·rw[show compare a b= .eq from L5.mpr h];simp;exact bR [eQ Y0 Y1] (lE Y0 Y1) rfl h
 ·rw[show compare a b= .gt from FC.mpr h];simp;exact bR [lL Y0 Y1] (lL Y0 Y1) rfl h
theorem GR{x:UInt64}(H:Is x a)(J:Is y b):pQ x y=decide (a< b):=by
 unfold pQ;refine rR (H.cmp J) ?_;rcases L1 a b with h|h|h
 ·rw[show compare a b= .lt from L2.mpr h];simp;exact bR [lL Y0 Y1] (lL Y0 Y1) rfl h
 ·rw[show compare a b= .eq from L5.mpr h];simp;exact cP [eQ Y1 Y0] (lE Y0 Y1) [-1] 1 rfl h
 ·rw[show compare a b= .gt from FC.mpr h];simp;exact bR [lL Y0 Y1] (lE Y0 Y1) rfl h
theorem vq{x:UInt64}(H:Is x a)(J:Is y b):iR x y=decide (a=b):=by
 unfold iR;refine rR (H.cmp J) ?_;rcases L1 a b with h|h|h
 ·rw[show compare a b= .lt from L2.mpr h];simp;exact Wh (bR [lL Y0 Y1] (lL Y0 Y1) rfl h)
 ·rw[show compare a b= .eq from L5.mpr h];simp;exact bw (bR [eQ Y0 Y1] (lE Y0 Y1) rfl h) (cP [eQ Y1 Y0] (lE Y0 Y1) [-1] 1 rfl h)
 ·rw[show compare a b= .gt from FC.mpr h];simp;exact nM (bR [lL Y0 Y1] (lL Y0 Y1) rfl h)
theorem GS{x z:UInt64}{c m:Int}(hx:Is x a)(Z:Is y b)(Y:Is z c)(h:(m=a\/m=b\/m=c)/\a<=m/\b<=m/\c<=m):Is (fM x y z) m:=by
 refine zh h λJ h1 h2 h3=>?_;unfold fM;rw[GQ Z hx];by_cases H:a< b
 ·rw[if_pos (by simpa using H),GQ Y Z];by_cases e2:b< c
  ·rw[if_pos (by simpa using e2)];have:m=c:=M3 J (gm (L6 H e2)) (gm e2) (fx _) h3;exact this▸Y
  ·rw[if_neg (by simpa using e2)];have:m=b:=M3 J (gm H) (fx _) (fH.mp e2) h2;exact this▸Z
 ·rw[if_neg (by simpa using H),GQ Y hx];by_cases e2:a< c
  ·rw[if_pos (by simpa using e2)];have:m=c:=M3 J (gm e2) (kW (fH.mp H) (gm e2)) (fx _) h3;exact this▸Y
  ·rw[if_neg (by simpa using e2)];have:m=a:=M3 J (fx _) (fH.mp H) (fH.mp e2) h1;exact this▸hx
theorem GT{x z:UInt64}{c m:Int}(Z:Is x a)(Y:Is y b)(J:Is z c)(h:(m=a\/m=b\/m=c)/\m<=a/\m<=b/\m<=c):Is (iN x y z) m:=by
 unfold iN;rw[GR Y Z];by_cases H:b< a
 ·rw[if_pos (by simpa using H),GR J Y];by_cases e2:c< b
  ·rw[if_pos (by simpa using e2)];have:m=c:=m3 h.1 (gm (L6 e2 H)) (gm e2) (fx _) h.2.2.2;exact this▸J
  ·rw[if_neg (by simpa using e2)];have:m=b:=m3 h.1 (gm H) (fx _) (fH.mp e2) h.2.2.1;exact this▸Y
 ·rw[if_neg (by simpa using H),GR J Z];by_cases e2:c< a
  ·rw[if_pos (by simpa using e2)];have:m=c:=m3 h.1 (gm e2) (kW (gm e2) (fH.mp H)) (fx _) h.2.2.2;exact this▸J
  ·rw[if_neg (by simpa using e2)];have:m=a:=m3 h.1 (fx _) (fH.mp H) (fH.mp e2) h.2.1;exact this▸Z
noncomputable def jQ(x:UInt64)(z:Int):Bool:=decide (x.toNat % 2 ^ 63< infMag) && (x==pack (decide (z< 0)) (x.toNat % 2 ^ 63) && V (x.toNat % 2 ^ 63)==z.natAbs)
theorem mw{x:UInt64}(h:jQ x z=true):Is x z:=by unfold jQ at h;rw[gy,gy,decide_eq_true_eq,beq_iff_eq,beq_iff_eq]at h;exact⟨_,h.1,h.2.1,h.2.2⟩
theorem aAh:Is kx (N 0 6):=mw (by decide+kernel)
theorem aAi:Is jo (N 0 2):=mw (by decide+kernel)
theorem aAj:Is Cu (N 0 4):=mw (by decide+kernel)
theorem xm:Is 0 0:=mw (by decide+kernel)
def wt(H:Int)(P:Nat):Int:=max 0 (min 32 (64 - min (3*(P:Int) - H).natAbs (192 - (3*(P:Int) - H).natAbs)))
def q3(P:Nat):Nat:=if wt 0 P=32 then 0 else if wt 64 P=32 then 1 else 2
def qS(P:Nat):Int:=match q3 P with
 |0=>wt 64 P - wt 128 P|1=>64+wt 128 P - wt 0 P|_=>128+wt 0 P - wt 64 P
theorem aAk:∀P< 64,jQ (ofFrac (decide (qS P< 0)) (qS P).natAbs 32) (qS P*2 ^ 1069)=true/\jQ (divmod (div (ofFrac (decide (qS P< 0)) (qS P).natAbs 32) kx) e6).2 ((P:Int)*2 ^ 1068)=true:=by decide+kernel
theorem aAl:∀n< 128,jQ (ofFrac false n 64) ((n:Int)*2 ^ 1068)=true/\jQ (divmod (ofFrac false n 64) e6).2 (((n % 64:Nat):Int)*2 ^ 1068)=true:=by decide+kernel
theorem zD:∀P< 64,(wt 0 P=32\/wt 64 P=32\/wt 128 P=32)/\(wt 0 P=0\/wt 64 P=0\/wt 128 P=0)/\(0<=wt 0 P/\wt 0 P<=32)/\(0<=wt 64 P/\wt 64 P<=32)/\(0<=wt 128 P/\wt 128 P<=32):=by decide+kernel
def six(i:Nat)(fr:Int):Int×Int×Int:=nc (match i with
 |0=>(32,fr,0)|1=>(32 - fr,32,0)|2=>(0,32,fr)|3=>(0,32 - fr,32)|4=>(fr,0,32)|_=>(32,0,32 - fr))
theorem aAm:∀P< 64,3*P / 32< 6/\six (3*P / 32) ((3*P % 32:Nat):Int)=(wt 0 P,wt 64 P,wt 128 P):=by decide+kernel
theorem N6(P:Nat):N (6+0) ((P:Int)*6)/ 2 ^ 1074=((3*P / 32:Nat):Int):=by show _*6*2 ^ 1068 / 2 ^ 1074=_;exact rR (show(2:Int) ^ 1074=64*2 ^ 1068 from wO 2 6 1068) (rR (aT7 _ _ (r7 (by decide))) (congrArg mh (show P*6 / 64=_ by exact rR (show P*6=2*_ from rR (dW ..) (rL (ja ..) rfl)) (Nat.mul_div_mul_left _ 32 (by decide)))))
theorem aAn{x:Nat}(Y:B<=256)(h:x<=B*256):16384*B - 32*x<=4194304/\32*x<=16384*B - 32*x/\16384*B - 32*x+32*x<=4194304:=by have h':=dW B 256▸h;have H:=nA [x,B] [lE Y0 (.m 256 Y1)] (lE ((Ax.m 32 Y0)+(Ax.m 32 Y0)) (Ax.m 16384 Y1)) [64] 1 rfl h';have J:=dU 16384 Y;exact⟨aE (nL ..) J,Nat.le_sub_of_add_le H,aE (qu (bY (aE (dG ..) H))) J⟩
theorem aAo{x:Nat}(h:x<=B*256):8192*(B:Int)+(8192*(B:Int) - 32*(x:Int))=((16384*B - 32*x:Nat):Int):=by have h':=dW B 256▸h;refine rR (pi (nA [x,B] [lE Y0 (.m 256 Y1)] (lE (.m 32 Y0) (.m 16384 Y1)) [64] 2 rfl h') ..) (rL (aTx ..) (rL (Wn ..) ?_));rfl
end
section
open PySem PySem.Float64
set_option exponentiation.threshold 3000
noncomputable def Li(B F w:Int):Int:=B*(32*(256 - F)+F*w)
theorem vv(B F w:Int):Li B F w=8192*B - 32*(B*F)+B*F*w:=by unfold Li;grind
structure d9(P:Nat)(F B:Int)(r g b:UInt64):Prop where
 r:Is r (N 21 (Li B F (wt 0 P)))
 g:Is g (N 21 (Li B F (wt 64 P)))
 b:Is b (N 21 (Li B F (wt 128 P)))
def pS(q:Nat)(r g b:UInt64)(s:UInt64):HV:=let H:=fM r g b
 let J:=iN r g b
 let Y:=sub H J
 let rc:=div (sub H r) Y
 let Z:=div (sub H g) Y
 let bc:=div (sub H b) Y
 let k:=if q=1 then add jo rc else add Cu Z
 let h0:=if q=0 then sub bc Z else if q=1 then sub k bc else sub k rc
 let n1:=sub jo H
 ⟨r,g,b,H,J,Y,s,sub H r,sub H g,sub H b,rc,Z,bc,k,h0,div h0 kx,(divmod (div h0 kx) e6).2,add H J,div (add H J) jo,n1,sub n1 J⟩
theorem my{x y X Y:Int}(Z:0<=x)(J:x<=X)(H:0<=y)(h3:y<=Y):0<=x*y/\x*y<=X*Y:=⟨ma Z H,L7 J h3 H (kW Z J)⟩
theorem m6{x:UInt64}{n:Int}(h:jQ x (n*2 ^ j)=true)(e:j=1074 - k):Is x (N k n):=by subst e;exact mw h
theorem NO{P:Nat}{F B:Int}{r g b:UInt64}(s:UInt64)(hP:P< 64)(hF:0< F)(cg:F<=256)(hB:0< B)(bF:B<=256)(C:d9 P F B r g b):vo (q3 P) (pS (q3 P) r g b s)/\Is (pS (q3 P) r g b s).mx (N 21 (8192*B))/\Is (pS (q3 P) r g b s).mn (N 21 (8192*B - 32*(B*F)))/\Is (pS (q3 P) r g b s).rg (N 21 (32*(B*F)))/\Is (pS (q3 P) r g b s).h (N 6 P):=by
 refine hO λci aY=>Yz (zD P hP) λw1 w2 z1 z2 c0 c1=>?_;obtain⟨a0,a1⟩:=z1;obtain⟨b0,b1⟩:=z2;obtain⟨J,A1⟩:=my (gm hB) bF (gm hF) cg;refine aY ?_;have A0:=WK hB hF;obtain⟨Cr,Cg,Cb⟩:=C;rw[vv]at Cr Cg Cb;have q:=aAk P hP;have hq:q3 P=if wt 0 P=32 then 0 else if wt 64 P=32 then 1 else 2:=rfl
 have hh:qS P=(match q3 P with
  |0=>wt 64 P - wt 128 P|1=>64+wt 128 P - wt 0 P|_=>128+wt 0 P - wt 64 P):=rfl;have H:B*F*32=32*_:=fk _ _;have Y:B*F*0=0:=yN _;generalize wt 0 P=x at*;generalize wt 64 P=y at*;generalize wt 128 P=z at*;generalize B*F=A at*;obtain⟨p0,p1⟩:=my J A1 a0 a1;obtain⟨r0,r1⟩:=my J A1 b0 b1;obtain⟨s0,s1⟩:=my J A1 c0 c1;have u1:=H▸FE a1 J;have u2:=H▸FE b1 J;have u3:=H▸FE c1 J;have Z:Is _ (N 21 (8192*B)):=GS Cr Cg Cb (by
  simp only[CD,zA];refine⟨?_,hH [lE Y2 (Ax.m 32 Y1)] (lE ((Ax.m 8192 Y0)-(Ax.m 32 Y1)+Y2) (Ax.m 8192 Y0)) rfl u1,hH [lE Y2 (Ax.m 32 Y1)] (lE ((Ax.m 8192 Y0)-(Ax.m 32 Y1)+Y2) (Ax.m 8192 Y0)) rfl u2,hH [lE Y2 (Ax.m 32 Y1)] (lE ((Ax.m 8192 Y0)-(Ax.m 32 Y1)+Y2) (Ax.m 8192 Y0)) rfl u3⟩;rcases w1 with h|h|h
  ·rw[h];left;exact bw (jO [eQ Y2 (Ax.m 32 Y1)] (lE (Ax.m 8192 Y0) ((Ax.m 8192 Y0)-(Ax.m 32 Y1)+Y2)) [-1] 1 rfl H) (hH [eQ Y2 (Ax.m 32 Y1)] (lE ((Ax.m 8192 Y0)-(Ax.m 32 Y1)+Y2) (Ax.m 8192 Y0)) rfl H)
  ·rw[h];right;left;exact bw (jO [eQ Y2 (Ax.m 32 Y1)] (lE (Ax.m 8192 Y0) ((Ax.m 8192 Y0)-(Ax.m 32 Y1)+Y2)) [-1] 1 rfl H) (hH [eQ Y2 (Ax.m 32 Y1)] (lE ((Ax.m 8192 Y0)-(Ax.m 32 Y1)+Y2) (Ax.m 8192 Y0)) rfl H)
  ·rw[h];right;right;exact bw (jO [eQ Y2 (Ax.m 32 Y1)] (lE (Ax.m 8192 Y0) ((Ax.m 8192 Y0)-(Ax.m 32 Y1)+Y2)) [-1] 1 rfl H) (hH [eQ Y2 (Ax.m 32 Y1)] (lE ((Ax.m 8192 Y0)-(Ax.m 32 Y1)+Y2) (Ax.m 8192 Y0)) rfl H));have mn:Is _ (N 21 (8192*B - 32*A)):=GT Cr Cg Cb (by
  simp only[CD,zA];refine⟨?_,hH [lE 0 Y2] (lE ((Ax.m 8192 Y0)-(Ax.m 32 Y1)) ((Ax.m 8192 Y0)-(Ax.m 32 Y1)+Y2)) rfl p0,hH [lE 0 Y2] (lE ((Ax.m 8192 Y0)-(Ax.m 32 Y1)) ((Ax.m 8192 Y0)-(Ax.m 32 Y1)+Y2)) rfl r0,hH [lE 0 Y2] (lE ((Ax.m 8192 Y0)-(Ax.m 32 Y1)) ((Ax.m 8192 Y0)-(Ax.m 32 Y1)+Y2)) rfl s0⟩;rcases w2 with h|h|h
  ·rw[h];left;exact bw (jO [eQ Y2 0] (lE ((Ax.m 8192 Y0)-(Ax.m 32 Y1)) ((Ax.m 8192 Y0)-(Ax.m 32 Y1)+Y2)) [-1] 1 rfl Y) (hH [eQ Y2 0] (lE ((Ax.m 8192 Y0)-(Ax.m 32 Y1)+Y2) ((Ax.m 8192 Y0)-(Ax.m 32 Y1))) rfl Y)
  ·rw[h];right;left;exact bw (jO [eQ Y2 0] (lE ((Ax.m 8192 Y0)-(Ax.m 32 Y1)) ((Ax.m 8192 Y0)-(Ax.m 32 Y1)+Y2)) [-1] 1 rfl Y) (hH [eQ Y2 0] (lE ((Ax.m 8192 Y0)-(Ax.m 32 Y1)+Y2) ((Ax.m 8192 Y0)-(Ax.m 32 Y1))) rfl Y)
  ·rw[h];right;right;exact bw (jO [eQ Y2 0] (lE ((Ax.m 8192 Y0)-(Ax.m 32 Y1)) ((Ax.m 8192 Y0)-(Ax.m 32 Y1)+Y2)) [-1] 1 rfl Y) (hH [eQ Y2 0] (lE ((Ax.m 8192 Y0)-(Ax.m 32 Y1)+Y2) ((Ax.m 8192 Y0)-(Ax.m 32 Y1))) rfl Y));have rg:Is (sub (fM r g b) (iN r g b)) (N 21 (32*A)):=by
  have:=m5 Z mn (ij (cP [lE 0 Y1] (lE 0 ((Ax.m 8192 Y0)-((Ax.m 8192 Y0)-(Ax.m 32 Y1)))) [32] 1 rfl J) (cP [lE Y1 (Ax.m 256 256)] (lE ((Ax.m 8192 Y0)-((Ax.m 8192 Y0)-(Ax.m 32 Y1))) 100000000) [32] 1 rfl A1)) (by decide);rwa [show 8192*B - (8192*B - 32*A)=32*A from bw (bR [] (lE ((Ax.m 8192 Y0)-((Ax.m 8192 Y0)-(Ax.m 32 Y1))) (Ax.m 32 Y1)) rfl) (bR [] (lE (Ax.m 32 Y0) ((Ax.m 8192 Y1)-((Ax.m 8192 Y1)-(Ax.m 32 Y0)))) rfl)]at this
 have dd:∀{v:UInt64}{t:Int},Is v (N 21 (8192*B - 32*A+A*t))->0<=t->t<=32->0<=A*t->A*t<=32*A->Is (sub (fM r g b) v) (N 21 (A*(32 - t)))/\Is (div (sub (fM r g b) v) (sub (fM r g b) (iN r g b))) (N 5 (32 - t)):=by
  intro v t hv t0 t1 t2 t3;have e1:8192*B - (8192*B - 32*A+A*t)=A*(32 - t):=by grind
  have d:Is (sub (fM r g b) v) (N 21 (A*(32 - t))):=by have:=m5 Z hv (ij (hH [lE Y2 (Ax.m 32 Y1)] (lE 0 ((Ax.m 8192 Y0)-((Ax.m 8192 Y0)-(Ax.m 32 Y1)+Y2))) rfl t3) (jO [lE Y1 (Ax.m 256 256),lE 0 Y2] (lE ((Ax.m 8192 Y0)-((Ax.m 8192 Y0)-(Ax.m 32 Y1)+Y2)) 100000000) [32,1] 1 rfl A1 t2)) (by decide);rwa [e1]at this
  exact⟨d,zC d rg (ma J (bf [lE Y0 32] (lE 0 (32-Y0)) rfl t1)) (g9 [lL 0 Y0] (lL 0 (.m 32 Y0)) [32] 1 rfl A0) (bf [lE Y0 32] (lE 0 (32-Y0)) rfl t1) (ij (bf [lE Y0 32] (lE 0 (32-Y0)) rfl t1) (bf [lE 0 Y0] (lE (32-Y0) 100000000) rfl t0)) (by decide) (by grind)⟩
 obtain⟨J,rc⟩:=dd Cr a0 a1 p0 u1;refine d8 (dd Cg b0 b1 r0 u2) λJ gc=>?_;obtain⟨J,bc⟩:=dd Cb c0 c1 s0 u3;have up:∀{x:UInt64}{n:Int},Is x _->Is x (N 5 (n*2 ^ 5)):=λh=>rL (sR 5 _ (by decide)) h;have h0:Is (pS (q3 P) r g b s).h0 (N 5 (qS P)):=by
  have hc:q3 P=0\/q3 P=1\/q3 P=2:=by refine rR hq ?_;split;exact .inl rfl;split;exact .inr (.inl rfl);exact .inr (.inr rfl)
  rcases hc with h|h|h<;>refine rR hh (rR h ?_)
  ·have:=m5 bc gc (m4 (bR [lE 0 Y1,lE Y0 32] (lE (0-9007199254740991) (32-Y0-(32-Y1))) rfl b0 c1) (bR [lE Y1 32,lE 0 Y0] (lE (32-Y0-(32-Y1)) 9007199254740991) rfl b1 c0)) (by decide);rwa [show 32 - z - (32 - y)=y - z from bw (bR [] (lE (32-Y0-(32-Y1)) (Y1-Y0)) rfl) (bR [] (lE (Y0-Y1) (32-Y1-(32-Y0))) rfl)]at this
  ·have k:=zB (up aAi) rc (m4 (bf [lE Y0 32] (lE (0-9007199254740991) ((Ax.m 2 32)+(32-Y0))) rfl a1) (bf [lE 0 Y0] (lE ((Ax.m 2 32)+(32-Y0)) 9007199254740991) rfl a0)) (by decide);have:=m5 k bc (m4 (bR [lE Y0 32,lE 0 Y1] (lE (0-9007199254740991) ((Ax.m 2 32)+(32-Y0)-(32-Y1))) rfl a1 c0) (bR [lE 0 Y0,lE Y1 32] (lE ((Ax.m 2 32)+(32-Y0)-(32-Y1)) 9007199254740991) rfl a0 c1)) (by decide);rwa [show(2*2 ^ 5+(32 - x) - (32 - z):Int)=64+z - x from bw (bR [] (lE ((Ax.m 2 32)+(32-Y0)-(32-Y1)) (64+Y1-Y0)) rfl) (bR [] (lE (64+Y0-Y1) ((Ax.m 2 32)+(32-Y1)-(32-Y0))) rfl)]at this
  ·have k:=zB (up aAj) gc (m4 (bf [lE Y0 32] (lE (0-9007199254740991) ((Ax.m 4 32)+(32-Y0))) rfl b1) (bf [lE 0 Y0] (lE ((Ax.m 4 32)+(32-Y0)) 9007199254740991) rfl b0)) (by decide);have:=m5 k rc (m4 (bR [lE 0 Y1,lE Y0 32] (lE (0-9007199254740991) ((Ax.m 4 32)+(32-Y0)-(32-Y1))) rfl a0 b1) (bR [lE Y1 32,lE 0 Y0] (lE ((Ax.m 4 32)+(32-Y0)-(32-Y1)) 9007199254740991) rfl a1 b0)) (by decide);rwa [show(4*2 ^ 5+(32 - y) - (32 - x):Int)=128+x - y from bw (bR [] (lE ((Ax.m 4 32)+(32-Y0)-(32-Y1)) (128+Y1-Y0)) rfl) (bR [] (lE (128+Y0-Y1) ((Ax.m 4 32)+(32-Y1)-(32-Y0))) rfl)]at this
 have hz:Is (pS (q3 P) r g b s).h (N 6 P):=by show Is (divmod (div (pS _ r g b s).h0 kx) e6).2 _;exact rR (h0.inj (m6 q.1 rfl)) (m6 q.2 rfl)
 refine⟨⟨rfl,rfl,rfl,?_,rg.isZero (by have:=@vp 21 _ (g9 [lL 0 Y0] (lL 0 (.m 32 Y0)) [32] 1 rfl A0);exact nM (bf [lL 0 Y0] (lL 0 Y0) rfl this)),rfl,rfl,rfl,rfl,rfl,rfl,rfl,rfl,?_⟩,Z,mn,rg,hz⟩
 ·show iR (iN ..) (fM ..)=false;rw[vq mn Z,decide_eq_false_iff_not,zA];exact Wh (cP [lL 0 Y1] (lL ((Ax.m 8192 Y0)-(Ax.m 32 Y1)) (Ax.m 8192 Y0)) [32] 1 rfl A0)
 ·have er:iR r (fM r g b)=decide (x=32):=by
   rw[vq Cr Z];refine decide_eq_decide.mpr (zA.trans ⟨λh=>?_,λh=>rR h (bw (hH [eQ Y2 (Ax.m 32 Y1)] (lE ((Ax.m 8192 Y0)-(Ax.m 32 Y1)+Y2) (Ax.m 8192 Y0)) rfl H) (jO [eQ Y2 (Ax.m 32 Y1)] (lE (Ax.m 8192 Y0) ((Ax.m 8192 Y0)-(Ax.m 32 Y1)+Y2)) [-1] 1 rfl H))⟩);have h2:A*(32 - x)=0:=by grind
   rcases aUx.mp h2 with h|h<;>omega
  have eg:iR g (fM r g b)=decide (y=32):=by
   rw[vq Cg Z];refine decide_eq_decide.mpr (zA.trans ⟨λh=>?_,λh=>rR h (bw (hH [eQ Y2 (Ax.m 32 Y1)] (lE ((Ax.m 8192 Y0)-(Ax.m 32 Y1)+Y2) (Ax.m 8192 Y0)) rfl H) (jO [eQ Y2 (Ax.m 32 Y1)] (lE (Ax.m 8192 Y0) ((Ax.m 8192 Y0)-(Ax.m 32 Y1)+Y2)) [-1] 1 rfl H))⟩);have h2:A*(32 - y)=0:=by grind
   rcases aUx.mp h2 with h|h<;>omega
  refine rR hq ?_;by_cases hx:x=32
  ·rw[if_pos hx];exact .inl ⟨rfl,er.trans (by simp[hx]),rfl⟩
  ·rw[if_neg hx];by_cases hy:y=32
   ·rw[if_pos hy];exact .inr (.inl ⟨rfl,er.trans (by simp[hx]),eg.trans (by simp[hy]),rfl,rfl⟩)
   ·rw[if_neg hy];exact .inr (.inr ⟨rfl,er.trans (by simp[hx]),eg.trans (by simp[hy]),rfl,rfl⟩)
end
section
open PySem PySem.Float64
set_option maxHeartbeats 1000000
set_option exponentiation.threshold 3000
theorem aAp{P:Nat}{F B:Int}{r g b:UInt64}(hP:P< 64)(J:0< F)(cg:F<=256)(Y:0< B)(bF:B<=256)(C:d9 P F B r g b):∃V:HV,V.r=r/\V.g=g/\V.b=b/\vo (q3 P) V/\kZ V.mx=false/\gY V.rg V.mx=V.s/\Is V.h (N 6 P)/\Is V.s (N 8 F)/\Is V.mx (N 8 B):=by
 refine hO λci aY=>?_;obtain⟨H,Z,mn,rg,h⟩:=NO (div _ (fM ..)) hP J cg Y bF C;refine aY ⟨_,rfl,rfl,rfl,H,Z.isZero ?_,rfl,h,?_,?_⟩
 ·have:=@vp 21 _ (g9 [lL 0 Y0] (lL 0 (.m 8192 Y0)) [8192] 1 rfl Y);exact nM (bf [lL 0 Y0] (lL 0 Y0) rfl this)
 ·exact zC rg Z (by have:=WK Y J;exact g9 [lL 0 Y0] (lE 0 (.m 32 Y0)) [32] 1 rfl this) (g9 [lL 0 Y0] (lL 0 (.m 8192 Y0)) [8192] 1 rfl Y) (bf [lL 0 Y0] (lE 0 Y0) rfl J) (ij (bf [lL 0 Y0] (lE 0 Y0) rfl J) (bf [lE Y0 256] (lE Y0 100000000) rfl cg)) (by decide) (by grind)
 ·simp only[@sR 8 13 B (by decide),show B*2 ^ 13=8192*B from bw (bR [eQ Y0 (Ax.m 8192 Y1)] (lE Y0 (Ax.m 8192 Y1)) rfl (fk (B) _)) (cP [eQ Y1 (Ax.m 8192 Y0)] (lE (Ax.m 8192 Y0) Y1) [-1] 1 rfl (fk (B) _))];exact Z
theorem aAq:Is e6 (N 8 256):=mw (by decide+kernel)
theorem NP:Is e6 (N 13 8192):=mw (by decide+kernel)
theorem aAr:Is e6 (N 5 32):=mw (by decide+kernel)
theorem aAs:∀i< 6,jQ (ofInt ((i:Nat):Int)) ((i:Int)*2 ^ 1074)=true:=by decide+kernel
def CE(h s v:UInt64)(i:Nat):RV:=let Z:=mul h kx
 let f:=sub Z (ofInt i)
 let J:=sub e6 s
 let Y:=mul s f
 let a3:=sub e6 Y
 let H:=sub e6 f
 let a5:=mul s H
 let a6:=sub e6 a5
 ⟨h,s,v,Z,f,J,mul v J,Y,a3,mul v a3,H,a5,a6,mul v a6⟩
theorem aAt{P:Nat}{F B:Int}{h s v:UInt64}(hP:P< 64)(Y:0< F)(cg:F<=256)(hB:0<=B)(bF:B<=256)(Ch:Is h (N 6 P))(Cs:Is s (N 8 F))(Cv:Is v (N 8 B)):∃V:RV,V.h=h/\V.s=s/\V.v=v/\3*P / 32< 6/\NI (3*P / 32) V/\∃r' g' b',NJ (3*P / 32) V=cR r' g' b'/\d9 P F B r' g' b':=by
 refine d8 (aAm P hP) λhi hs=>?_;have m1:=qR Ch aAh ((bG _)) (iB [] [] (lE 0 6) rfl) (m4 (iA [_,(P:Nat)] [eQ Y0 (Ax.m 6 Y1),lE 0 Y1] (lE (0-9007199254740991) Y0) [-1,6] 1 rfl (fk (↑P) _) (bG _)) (iA [_,(P:Nat)] [lL Y1 64,eQ Y0 (Ax.m 6 Y1)] (lE Y0 9007199254740991) [6,1] 1 rfl (cc.mpr hP) (fk (↑P) _))) (dG ..);generalize jp:3*P % 32=fr at*;have Z:3*P=32*(3*P / 32)+fr:=c8 (lr [eQ Y3 Y2,eQ (Y3+(Ax.m 32 Y1)) (Ax.m 3 Y0)] (lE (Ax.m 3 Y0) ((Ax.m 32 Y1)+Y2)) [1,-1] 1 rfl jp (aUy _ _)) (lr [eQ Y3 Y1,eQ (Y3+(Ax.m 32 Y0)) (Ax.m 3 Y2)] (lE ((Ax.m 32 Y0)+Y1) (Ax.m 3 Y2)) [-1,1] 1 rfl jp (aUy _ _));generalize CG:3*P / 32=i at*;have sT:=fA [eQ Y1 Y0,lL Y1 32] (lL Y0 32) [-1,1] 1 rfl jp (uM _ (by decide));have f:Is (sub (mul h kx) (ofInt (i:Int))) (N 5 (fr:Int)):=by have:=m5 m1 (rL (sR 6 _ (by decide)) (m6 (aAs _ hi) rfl)) (m4 (iA [_,_,(P:Nat),(i:Nat),(fr:Nat)] [eQ (Ax.m 3 Y2) ((Ax.m 32 Y3)+Y4),eQ Y0 (Ax.m 6 Y2),eQ Y1 (Ax.m 64 Y3),lE 0 Y4] (lE (0-9007199254740991) (Y0-Y1)) [-2,-1,1,2] 1 rfl (congrArg mh Z) (fk (↑P) _) (fk (↑i) _) (bG _)) (iA [_,_,(P:Nat),(i:Nat),(fr:Nat)] [eQ (Ax.m 3 Y2) ((Ax.m 32 Y3)+Y4),lL Y4 32,eQ Y0 (Ax.m 6 Y2),eQ Y1 (Ax.m 64 Y3)] (lE (Y0-Y1) 9007199254740991) [2,2,1,-1] 1 rfl (congrArg mh Z) (cc.mpr sT) (fk (↑P) _) (fk (↑i) _))) (by decide);rw[@sR 5 1 _ (by decide)];rwa [show _*6 - _*2 ^ 6=(fr:Int)*2 ^ 1 from bw (iA [_,_,_,(P:Nat),(i:Nat),(fr:Nat)] [eQ (Ax.m 3 Y3) ((Ax.m 32 Y4)+Y5),eQ Y0 (Ax.m 6 Y3),eQ Y1 (Ax.m 64 Y4),eQ Y2 (Ax.m 2 Y5)] (lE (Y0-Y1) Y2) [2,1,-1,-1] 1 rfl (congrArg mh Z) (fk (↑P) _) (fk (↑i) _) (fk (↑fr) _)) (iA [_,_,_,(P:Nat),(i:Nat),(fr:Nat)] [eQ (Ax.m 3 Y3) ((Ax.m 32 Y4)+Y5),eQ Y0 (Ax.m 2 Y5),eQ Y1 (Ax.m 6 Y3),eQ Y2 (Ax.m 64 Y4)] (lE Y0 (Y1-Y2)) [-2,1,-1,1] 1 rfl (congrArg mh Z) (fk (↑fr) _) (fk (↑P) _) (fk (↑i) _))]at this
 have a1:Is (sub e6 s) (N 8 (256 - F)):=by exact m5 aAq Cs (ij (bf [lE Y0 256] (lE 0 (256-Y0)) rfl cg) (bf [lL 0 Y0] (lE (256-Y0) 100000000) rfl Y)) (by decide)
 have a2:=qR Cs f (bf [lL 0 Y0] (lE 0 Y0) rfl Y) ((bG _)) (by have:=my (gm Y) cg (bG fr) (show _<=32 by exact iB [(fr:Nat)] [lL Y0 32] (lE Y0 32) rfl (cc.mpr sT));exact ij (this.1) (bf [lE Y0 (Ax.m 256 32)] (lE Y0 100000000) rfl this.2)) (by decide);have b2:=my (gm Y) cg (bG fr) (show _<=32 by exact iB [(fr:Nat)] [lL Y0 32] (lE Y0 32) rfl (cc.mpr sT));have Z:=my (gm Y) cg (show(0:Int)<=32 - fr by exact iB [(fr:Nat)] [lL Y0 32] (lE 0 (32-Y0)) rfl (cc.mpr sT)) (show(32:Int) - fr<=32 by exact iB [(fr:Nat)] [lE 0 Y0] (lE (32-Y0) 32) rfl (bG _));have a5:=qR Cs (m5 aAr f (ij (iB [(fr:Nat)] [lL Y0 32] (lE 0 (32-Y0)) rfl (cc.mpr sT)) (iB [(fr:Nat)] [lE 0 Y0] (lE (32-Y0) 100000000) rfl (bG _))) (by decide)) (bf [lL 0 Y0] (lE 0 Y0) rfl Y) (iB [(fr:Nat)] [lL Y0 32] (lE 0 (32-Y0)) rfl (cc.mpr sT)) (ij (Z.1) (bf [lE Y0 (Ax.m 256 32)] (lE Y0 100000000) rfl Z.2)) (by decide);have c1:=my hB bF (show 0<=256 - F by exact bf [lE Y0 256] (lE 0 (256-Y0)) rfl cg) (show 256 - F<=256 by exact bf [lL 0 Y0] (lE (256-Y0) 256) rfl Y);have c3:=my hB bF (show 0<=8192 - F*fr by exact bf [lE Y0 (.m 256 32)] (lE 0 (8192-Y0)) rfl b2.2) (show 8192 - F*fr<=8192 by exact bf [lE 0 Y0] (lE (8192-Y0) 8192) rfl b2.1);have c6:=my hB bF (show 0<=8192 - F*_ by exact bf [lE Y0 (.m 256 32)] (lE 0 (8192-Y0)) rfl Z.2) (show 8192 - F*_<=8192 by exact bf [lE 0 Y0] (lE (8192-Y0) 8192) rfl Z.1);have p:=qR Cv a1 hB (bf [lE Y0 256] (lE 0 (256-Y0)) rfl cg) (ij (c1.1) (bf [lE Y0 (Ax.m 256 256)] (lE Y0 100000000) rfl c1.2)) (by decide);have q:=qR Cv (m5 NP a2 (ij (bf [lE Y0 (Ax.m 256 32)] (lE 0 (8192-Y0)) rfl b2.2) (bf [lE 0 Y0] (lE (8192-Y0) 100000000) rfl b2.1)) (by decide)) hB (bf [lE Y0 (.m 256 32)] (lE 0 (8192-Y0)) rfl b2.2) (ij (c3.1) (bf [lE Y0 (Ax.m 256 8192)] (lE Y0 100000000) rfl c3.2)) (by decide);have t:=qR Cv (m5 NP a5 (ij (bf [lE Y0 (Ax.m 256 32)] (lE 0 (8192-Y0)) rfl Z.2) (bf [lE 0 Y0] (lE (8192-Y0) 100000000) rfl Z.1)) (by decide)) hB (bf [lE Y0 (.m 256 32)] (lE 0 (8192-Y0)) rfl Z.2) (ij (c6.1) (bf [lE Y0 (Ax.m 256 8192)] (lE Y0 100000000) rfl c6.2)) (by decide);have Lv:Is v (N 21 (Li B F 32)):=by have e:=@sR 8 13 B (by decide);exact rR (show Li B F 32=B*2 ^ 13 from by unfold Li;grind) (rL e Cv)
 have Lp:Is (CE h s v i).p (N 21 (Li B F 0)):=by have e:=@sR 16 5 (B*(256 - F)) (by decide);exact rR (show Li B F 0=B*_*2 ^ 5 from by unfold Li;grind) (rL e p)
 have Lq:Is (CE h s v i).q (N 21 (Li B F (32 - fr))):=by exact rR (show Li B F _=B*_ from by unfold Li;grind) q
 have Lt:Is (CE h s v i).t (N 21 (Li B F fr)):=by exact rR (show Li B F fr=B*_ from by unfold Li;grind) t
 refine⟨CE ..,rfl,rfl,rfl,hi,⟨?_,rfl,?_,rfl,rfl,rfl,rfl,rfl,rfl,rfl,rfl,rfl,rfl⟩,?_⟩
 ·show iR s 0=false;rw[vq Cs xm,decide_eq_false_iff_not];have:=@vp 8 F Y;exact nM (bf [lL 0 Y0] (lL 0 Y0) rfl this)
 ·refine mY (m1.int (og (iA [_,(P:Nat)] [eQ Y0 (Ax.m 6 Y1),lE 0 Y1] (lE 0 Y0) [-1,6] 1 rfl (fk (↑P) _) (bG _)))) λZ m e Y hv=>⟨Z,m,e,Y,hv.trans ?_⟩;exact(N6 P).trans (congrArg mh CG)
 ·have mB:∀x y z,six i _=(x,y,z)->wt 0 P=x/\wt 64 P=y/\wt 128 P=z:=λx y z h=>by rw[h]at hs;simp only[se]at hs;exact⟨hs.1.symm,hs.2.1.symm,hs.2.2.symm⟩
  rcases i with _|_|_|_|_|_|i
  ·exact cJ (mB _ _ _ rfl) λH e2 J=>⟨_,_,_,rfl,⟨H▸Lv,e2▸Lt,J▸Lp⟩⟩
  ·exact cJ (mB _ _ _ rfl) λH e2 J=>⟨_,_,_,rfl,⟨H▸Lq,e2▸Lv,J▸Lp⟩⟩
  ·exact cJ (mB _ _ _ rfl) λH e2 J=>⟨_,_,_,rfl,⟨by refine rR H ?_;exact Lp,e2▸Lv,J▸Lt⟩⟩
  ·exact cJ (mB _ _ _ rfl) λH e2 J=>⟨_,_,_,rfl,⟨by refine rR H ?_;exact Lp,e2▸Lq,J▸Lv⟩⟩
  ·exact cJ (mB _ _ _ rfl) λH e2 J=>⟨_,_,_,rfl,⟨H▸Lt,e2▸Lp,J▸Lv⟩⟩
  ·exact cJ (mB _ _ _ rfl) λH e2 J=>⟨_,_,_,rfl,⟨H▸Lv,e2▸Lp,J▸Lq⟩⟩
  ·exact absurd hi (dA.mpr (dG ..))
end
section
open PySem PySem.Float64
set_option exponentiation.threshold 3000
set_option maxHeartbeats 1000000
theorem NQ(hn:n< 2 ^ 53)(J:52<=j)(H:j<=1200):∃t,t< infMag/\V t=n*2 ^ j:=by refine aO (@Gq (n:Int) j hn J H) λt J H=>⟨t,J,H.trans ?_⟩;rfl
theorem aAu{W D t u:Nat}(h:dist W (D*V t)<=dist W (D*V u))(hu:D*V u<=W):D*V u<=D*V t:=nB [_,_,_,_,_,_,_] [lE (Y2+Y3) (Y4+Y5),lE Y6 (Y2+Y1),eQ (Y4+Y0) Y6,eQ Y5 0] (lE Y0 Y1) rfl h (Nat.le_add_of_sub_le (a8 _)) (bY (hu)) (BM (hu))
theorem aAv{J H Y:Nat}(h:dist J Y<=dist J H)(a:H< Y)(b:J<=H):False:=jI 0 (lr [lL Y0 Y1,lE Y2 Y0,eQ (Y3+Y1) Y2] (lL 0 0) [1,1,1] 0 rfl a b (bY (nA [_,_,_,_,_,_,_] [lE (Y2+Y3) (Y4+Y5),lL Y6 Y0,eQ Y2 0,eQ (Y3+Y1) Y0,eQ Y4 0,eQ (Y5+Y1) Y6] (lE Y0 Y1) [1,1,-1,-1,1,1] 0 rfl h a (BM (b8 [lL Y2 Y1,lE Y0 Y2] (lE Y0 Y1) rfl a b)) (bY (b8 [lL Y2 Y1,lE Y0 Y2] (lE Y0 Y1) rfl a b)) (BM (b)) (bY (b)))))
theorem aAw{p q M:Nat}(h:1024*p< M)(H:q< 2 ^ 23):p*2 ^ 34<=M*2 ^ 24 - q:=nA [_,_,_,_,_,_] [lL (Ax.m 1024 Y2) Y3,lL Y4 8388608,eQ Y0 (Ax.m 17179869184 Y2),eQ (Y1+Y4) Y5,eQ Y5 (Ax.m 16777216 Y3)] (lE Y0 Y1) [16777216,1,1,-1,-1] 1 rfl h H (dW (p) _) (bY (lr [lL (Ax.m 1024 Y2) Y3,lL Y0 8388608,eQ Y1 (Ax.m 16777216 Y3)] (lE Y0 Y1) [16777216,1,-1] 1 rfl h H (dW (M) _))) (dW (M) _)
theorem NR{x:UInt64}{p q:Nat}(hx:Is x (N 21 p))(hy:Is y (N 21 q))(hp:0< p)(zE:p<=q)(hq:q< 2 ^ 23):∃z:Int,Is (gY x y) z/\0< z/\Is (iJ (gY x y) (ofInt 1024)) (z*1024)/\z*1024 / 2 ^ 1074=((1024*p / q:Nat):Int):=by
 refine hO λci aY=>c7 hx.dec λm e1 dx e=>c7 hy.dec λk f dy hk=>aY ?_;have CH:=aE hp zE;have Gr:k≠0:=λh=>by have:=@vp 21 _ ((cc.mpr CH));rw[h,BB]at hk;exact aUz 0 (iA [((N 21 ↑q).natAbs:Nat),_] [eQ 0 Y0,lL 0 Y1,eQ Y0 Y1] (lL 0 0) [-1,1,-1] 0 rfl (congrArg mh hk) this (Fu (bf [lL 0 Y0] (lE 0 Y0) rfl this)))
 have R:=div_right dx dy Gr;rw[hx.val,hy.val,pL (og (by exact iB [(p:Nat)] [lL 0 Y0] (lE 0 Y0) rfl (cc.mpr hp))),pL (og (by exact iB [(q:Nat)] [lL 0 Y0] (lE 0 Y0) rfl (cc.mpr CH)))]at R;have e1:(N 21 (p:Int)).natAbs=p*2 ^ 1053:=by rfl
 have e2:(N 21 (q:Int)).natAbs=q*2 ^ 1053:=by rfl
 rw[e1,e2]at R;refine Gk R λt hr ht zl hn=>?_;have Z:0< 2 ^ 1053:=r6 _;generalize hZ:2 ^ 1053=Y at*;have hD:=BN CH Z;have H:2*(p*Y*2 ^ 1074)< q*Y*((2 ^ 54 - 1)*2 ^ 2045):=by have Z:q*Y*(2*2 ^ 1074)< q*Y*((2 ^ 54 - 1)*2 ^ 2045):=Ws (by decide+kernel) hD;rw[Nat.mul_left_comm]at Z;exact iI (dU 2 (jG _ (jG _ zE))) Z
 have bp:t< infMag:=by
  rcases aT2 ht with h|h
  ·exact h
  ·exact absurd H (dA.mpr (zl.mp h))
 have H:=λu=>(hn bp u).1;have W:p*Y*2 ^ 1074=Y*(p*2 ^ 1074):=by rw[dW p Y,ja]
 have Dv:∀v,q*Y*v=Y*_:=λv=>by rw[dW q Y,ja]
 have ge:∀n j:Nat,n< 2 ^ 53->52<=j->j<=1200->q*_<=p*2 ^ 1074->n*2 ^ j<=V t:=λn j h1 h2 h3 h4=>by refine aO (NQ h1 h2 h3) λu e Z=>?_;have:=aAu (H u) (by simp only[Z,Dv,W];exact dU _ h4);rw[Z]at this;exact Nat.le_of_mul_le_mul_left this hD
 have le:∀n j:Nat,n< 2 ^ 53->52<=j->j<=1200->p*2 ^ 1074<=q*_->V t<=n*2 ^ j:=λn j h1 h2 h3 h4=>by
  refine aO (NQ h1 h2 h3) λu e Z=>?_;have h:=H u;rw[Z]at h;rcases WM _ (V t)with h6|h6
  ·have a:=Ws h6 hD;have b:p*Y*2 ^ 1074<=q*Y*_:=rR (Dv ..) (rR W (dU _ h4));exact(aAv h a b).elim
  ·exact h6
 generalize H:1024*p / q=n;have n2:1024*p< q*(n+1):=by have:=Nat.lt_mul_div_succ (1024*p) CH;rw[H]at this;exact this
 have Z:n<=1024:=by exact rL H (WN (rR (dW ..) (jG _ zE)))
 have pT:(2:Nat) ^ 1074=1024*2 ^ 1064:=by decide+kernel
 have lo:=ge n 1064 (iI Z (by decide)) (by decide) (by decide) (by rw[pT,<-ja,<-ja,dW p];exact jG _ (H▸aU0 ..));have H:(2:Nat) ^ 1074=2 ^ 23*2 ^ 1051:=by decide+kernel
 have CI:=ge 1 1051 (by decide) (by decide) (by decide) (by
  simp only[H,<-ja,<-ja];exact jG _ (rR (aU1 ..) (aE (cT hq) (Nat.le_mul_of_pos_left _ hp))));have hi:=le ((n+1)*2 ^ 24 - 1) 1040 (iI (nL ..) (iI (jG _ (si Z)) (by decide))) (by decide) (by decide) (by
  rw[show _ ^ 1074=2 ^ 34*2 ^ 1040 from by decide+kernel,<-ja,<-ja];refine jG _ ?_;simp only[Nat.mul_sub,aU1,((ja ..).symm)];exact aAw n2 hq);refine hO λH H=>Gl (V_form t) λkk J e NS e CJ=>H ?_;have zF:998<=kk:=by
  refine aU2 λh=>?_;have c:J*2 ^ kk<=J*2 ^ 998:=dU _ (FF (by decide) (cT h));have d:J*2 ^ 998< 2 ^ 53*2 ^ 998:=yM NS (r6 _);rw[<-CJ]at c;exact absurd (iI c d) (dA.mpr CI)
 have H:0< J:=by refine L8 λh0=>?_;rw[CJ,h0,BB]at CI;exact absurd CI (by decide+kernel)
 have zG:kk<=1100:=by
  refine aU2 λh=>?_;have b:2 ^ 1100<=2 ^ kk:=FF (by decide) (cT h);have c:1*2 ^ kk<=J*2 ^ kk:=jG _ H;simp only[<-CJ,Fy]at c;have d:2 ^ 50*2 ^ 1040<=2 ^ 1100:=by decide+kernel
  exact absurd (qr (iI (aE c hi) (yM (iI (nL ..) (iI (jG _ (si Z)) (by decide))) (r6 _))) d) (dA.mpr b)
 have CK:Is (gY x y) (V t:Int):=⟨t,bp,by rw[hr,pL (bG _)];rfl,rfl⟩
 have o:Is (ofInt 1024) (N 0 1024):=mw (by decide+kernel);refine⟨V t,CK,?_,?_,?_⟩;·exact Int.natCast_pos.mpr (qr (BN Wu (r6 _)) CI)
 ·refine CK.mul o (bG _) (og (by decide)) (ma (bG _) (by decide)) ?_ ?_
  ·refine rR CJ ?_;have:=@Gq (J:Int) _ NS (aE (aE (by decide:52<=998) zF) (fG ..)) (aE (yR zG 10) (by decide));rw[wO,<-pk]at this;push_cast;exact this
  ·unfold N;rw[<-pk]
 ·have H:(V t:Int)*1024=((V t*1024:Nat):Int):=by push_cast;rfl
  refine rR (H ..) (rR (((Int.natCast_pow 2 1074).symm) ..) (rL (Int.natCast_ediv ..) ?_));congr 1;have J:n*2 ^ 1074<=V t*1024:=by have:=jG 1024 lo;rwa [ja,dW (2 ^ 1064),<-pT]at this
  have H:V t*1024<(n+1)*2 ^ 1074:=by
   have b:((n+1)*2 ^ 24 - 1)*2 ^ 1040*1024< _*2 ^ 24*2 ^ 1040*1024:=yM (yM (Nat.sub_lt (BN (BO n) (r6 _)) (by decide)) (r6 _)) (by decide);have d:(n+1)*2 ^ 24*2 ^ 1040*1024=(n+1)*2 ^ 1074:=by rw[ja,ja]
   simp only[d]at b;exact iI (jG 1024 hi) b
  exact Nat.div_eq_of_lt_le J H
end
section
open PySem PySem.Float64
set_option exponentiation.threshold 3000
set_option maxHeartbeats 1000000
theorem aAx:Is xj (N 22 2097152):=mw (by decide+kernel)
theorem GV:Is jo (N 21 4194304):=mw (by decide+kernel)
theorem aAy{x:UInt64}(H:Is x a)(J:Is y b):(kX x y==some .lt||kX x y==some .eq)=decide (a<=b):=by
 refine rR (H.cmp J) ?_;rcases L1 a b with h|h|h
 ·rw[show compare a b= .lt from L2.mpr h];simp;exact bR [lL Y0 Y1] (lE Y0 Y1) rfl h
 ·rw[show compare a b= .eq from L5.mpr h];simp;exact bR [eQ Y0 Y1] (lE Y0 Y1) rfl h
 ·rw[show compare a b= .gt from FC.mpr h];simp;exact bR [lL Y0 Y1] (lL Y0 Y1) rfl h
noncomputable def Bo(B F:Nat):Nat:=16384*B - 32*(B*F)
theorem aAz{P:Nat}{r g b:UInt64}(hP:P< 64)(hF:0< F)(cg:F<=256)(hB:0< B)(Y:B<=256)(C:d9 P F B r g b):∃(V:HV)(lo:Bool),V.r=r/\V.g=g/\V.b=b/\vo (q3 P) V/\uH V.mx V.mn=V.sm/\gY V.sm jo=V.l/\(kX V.l xj==some .lt||kX V.l xj==some .eq)=lo/\(lo=true->kZ V.sm=false/\gY V.rg V.sm=V.s)/\(lo=false->gX jo V.mx=V.n1/\gX V.n1 V.mn=V.n2/\kZ V.n2=false/\gY V.rg V.n2=V.s)/\Is V.h (N 6 P)/\Is V.l (N 22 (Bo B F))/\∃z:Int,Is V.s z/\0< z/\Is (iJ V.s (ofInt 1024)) (z*1024)/\z*1024 / 2 ^ 1074=((1024*(32*(B*F))/ min (Bo B F) (4194304 - Bo B F):Nat):Int):=by
 have A0:=BN hB hF;have A1:B*F<=B*256:=dU _ cg;have A2:B*F<=256*F:=jG _ Y;have J:Bo B F=16384*B - 32*_:=rfl;have Z:=λs=>NO s hP ((cc.mpr hF):(0:Int)< F) ((bK.mpr cg)) ((cc.mpr hB):(0:Int)< B) ((bK.mpr Y)) C;refine hO λci aY=>qI (Z 0) λv mx mn rg v=>aY ?_;have AA:(B:Int)*(F:Int)=((B*F:Nat):Int):=by push_cast;rfl
 rw[AA]at mn rg;generalize B*F=A at*;have sm:Is (add (fM r g b) (iN r g b)) (N 21 (Bo B F:Nat)):=by have:=zB mx mn (m4 (iA [(B:Nat),(A:Nat),(F:Nat)] [lE Y2 256,lL 0 Y0,lE Y1 (Ax.m 256 Y2)] (lE (0-9007199254740991) ((Ax.m 8192 Y0)+((Ax.m 8192 Y0)-(Ax.m 32 Y1)))) [8192,16384,32] 1 rfl (bK.mpr cg) (cc.mpr hB) (bK.mpr A2)) (iA [(B:Nat),(A:Nat)] [lE Y0 256,lL 0 Y1] (lE ((Ax.m 8192 Y0)+((Ax.m 8192 Y0)-(Ax.m 32 Y1))) 9007199254740991) [16384,32] 1 rfl (bK.mpr Y) (cc.mpr A0))) (by decide);rwa [show 8192*(B:Int)+(8192*(B:Int) - 32*(A:Int))=_ from bw (iA [(B:Nat),(A:Nat),(Bo B F:Nat),(16384*B - 32*A:Nat)] [eQ Y2 Y3,eQ Y3 ((Ax.m 16384 Y0)-(Ax.m 32 Y1))] (lE ((Ax.m 8192 Y0)+((Ax.m 8192 Y0)-(Ax.m 32 Y1))) Y2) [-1,-1] 1 rfl (congrArg mh J) (pi (cA [lE Y0 Y2,eQ Y2 (Ax.m 256 Y1)] (lE (Ax.m 32 Y0) (Ax.m 16384 Y1)) [32,64] 1 rfl A1 (dW (B) _)))) (iB [(Bo B F:Nat),(B:Nat),(A:Nat),(16384*B - 32*A:Nat)] [eQ Y0 Y3,eQ Y3 ((Ax.m 16384 Y1)-(Ax.m 32 Y2))] (lE Y0 ((Ax.m 8192 Y1)+((Ax.m 8192 Y1)-(Ax.m 32 Y2)))) rfl (congrArg mh J) (pi (cA [lE Y0 Y2,eQ Y2 (Ax.m 256 Y1)] (lE (Ax.m 32 Y0) (Ax.m 16384 Y1)) [32,64] 1 rfl A1 (dW (B) _))))]at this
 have l:Is _ (N 22 _):=zC sm GV ((bG _)) (by decide) ((bG _)) (m4 (iB [(Bo B F:Nat)] [lE 0 Y0] (lE (0-9007199254740991) Y0) rfl (bG _)) (iA [(Bo B F:Nat),(B:Nat),(A:Nat),(16384*B - 32*A:Nat)] [lE Y1 256,lL 0 Y2,eQ Y0 Y3,eQ Y3 ((Ax.m 16384 Y1)-(Ax.m 32 Y2))] (lE Y0 9007199254740991) [16384,32,1,1] 1 rfl (bK.mpr Y) (cc.mpr A0) (congrArg mh J) (pi (cA [lE Y0 Y2,eQ Y2 (Ax.m 256 Y1)] (lE (Ax.m 32 Y0) (Ax.m 16384 Y1)) [32,64] 1 rfl A1 (dW (B) _))))) (by decide) (bw (iB [_,(Bo B F:Nat)] [eQ Y0 (Ax.m 4194304 Y1)] (lE Y0 (Ax.m 4194304 Y1)) rfl (fk _ _)) (iA [(Bo B F:Nat),_] [eQ Y1 (Ax.m 4194304 Y0)] (lE (Ax.m 4194304 Y0) Y1) [-1] 1 rfl (fk _ _)));have hle:=aAy l aAx;have NT:Is (sub (fM r g b) (iN r g b)) (N 21 ((32*A:Nat):Int)):=by exact rg
 by_cases pU:Bo B F<=2097152
 ·obtain⟨z,z1,z2,z3,z4⟩:=NR NT sm (qM [lL 0 Y0] (lL 0 (.m 32 Y0)) [32] 1 rfl A0) (nA [_,_,_,_,_] [lE Y0 Y2,eQ Y1 Y3,eQ Y2 (Ax.m 256 Y4),eQ (Y3+(Ax.m 32 Y0)) (Ax.m 16384 Y4)] (lE (Ax.m 32 Y0) Y1) [64,-1,64,-1] 1 rfl A1 J (dW (B) _) (bY (cA [lE Y0 Y2,eQ Y2 (Ax.m 256 Y1)] (lE (Ax.m 32 Y0) (Ax.m 16384 Y1)) [32,64] 1 rfl A1 (dW (B) _)))) (bu [lE Y0 2097152] (lL Y0 8388608) rfl pU);refine hO λkB d5=>?_;obtain⟨H,v,v,v,h⟩:=Z _;refine d5 ⟨_,true,rfl,rfl,rfl,H,rfl,rfl,?_,λj=>⟨?_,rfl⟩,nofun,h,l,z,z1,z2,z3,?_⟩
  ·refine hle.trans ?_;rw[decide_eq_true_eq,CD];exact(bK.mpr pU)
  ·exact sm.isZero (by have:=@vp 21 _ (iA [(Bo B F:Nat),(B:Nat),(A:Nat),(B*256:Nat),(16384*B - 32*A:Nat)] [lL 0 Y1,lE Y2 Y3,eQ Y0 Y4,eQ Y3 (Ax.m 256 Y1),eQ Y4 ((Ax.m 16384 Y1)-(Ax.m 32 Y2))] (lL 0 Y0) [8192,32,-1,32,-1] 1 rfl (cc.mpr hB) (bK.mpr A1) (congrArg mh J) (congrArg mh (dW (B) _)) (pi (cA [lE Y0 Y2,eQ Y2 (Ax.m 256 Y1)] (lE (Ax.m 32 Y0) (Ax.m 16384 Y1)) [32,64] 1 rfl A1 (dW (B) _))));exact nM (bf [lL 0 Y0] (lL 0 Y0) rfl this))
  ·exact rR (show min _ _=Bo B F from c8 (aT [eQ Y0 Y1] (lE Y0 Y1) rfl (rZ (fA [lE Y0 2097152,eQ (Y1+Y0) 4194304] (lE Y0 Y1) [2,-1] 1 rfl pU (bY (bu [lE Y0 2097152] (lE Y0 4194304) rfl pU))))) (fA [eQ Y1 Y0] (lE Y0 Y1) [-1] 1 rfl (rZ (fA [lE Y0 2097152,eQ (Y1+Y0) 4194304] (lE Y0 Y1) [2,-1] 1 rfl pU (bY (bu [lE Y0 2097152] (lE Y0 4194304) rfl pU)))))) z4
 ·have n1:=m5 GV mx (ij (iA [(B:Nat)] [lE Y0 256] (lE 0 (4194304-(Ax.m 8192 Y0))) [8192] 1 rfl (bK.mpr Y)) (iA [(B:Nat)] [lL 0 Y0] (lE (4194304-(Ax.m 8192 Y0)) 100000000) [8192] 1 rfl (cc.mpr hB))) (by decide);have n2:Is (sub (sub jo (fM r g b)) (iN r g b)) (N 21 ((4194304 - Bo B F:Nat):Int)):=by have:=m5 n1 mn (m4 (iA [(B:Nat),(A:Nat)] [lE Y0 256,lL 0 Y1] (lE (0-9007199254740991) (4194304-(Ax.m 8192 Y0)-((Ax.m 8192 Y0)-(Ax.m 32 Y1)))) [16384,32] 1 rfl (bK.mpr Y) (cc.mpr A0)) (iA [(B:Nat),(A:Nat),(F:Nat)] [lE Y2 256,lL 0 Y0,lE Y1 (Ax.m 256 Y2)] (lE (4194304-(Ax.m 8192 Y0)-((Ax.m 8192 Y0)-(Ax.m 32 Y1))) 9007199254740991) [8192,16384,32] 1 rfl (bK.mpr cg) (cc.mpr hB) (bK.mpr A2))) (by decide);rwa [show(4194304 - 8192*(B:Int) - (8192*(B:Int) - 32*(A:Int)))=_ from bw (iA [(B:Nat),(A:Nat),(4194304 - Bo B F:Nat),(Bo B F:Nat),(16384*B - 32*A:Nat)] [eQ Y3 Y4,eQ Y2 (4194304-Y3),eQ Y4 ((Ax.m 16384 Y0)-(Ax.m 32 Y1))] (lE (4194304-(Ax.m 8192 Y0)-((Ax.m 8192 Y0)-(Ax.m 32 Y1))) Y2) [1,-1,1] 1 rfl (congrArg mh J) (pi (cA [lE Y1 256,eQ Y0 Y2,lE Y2 (Ax.m 16384 Y1)] (lE Y0 4194304) [16384,1,1] 1 rfl Y J (nL _ _))) (pi (cA [lE Y0 Y2,eQ Y2 (Ax.m 256 Y1)] (lE (Ax.m 32 Y0) (Ax.m 16384 Y1)) [32,64] 1 rfl A1 (dW (B) _)))) (iA [(4194304 - Bo B F:Nat),(B:Nat),(A:Nat),(Bo B F:Nat),(16384*B - 32*A:Nat)] [eQ Y3 Y4,eQ Y0 (4194304-Y3),eQ Y4 ((Ax.m 16384 Y1)-(Ax.m 32 Y2))] (lE Y0 (4194304-(Ax.m 8192 Y1)-((Ax.m 8192 Y1)-(Ax.m 32 Y2)))) [-1,1,-1] 1 rfl (congrArg mh J) (pi (cA [lE Y1 256,eQ Y0 Y2,lE Y2 (Ax.m 16384 Y1)] (lE Y0 4194304) [16384,1,1] 1 rfl Y J (nL _ _))) (pi (cA [lE Y0 Y2,eQ Y2 (Ax.m 256 Y1)] (lE (Ax.m 32 Y0) (Ax.m 16384 Y1)) [32,64] 1 rfl A1 (dW (B) _))))]at this
  obtain⟨z,z1,z2,z3,z4⟩:=NR NT n2 (qM [lL 0 Y0] (lL 0 (.m 32 Y0)) [32] 1 rfl A0) (nA [_,_,_,_,_] [lE Y2 256,eQ Y3 Y4,eQ (Y1+Y3) 4194304,eQ (Y4+(Ax.m 32 Y0)) (Ax.m 16384 Y2)] (lE (Ax.m 32 Y0) Y1) [16384,1,-1,1] 1 rfl Y J (bY (cA [lE Y1 256,eQ Y0 Y2,lE Y2 (Ax.m 16384 Y1)] (lE Y0 4194304) [16384,1,1] 1 rfl Y J (nL _ _))) (bY (cA [lE Y0 Y2,eQ Y2 (Ax.m 256 Y1)] (lE (Ax.m 32 Y0) (Ax.m 16384 Y1)) [32,64] 1 rfl A1 (dW (B) _)))) (aT [lL 2097152 Y1,eQ (Y0+Y1) 4194304] (lL Y0 8388608) rfl (FH.mp pU) (bY (cA [lE Y1 256,eQ Y0 Y2,lE Y2 (Ax.m 16384 Y1)] (lE Y0 4194304) [16384,1,1] 1 rfl Y J (nL _ _))));obtain⟨H,v,v,v,h⟩:=Z _;refine⟨_,false,rfl,rfl,rfl,H,rfl,rfl,?_,nofun,λj=>⟨rfl,rfl,?_,rfl⟩,h,l,z,z1,z2,z3,?_⟩
  ·refine hle.trans ?_;rw[decide_eq_false_iff_not,CD];omega
  ·exact n2.isZero (by have:=@vp 21 _ (iA [(4194304 - Bo B F:Nat),(B:Nat),(A:Nat),(Bo B F:Nat),(16384*B - 32*A:Nat)] [lE Y1 256,lL 0 Y2,eQ Y3 Y4,eQ Y0 (4194304-Y3),eQ Y4 ((Ax.m 16384 Y1)-(Ax.m 32 Y2))] (lL 0 Y0) [16384,32,1,-1,1] 1 rfl (bK.mpr Y) (cc.mpr A0) (congrArg mh J) (pi (cA [lE Y1 256,eQ Y0 Y2,lE Y2 (Ax.m 16384 Y1)] (lE Y0 4194304) [16384,1,1] 1 rfl Y J (nL _ _))) (pi (cA [lE Y0 Y2,eQ Y2 (Ax.m 256 Y1)] (lE (Ax.m 32 Y0) (Ax.m 16384 Y1)) [32,64] 1 rfl A1 (dW (B) _))));exact nM (bf [lL 0 Y0] (lL 0 Y0) rfl this))
  ·exact rR (show min _ _=4194304 - Bo B F from(Wk _ _).elim (λH=>c8 (b8 [lE Y2 Y1,eQ Y0 Y2] (lE Y0 Y1) rfl H (rZ (H))) (cA [lL 2097152 Y2,lE Y2 Y0,eQ (Y0+Y2) 4194304] (lE Y0 Y1) [2,1,1] 0 rfl (FH.mp pU) H (bY (cA [lE Y1 256,eQ Y0 Y2,lE Y2 (Ax.m 16384 Y1)] (lE Y0 4194304) [16384,1,1] 1 rfl Y J (nL _ _))))) (λH=>c8 (aT [eQ Y0 Y1] (lE Y0 Y1) rfl (Fq (H))) (fA [eQ Y1 Y0] (lE Y0 Y1) [-1] 1 rfl (Fq (H))))) z4
end
def fdOf(o:ar):Option FuncData:=nc (match o.data with
 | .func fd=>some fd|_=>none)
def bodyOf(o:ar):List Stmt:=match fdOf o with
 |some fd=>(match fd.body with
  | .stmts b=>b|_=>[])
 |none=>[]
def mD(o:ar)(F L:af):Env:=match fdOf o with
 |some fd=>{ scope:=fd.scope,locals:=L,globals:=fd.globals,cells:=[],qual:=fd.qualname++".<locals>.",func:=some F,code:=fd.code,frame:=some L,builtins:=fd.builtins }|none=>default
def NU(b:List cq)(i:Nat)(it:ag)(env:lb):Code:= .forLoop (pE b[i]? 0) it (pB b[i]? 0) (pB b[i]? 1) env
def GW(b:List cq)(i:Nat):List Stmt:=pB b[i]? 0
def aA0(b:List cq)(i:Nat):List Stmt:=pB b[i]? 1
def aA1(L I:af):Code:=NU (GW (GW (bodyOf zg.1) 3) 1) 0 (.ref I) (mD zg.1 217 L)
def aA2(L I:af):Code:=NU (aA0 (GW (bodyOf zg.1) 3) 1) 2 (.ref I) (mD zg.1 217 L)
structure lA where
 I:af
 bm:af
 L:af
 u:ab
 k1:ab
 k2:ab
 k3:ab
 k4:ab
abbrev gtF(w:aj)(Y:lA)(lx:af)(H:List Nat)(ta:ab)(z:Nat×ab):Obj:=nc (⟨.type "frame",none, .dict (cF [⟨aS w.params "self", .str "self" Y.k1, .ref lx⟩,⟨aS w.params "token", .str "token" Y.k2, .str ⟨H.toArray⟩ ta⟩,⟨aS w.params "fiter", .str "fiter" Y.k3, .ref Y.I⟩,⟨aS w.params "ch", .str "ch" Y.k4, .str ⟨#[z.1]⟩ z.2⟩]) 4,#[]⟩)
abbrev lA.led(Y:lA)(X:LX)(w:aj)(l:List (Nat×ab))(H:List Nat)(ta:ab)(z:Nat×ab):List (af×ar):=(Y.I,⟨.type "callable_iterator",none, .fields #[.ref Y.bm, .str "" Y.u, .bool false],#[]⟩)::(Y.bm,⟨.type "method",none, .fields #[.ref 210, .ref X.lx],#[]⟩)::(Y.L,gtF w Y X.lx H ta z)::X.led w l
def CL(q:Bool)(Y:lA):Code:=bif q then aA1 Y.L Y.I else aA2 Y.L Y.I
def xn(Y:lA)(X:LX)(w:aj)(rest:List (Nat×ab))(W:List Nat)(z:Nat×ab)(N:Int):(Nat->Nat)->Out:=λx=>⟨.ok (.ret (.str ⟨W.toArray⟩ (x 2))),Y.led { X with n:=N,tn:=x 3,e1:=x 4 } w rest W (x 2) z,[],x 0,x 1⟩
abbrev m7(i:Nat)(X:LX)(w:aj)(c:Nat×ab)(l:List (Nat×ab))(b:Bool)(next:aM):aF:= .cons (some 3) (xi X) [i,i+1,i+2,i+3,i+4,i+5,i+6,i+7] (X.led w (c::l)) (GI X w c.1 c.2 l b) next
abbrev CM(q:Bool)(Y:lA)(X:LX)(w:aj)(l rest:List (Nat×ab))(H:List Nat)(ta:ab)(c:Nat×ab)(W:List Nat)(z:Nat×ab)(N:Int):aF:= .cons (some 6) (CL q Y) [0,1,2,3,4,5,6,7,8,9,10] (Y.led X w l H ta c) (xn Y X w rest W z N) λ_=> .nil
def aA3(q:Bool)(Y:lA)(X:LX)(w:aj)(c:Nat×ab)(l:List (Nat×ab))(b:Bool):aF:=m7 3 X w c l b λx=>cC "" ⟨#[c.1]⟩ Y.u c.2 false λy=>bif q then cC ⟨#[c.1]⟩ "\"" c.2 (y 1+1) true λ_=> .nil else mu "\n\t\r " ⟨#[c.1]⟩ X.k5 c.2 true λ_=> .nil
def aA4(q:Bool)(Y:lA)(X:LX)(w:aj)(c:Nat×ab)(l rest:List (Nat×ab))(H:List Nat)(ta:ab)(b:Bool)(W:List Nat)(z:Nat×ab)(N:Int):aF:=m7 3 X w c l b λx=>cC "" ⟨#[c.1]⟩ Y.u c.2 false λy=>(bif q then cC ⟨#[c.1]⟩ "\"" c.2 (y 1+1) false else mu "\n\t\r " ⟨#[c.1]⟩ X.k5 c.2 false) λy=>cC ⟨#[c.1]⟩ "\\" c.2 (y 1) false λy=>cQ ⟨H.toArray⟩ ⟨#[c.1]⟩ ⟨(H++[c.1]).toArray⟩ ta c.2 λy=>CM q Y (X.jm b (x 2)) w l rest (H++[c.1]) (y 2) c W z N
def aA5(q:Bool)(Y:lA)(X:LX)(w:aj)(c d:Nat×ab)(l rest:List (Nat×ab))(H:List Nat)(ta:ab)(b J:Bool)(W:List Nat)(z:Nat×ab)(N:Int):aF:=m7 3 X w c (d::l) b λx=>cC "" ⟨#[c.1]⟩ Y.u c.2 false λy=>(bif q then cC ⟨#[c.1]⟩ "\"" c.2 (y 1+1) false else mu "\n\t\r " ⟨#[c.1]⟩ X.k5 c.2 false) λy=>cC ⟨#[c.1]⟩ "\\" c.2 (y 1) true λy=>m7 3 (X.jm b (x 2)) w d l J λZ=>cQ ⟨H.toArray⟩ ⟨#[d.1]⟩ ⟨(H++[d.1]).toArray⟩ ta d.2 λy=>CM q Y ((X.jm b (x 2)).jm J (Z 2)) w l rest (H++[d.1]) (y 2) d W z N
def GX(q:Bool):List Nat:=(dN 18 0x6318821108001042008020)++bif q then [2,3]else(dN 16 0x188a0210000100000083)
def aA6:List Nat:=(dN 27 0x86310c631880520000010000100001062)
def GY(q:Bool)(w:aj)(Y:lA)(pre:List (af×ar))(H:List Nat)(J:aF)(sz tk:Nat)(Z:Xs):=(aI w 6 0 none 500).C [] Z ⟨pre,sz,tk,H,J⟩ (CL q Y) fin
noncomputable def aA7(X:LX)(b:Bool)(ta:ab)(H:Xs):Nat->Nat
 |0=>H 2 0|1=>H 2 1|2=>ta|3=>bif b then H 0 2 else X.tn|_=>X.e1+1
abbrev xp:List Nat:=nc ([0,1,2,3,4,5,6,7,8,9,10])
abbrev nx(b:Bool)(n:Int):Int:=nc (bif b then n+1 else n)
section
variable (w:aj)(X:LX)(Y:lA)(c d ch z:Nat×ab)(l rest:List (Nat×ab))(acc W:List Nat)(ta:ab)(N:Int)(sz tk:Nat)(σ:Xs)
theorem aA8(q b:Bool):Ends xp (GY q w Y (Y.led X w (c::l) acc ta ch) (GX q) (aA3 q Y X w c l b) sz tk σ) (bX (xn Y X w l acc c (nx b X.n) (aA7 X b ta σ))):=by
 revert w;induction q;·cases b<;>refine bW (λw=>?_) (λw=>?_)<;>kernel_rfl
 ·cases b<;>refine bW (λw=>?_) (λw=>?_)<;>kernel_rfl
theorem aA9(q b:Bool):Ends xp (GY q w Y (Y.led X w (c::l) acc ta ch) (GX q++[2,3,3,2,3,3,2]) (aA4 q Y X w c l rest acc ta b W z N) sz tk σ) (bX (xn Y X w rest W z N λi=>σ 5 i)):=by
 revert w;induction q;·refine bW (λw=>?_) (λw=>?_)<;>kernel_rfl
 ·refine bW (λw=>?_) (λw=>?_)<;>kernel_rfl
theorem aBa(q b H:Bool):Ends xp (GY q w Y (Y.led X w (c::d::l) acc ta ch) (GX q++aA6) (aA5 q Y X w c d l rest acc ta b H W z N) sz tk σ) (bX (xn Y X w rest W z N λi=>σ 6 i)):=by
 revert w;induction q;·refine bW (λw=>?_) (λw=>?_)<;>kernel_rfl
 ·refine bW (λw=>?_) (λw=>?_)<;>kernel_rfl
end
section
variable {h:aw}{m:Str->Option ag}{sU:List (af×ar)}{p:List ag}{y:ag}
theorem aBb(h:k<=1000):k+1<=sizeLine:=aE (si h) (dk rfl)
end
noncomputable abbrev Sg:=Nat×ab
noncomputable def aL:List Sg->Int
 |[]=>0|p::l=>(if p.1=10 then 1 else 0)+aL l
noncomputable def isWs(c:Nat):Bool:=c==10||c==9||c==13||c==32
abbrev zH:Str:=nc ("\n\t\r ")
theorem fold_same(z:α×β)(l:List γ):List.foldl (λ(b:α×β)_=>(b.1,b.2)) z l=z:=by
 induction l with
 |nil=>rfl|cons a l ih=>exact ih
theorem occ_none{x y:Str}(J:∀i,WO x y i=false)(Y H:Nat):kb x y 0 Y H=[]:=by unfold kb;simp[J,Id.run];exact congrArg (λz:Array Nat×Nat=>z.1.toList) (fold_same _ _)
theorem aBc(s:Str)(i c:Nat):WO s ⟨#[c]⟩ i=(s.cps[i]?==some c):=by
 show(s.cps.extract i (i+1)==#[c])=_;by_cases h:i< s.cps.size
 ·refine rR (yT h) ?_;have:s.cps.extract i (i+1)=#[s.cps[i]]:=by
   apply Array.ext;·simp[rZ (Nat.succ_le_of_lt h)]
   ·intro j J H;simp at H;subst H;simp
  refine rR this ?_;simp
 ·have:s.cps.extract i (i+1)=#[]:=by
   apply Array.ext;·simp;exact c8 (bu [eQ Y0 0] (lE Y0 0) rfl (BM (b8 [lE Y2 Y1,eQ Y0 Y2] (lE Y0 Y1) rfl (dA.mp h) (Fq (WP (dA.mp h)))))) (dG ..)
   ·intro j J H;simp at H
  refine rR this (rR (WQ (aT [lE Y0 Y1] (lE Y0 Y1) rfl (dA.mp h))) ?_);rfl
theorem NV(c:Nat):(kb zH ⟨#[c]⟩ 0 zH.length 1).isEmpty=!isWs c:=by
 by_cases Y:c=10;·subst Y;decide+kernel
 by_cases H:c=9;·subst H;decide+kernel
 by_cases Z:c=13;·subst Z;decide+kernel
 by_cases J:c=32;·subst J;decide+kernel
 have hw:isWs c=false:=by simp[isWs,Y,H,Z,J]
 refine rR hw ?_;have no:∀i,WO zH ⟨#[c]⟩ i=false:=by
  intro i;rw[aBc];match i with
  |0=>show((some 10:Option Nat)==some c)=false;simpa using λh=>Y h.symm|1=>show((some 9:Option Nat)==some c)=false;simpa using λh=>H h.symm|2=>show((some 13:Option Nat)==some c)=false;simpa using λh=>Z h.symm|3=>show((some 32:Option Nat)==some c)=false;simpa using λh=>J h.symm|n+4=>rfl
 rw[occ_none no];rfl
def GZ(q:Bool)(c:Nat):Bool:=bif q then c==34 else isWs c
inductive oh(q:Bool)(rest:List (Nat×ab))(z:Nat×ab):List (Nat×ab)->List Nat->Prop
 |stop:GZ q z.1=true->oh q rest z (z::rest) []
 |xq (b d:Nat×ab) {l w:_}:b.1=92->oh q rest z l w->oh q rest z (b::d::l) (d.1::w)
 |one (c:Nat×ab) {l w:_}:GZ q c.1=false->c.1≠92->oh q rest z l w->oh q rest z (c::l) (c.1::w)
theorem pV(c:Nat×ab)(l:List (Nat×ab))(n:Int):nx (c.1==10) n=n+(aL (c::l) - aL l):=by
 show _=n+((if c.1=10 then 1 else 0)+aL l - aL l)
 by_cases h:c.1=10;·rw[if_pos h,h];exact bw (bR [] (lE (Y0+1) (Y0+(1+Y1-Y1))) rfl) (bR [] (lE (Y0+(1+Y1-Y1)) (Y0+1)) rfl)
 ·rw[if_neg h,beq_eq_false_iff_ne.mpr h];exact bw (bR [] (lE Y0 (Y0+(0+Y1-Y1))) rfl) (bR [] (lE (Y0+(0+Y1-Y1)) Y0) rfl)
theorem NW(H:List Nat)(c:Nat):(⟨H.toArray⟩:Str)++⟨#[c]⟩=⟨(H++[c]).toArray⟩:=by show(⟨H.toArray++#[c]⟩:Str)=_;exact rR (FI ..) rfl
theorem CN(c d:Nat)(x:Str)(h:x=⟨#[d]⟩):((⟨#[c]⟩:Str).cps.toList==x.cps.toList)=(c==d):=by subst h;exact aUs _
theorem NX{H:List Nat}{c:Nat}(h:H.length<=1000):(⟨H.toArray⟩:Str).length+(⟨#[c]⟩:Str).length<=sizeLine:=by show H.toArray.size+1<=gA;exact aBb h
section
variable {Y:lA}{c:Nat×ab}{l:List (Nat×ab)}{b:Bool}{next:aM}{i:Nat}
theorem pW(Z:aK w aa)(J:aa.NoLimit)(hb:(c.1==10)=b)(hz:l.length<=1000)(h:∀x H,(next x).Ok ao (av w) A U fr aa H):(m7 i X w c l b next).Ok ao (av w) A U fr aa lv:=⟨rfl,by simp,ZF Z J X c.1 c.2 l b hb hz,λx z z=>h x _⟩
theorem Ha(XK:aK w aa)(NL:aa.NoLimit){q:Bool}{z:Nat×ab}{l:List (Nat×ab)}{v:List Nat}(rel:oh q rest z l v):∀(X:LX)(H W:List Nat)(ta:ab)(ch:Nat×ab)(N:Int),l.length<=1000->W=H++v->W.length<=1000->N=X.n+(aL l - aL rest)->Any ao w aa 6 (CL q Y) (Y.led X w l H ta ch) (xn Y X w rest W z N):=by
 have Qs:∀c:Nat×ab,((("":Str)).cps.toList==(⟨#[c.1]⟩:Str).cps.toList)=false:=λc=>rfl;have Qq:∀(c:Nat×ab)(b:Bool),_=b->((⟨#[c.1]⟩:Str).cps.toList==(("\"":Str)).cps.toList)=b:=λc b h=>rR (CN _ 34 _ (by decide+kernel)) h;have Qb:∀(c:Nat×ab)(b:Bool),_=b->((⟨#[c.1]⟩:Str).cps.toList==(("\\":Str)).cps.toList)=b:=λc b h=>rR (CN _ 92 _ (by decide+kernel)) h;have Qw:∀(c:Nat×ab)(b:Bool),isWs c.1=b->(!(kb "\n\t\r " ⟨#[c.1]⟩ 0 (("\n\t\r ":Str)).length 1).isEmpty)=b:=λc b h=>rR (show _=zH from rfl ..) (rR (NV ..) (rR (aU3 ..) h));induction rel with
 |stop Z=>
  intro X H W ta ch N J hW sV hN;have hW':W=H:=by rw[hW,dR]
  subst hW';have oi:N=nx _ X.n:=rR (pV ..) hN;subst oi;refine bS XK NL 500 _ xp _ (by decide) _ (λj=>rfl) (λA' hA j j j=>?_) λsz tk σ=>aA8 ..;refine pW XK NL rfl (nO J) λx lv=>dC (Qs _) λy lv=>?_;induction q;·exact nZ (Qw _ _ Z) λj j=>True.intro
  ·exact dC (Qq _ _ Z) λj j=>True.intro
 |one c Z hb rel ih=>
  intro X H W ta ch N J hW sV hN;rename_i l v;have hl:H.length<=1000:=by rw[hW,bQ]at sV;exact aE (fG ..) sV
  refine bS XK NL 500 _ xp _ (by decide) _ (λj=>rfl) (λA' hA j j j=>?_) λsz tk σ=>aA9 w X Y c ch z l rest H W ta N sz tk σ q (c.1==10);have oi:N=nx _ X.n+_:=rR (pV ..) (hN.trans sC);refine pW XK NL rfl (nO J) λx lv=>dC (Qs _) λy lv=>?_;have Rq:∀(y:Nat->Nat)lv,(cC ⟨#[c.1]⟩ "\\" c.2 (y 1) false λy=>cQ ⟨H.toArray⟩ ⟨#[c.1]⟩ ⟨(H++[c.1]).toArray⟩ ta c.2 λy=>CM q Y _ w l rest (H++[c.1]) (y 2) ..).Ok ao _ A' A'.units none aa lv:=λy lv=>
   dC (Qb _ _ (beq_eq_false_iff_ne.mpr hb)) λy j=>n6 (NW _ _) (NX hl) λy j=>⟨rfl,by decide,ih (X.jm _ (x 2)) _ W _ c N (nO J) (by simp only[hW,bH];rfl) sV oi,λj j j=>True.intro⟩;induction q;·exact nZ (Qw _ _ Z) λj j=>Rq _ _
  ·exact dC (Qq _ _ Z) λj j=>Rq _ _
 |xq c d hb rel ih=>
  intro X H W ta ch N J hW sV hN;rename_i l v;have hl:H.length<=1000:=by rw[hW,bQ]at sV;exact aE (fG ..) sV
  refine bS XK NL 500 _ xp _ (by decide) _ (λj=>rfl) (λA' hA j j j=>?_) λsz tk σ=>aBa w X Y c d ch z l rest H W ta N sz tk σ q (c.1==10) (d.1==10);have oi:N=nx (d.1==10) (nx _ X.n)+_:=rR (pV c _ ..) (rR (pV ..) (hN.trans (sC.trans sC)));have Z:GZ q c.1=false:=by rw[hb];induction q<;>rfl
  refine pW XK NL rfl (nO J) λx lv=>dC (Qs _) λy lv=>?_;have Rq:∀(y:Nat->Nat)lv,(cC ⟨#[c.1]⟩ "\\" c.2 (y 1) true λy=>m7 3 (X.jm (c.1==10) (x 2)) w d l _ λx2=>cQ ⟨H.toArray⟩ ⟨#[d.1]⟩ ⟨(H++[d.1]).toArray⟩ ta d.2 λy=>CM q Y _ w l rest (H++[d.1]) (y 2) ..).Ok ao _ A' A'.units none aa lv:=λy lv=>
   dC (Qb _ _ (beq_iff_eq.mpr hb)) λy j=>pW XK NL rfl (bu [lE (Y0+1+1) 1000] (lE Y0 1000) rfl J) λx2 lv=>n6 (NW _ _) (NX hl) λy j=>⟨rfl,by decide,ih ((X.jm _ (x 2)).jm _ (x2 2)) _ W _ d N (bu [lE (Y0+1+1) 1000] (lE Y0 1000) rfl J) (by simp only[hW,bH];rfl) sV oi,λj j j=>True.intro⟩;induction q;·exact nZ (Qw _ _ Z) λj j=>Rq _ _
  ·exact dC (Qq _ _ Z) λj j=>Rq _ _
end
abbrev LX.cD(X:LX)(w:aj)(l:List (Nat×ab))(H:List ag)(e2:Nat):List (af×ar):=X.led w l++[(X.pb,aA H e2)]
abbrev aBd(i:Nat)(X:LX)(w:aj)(next:aM):aF:= .cons (some 3) (xi X) [i,i+1,i+2,i+3,i+4,i+5,i+6,i+7] (X.led w []) (GJ X w) next
abbrev Hb(q:Bool)(Y:lA)(X:LX)(w:aj)(l rest:List (Nat×ab))(H:List Nat)(ta:ab)(c:Nat×ab)(W:List Nat)(z:Nat×ab)(N:Int):aF:= .cons (some 6) (CL q Y) [0,1,2,3,4,5,6,7,8,9,10] (Y.led X w l H ta c) (xn Y X w rest W z N) λ_=> .nil
def Hc(sz tk H:Nat):lA:=nc (⟨sz+2,sz+1,sz,tk+7,tk,tk+5,tk+8,H⟩)
def zI(k:Nat)(X:LX)(w:aj)(c d:Nat×ab)(l rest:List (Nat×ab))(b Y:Bool)(W:List Nat)(z:Nat×ab)(N:Int)(sz tk:Nat)(J:Option Nat):aF:=match k with
 |0=>aBd 3 X w λx=>cC "" "" (tk+7) (x 2) true λ_=> .nil|1=>m7 3 X w c l b λx=>cC "" ⟨#[c.1]⟩ (tk+7) c.2 false λH=>mu "\n\t\r " ⟨#[c.1]⟩ X.k5 c.2 false λy=>cC ⟨#[c.1]⟩ "\"" c.2 (y 1) true λ_=>Hb true (Hc sz tk (J.getD (H 1))) (X.jm b (x 2)) w l rest [] (tk+4) c W z N|2=>m7 3 X w c (d::l) b λx=>cC "" ⟨#[c.1]⟩ (tk+7) c.2 false λH=>mu "\n\t\r " ⟨#[c.1]⟩ X.k5 c.2 false λy=>cC ⟨#[c.1]⟩ "\"" c.2 (y 1) false λy=>cC ⟨#[c.1]⟩ "\\" c.2 (y 1) true λ_=>m7 3 (X.jm b (x 2)) w d l Y λZ=>Hb false (Hc sz tk (J.getD (H 1))) ((X.jm b (x 2)).jm Y (Z 2)) w l rest [d.1] d.2 d W z N|_=>m7 3 X w c l b λx=>cC "" ⟨#[c.1]⟩ (tk+7) c.2 false λH=>mu "\n\t\r " ⟨#[c.1]⟩ X.k5 c.2 false λy=>cC ⟨#[c.1]⟩ "\"" c.2 (y 1) false λy=>cC ⟨#[c.1]⟩ "\\" c.2 (y 1) false λ_=>Hb false (Hc sz tk (J.getD (H 1))) (X.jm b (x 2)) w l rest [c.1] c.2 c W z N
def sW(k:Nat)(c d:Nat×ab)(l:List (Nat×ab)):List (Nat×ab):=nc (match k with
 |0=>[]|2=>c::d::l|_=>c::l)
def CO(k:Nat)(X:LX)(w:aj)(s c d:Nat×ab)(l rest:List (Nat×ab))(H b J:Bool)(W:List Nat)(z:Nat×ab)(N:Int)(sz tk:Nat):aF:=m7 3 X w s (sW k c d l) H λx=>cC "" ⟨#[s.1]⟩ (tk+7) s.2 false λy=>mu "\n\t\r " ⟨#[s.1]⟩ X.k5 s.2 true λ_=>zI k (X.jm H (x 2)) w c d l rest b J W z N sz tk (some (y 1))
abbrev pX(X:LX):Code:=nc (.call (.ref 217) ⟨[.ref X.lx],[]⟩)
def sX:List Nat:=(dN 65 0x10040108c63080000000000c021000000002000001040008540501405286010800008000004100421)
def pY:List Nat:=(dN 33 0x228084000040000020c6318821108001042008020)
def xt(k:Nat):List Nat:=match k with
 |1=>[3,2,3,1,1,0,1,0,1,2]|2=>(dN 38 0x410040108c630006318c402900000080000800008310c43)|_=>(dN 18 0x410040108c630006310c43)
def sY(w:aj)(X:LX)(pre:List (af×ar))(H:List Nat)(J:aF)(sz tk:Nat)(Y:Xs):=(aI w 8 0 none 600).C [] Y ⟨pre,sz,tk,H,J⟩ (pX X) fin
def m8(X:LX)(w:aj)(rest:List (Nat×ab))(H:List ag)(e2:Nat)(W:List Nat)(N:Int):(Nat->Nat)->Out:=λx=>⟨.ok (.ret (.str ⟨W.toArray⟩ (x 2))),LX.cD { X with n:=N,tn:=x 3,e1:=x 4 } w rest H e2,[],x 0,x 1⟩
abbrev m9:List Nat:=nc ([3,4,5,6,7,8,9,10,11])
section
variable (w:aj)(X:LX)(s c d z:Nat×ab)(l rest:List (Nat×ab))(W:List Nat)(N:Int)(e2:Nat)(b0 b b2:Bool)(sz tk:Nat)(σ:Xs)
theorem aBe:Ends m9 (sY w X (X.cD w (sW 1 c d l) [] e2) (sX++(pY++xt 1)) (zI 1 X w c d l rest b b2 W z N sz tk none) sz tk σ) (bX (m8 X w rest [] e2 W N λi=>σ 4 i)):=by revert w;refine bW (λw=>?_) (λw=>?_)<;>kernel_rfl
theorem aBf:Ends m9 (sY w X (X.cD w (sW 2 c d l) [] e2) (sX++(pY++xt 2)) (zI 2 X w c d l rest b b2 W z N sz tk none) sz tk σ) (bX (m8 X w rest [] e2 W N λi=>σ 6 i)):=by revert w;refine bW (λw=>?_) (λw=>?_)<;>kernel_rfl
theorem aBg:Ends m9 (sY w X (X.cD w (sW 3 c d l) [] e2) (sX++(pY++xt 3)) (zI 3 X w c d l rest b b2 W z N sz tk none) sz tk σ) (bX (m8 X w rest [] e2 W N λi=>σ 5 i)):=by revert w;refine bW (λw=>?_) (λw=>?_)<;>kernel_rfl
theorem aBh:Ends m9 (sY w X (X.cD w (s::sW 1 c d l) [] e2) (sX++(pY++(pY++xt 1))) (CO 1 X w s c d l rest b0 b b2 W z N sz tk) sz tk σ) (bX (m8 X w rest [] e2 W N λi=>σ 7 i)):=by revert w;refine bW (λw=>?_) (λw=>?_)<;>kernel_rfl
theorem aBi:Ends m9 (sY w X (X.cD w (s::sW 2 c d l) [] e2) (sX++(pY++(pY++xt 2))) (CO 2 X w s c d l rest b0 b b2 W z N sz tk) sz tk σ) (bX (m8 X w rest [] e2 W N λi=>σ 9 i)):=by revert w;refine bW (λw=>?_) (λw=>?_)<;>kernel_rfl
theorem aBj:Ends m9 (sY w X (X.cD w (s::sW 3 c d l) [] e2) (sX++(pY++(pY++xt 3))) (CO 3 X w s c d l rest b0 b b2 W z N sz tk) sz tk σ) (bX (m8 X w rest [] e2 W N λi=>σ 8 i)):=by revert w;refine bW (λw=>?_) (λw=>?_)<;>kernel_rfl
end
theorem NY:yQ "callable_iterator" "__next__" "callable_iterator.__next__":= .of (owner:="callable_iterator") (n:="__next__") (by kernel_rfl) (by decide+kernel) (by decide+kernel) (by decide+kernel)
  (by first|exact .inl (by decide+kernel)|exact .inr _) (by kernel_rfl)
theorem aBk:mf gz "callable_iterator.__next__"=some Builtin.«callable_iterator.__next__»:=aU4 (by kernel_rfl)
theorem aBl(a:ag):lf "callable_iterator.__next__" ⟨[a],[]⟩:=by kernel_rfl
abbrev NZ(q:af)(x:Str)(k:ab):Obj:=⟨.type "callable_iterator",none, .fields #[.ref q, .str x k, .bool false],#[]⟩
section
variable {h:aw}{q f:af}{m:Str->Option ag}{k:ab}{fo:ar}
theorem aBm{Q:Bool->am->Prop}(J:s.heap.get? q=some (BP (.ref f) self))(H:s.heap.get? f=some fo)(hd:fo.data= .func fd)(h:Q true s):aG M A (borrowsExactly (.ref q)) Q E s:=by refine au (yU J ?_);refine au (yU H ?_);exact hd▸aH h
end
noncomputable def He(o:Option ar):Bool:=match o with
 |some o=>(match o.data with| .func _=>true|_=>false)|none=>false
theorem aBn{o:Option ar}(h:He o=true):∃H fd,o=some H/\H.data= .func fd:=by
 unfold He at h;split at h
 ·split at h;·exact⟨_,_,rfl,by assumption⟩
  ·injection h
 ·injection h
theorem aBo(w:aj):He ((K w.params).lookup 210)=true:=by kernel_rfl
theorem aBp{t:cb α}{Q:α->am->Prop}(SR:ax ao aa ak pre s)(X:aK w aa)(hA:A.handled=none)(n:Nat)(Z H:List Nat)(nd:H.Nodup)(J:ag)(ents:List (af×ar))(sz tk:Nat)(e:∀Y,Ends H ((aI w 0 0 none n).S [] Y ⟨pre,s.heap.objs.size,s.toks,Z, .nil⟩ t fin) (.error J,ents.map some,sz,tk))(h:∀s',ax ao aa ak ents s'->s'.heap.objs.size=sz->s'.toks=tk->Goes pre s.heap ents s'.heap->E J s'):aG (av w) A t Q E s:=by
 refine(zt (P:=λo:Except ag α×WS=>(o.1,H.map (λi=>o.2.led[i]?),o.2.sz,o.2.tk)=_) X hA (dep:=0) nofun (a8 _) n).S [] ⟨pre,s.heap.objs.size,s.toks,Z, .nil⟩ t fin Q E s ak ⟨SR,rfl,rfl⟩ ⟨_,λz=>id,True.intro⟩
  (λY=>Cn (e Y) λr H h=>h) λr H s' F z G hm=>?_;obtain⟨j,j,e1,j,e2⟩:=hm λz z=>0;cases e1;simp only[se]at e2;obtain⟨rfl,e3,e4,e5⟩:=e2;exact h s' ⟨F.r.h.sel nd e3,F.r.os,F.r.gens,F.r.same⟩ (F.sz.trans e4) (F.tk.trans e5) (G.sel e3)
def aBq(X:LX)(w:aj)(sz tk:Nat)(H:Xs):=(aI w 3 0 none 500).C [] H ⟨X.led w [],sz,tk,Nx, .nil⟩ (xi X) fin
noncomputable def aBr(sz tk:Nat):Nat->Nat
 |0=>sz+2|1=>tk+10|_=>tk+7
theorem aBs(X:LX)(w:aj)(sz tk:Nat)(H:Xs):Ends [2,3,4,5,6,7,8,9] (aBq X w sz tk H) (bX (GJ X w (aBr sz tk))):=by revert w;refine bW (λw=>?_) (λw=>?_)<;>kernel_rfl
theorem aBt(J:aK w aa)(H:aa.NoLimit)(X:LX):Any ao w aa 3 (xi X) (X.led w []) (GJ X w):=bS J H 500 Nx [2,3,4,5,6,7,8,9] (λz z=> .nil) (by decide) _ (λz=>rfl) (λH H z z z=>True.intro) λsz tk H=>aBs ..
abbrev Hf(t:af):Obj:=nc (⟨.type "StopIteration",none, .fields #[.ref t, .none, .none, .none, .bool false, .none],#[]⟩)
abbrev Hg:Obj:=nc (⟨.type "callable_iterator",none, .fields #[.none, .none, .bool true],#[]⟩)
theorem N0(XK:aK w aa)(NL:aa.NoLimit)(X:LX)(I Y:af)(u:ab):Any ao w aa 3 (bC "callable_iterator.__next__" [.ref I]) ((I,NZ Y "" u)::(Y,BP (.ref 210) (.ref X.lx))::X.led w []) (λx=>⟨.error (.ref (x 2)),(I,Hg)::(Y,BP (.ref 210) (.ref X.lx))::X.led w [],[(x 2,Hf (x 3))],x 0,x 1⟩):=by
 intro A' hA hd u' s ak R hu H z hR;have J:=H.h.at_ _ ay;have hq:=H.h.at_ _ (aB ay);refine c7 (aBn (aBo w)) λfo fd g1 g2=>dK NY.plain aBk (NY.check _ _ _ _ _ _ _ _ (⟨_,J,rfl⟩) (aBl _) ?_);show aG _ _ (BQ _ 2>>=_) ..;refine au (jc J rfl rfl ?_);refine au (jc J rfl (x:= .ref Y) rfl ?_);refine au (uN ?_);refine au (aBm hq (H.h.keep _ _ (XK _ _ g1)) g2 ?_);refine Nh (method_call hq (aBt XK NL X { A' with units:=u'+1 } hA hd _ s ak _ (a8 _) (⟨H.h.sel (ix:=[2,3,4,5,6,7,8,9]) (by decide) rfl,H.os,H.gens,H.same⟩) (λL J=>nomatch J) λx s' J J Z hn J kp=>?_));refine cJ (H.h.told (ix:=[2,3,4,5,6,7,8,9]) (by decide) rfl Z hn J.h kp) λH G z=>nd_pure ?_;have sZ:=H.at_ _ ay;refine au (jc sZ rfl rfl ?_);refine au (jc sZ rfl rfl ?_);refine au (fW (eqBool_str ?_));refine aBp (⟨H,J.os,J.gens,J.same⟩) XK hA 100 [1,2,0,1,1,1,1,1,1] [0,2,3,4,5,6,7,8,9,10,11] (by decide) (.ref (s'.heap.objs.size+1)) ((s'.heap.objs.size+1,Hf s'.heap.objs.size)::(I,Hg)::(Y,BP (.ref 210) (.ref X.lx))::X.led w []) (s'.heap.objs.size+2) s'.toks (λH=>by kernel_rfl) λY N7 H J G2=>?_;have G3:=Goes.trans G G2;refine hR (λi=>match i with|0=>s'.heap.objs.size+2|1=>s'.toks|2=>s'.heap.objs.size+1|_=>s'.heap.objs.size) Y H J rfl (λp Z=>?_) N7 G3.keep;rcases G3.new p (bL _ Z)with h|⟨r,hr,e⟩
 ·exact h
 ·have H:=N7.h.nd;rw[bI.mp Z]at e ⊢;have J:r.1=s'.heap.objs.size+1:=e;refine absurd ?_ ((cj.mp H).1);simp only[<-J];exact b7 (f:=(·.1)) hr
abbrev aBu(I:af):Code:=nc (.call (.builtin "callable_iterator.__next__") ⟨[.ref I],[]⟩)
abbrev aBv(X:LX)(w:aj)(I H:af)(u:ab):List (af×ar):=(I,NZ H "" u)::(H,BP (.ref 210) (.ref X.lx))::X.led w []
abbrev aBw(X:LX)(w:aj)(I H:af):(Nat->Nat)->Out:=λx=>⟨.error (.ref (x 2)),(I,Hg)::(H,BP (.ref 210) (.ref X.lx))::X.led w [],[(x 2,Hf (x 3))],x 0,x 1⟩
def Hh(X:LX)(w:aj)(sz tk:Nat):aF:= .cons (some 3) (aBu (sz+2)) [0,1,3,4,5,6,7,8,9,10] (aBv X w (sz+2) (sz+1) (tk+7)) (aBw X w (sz+2) (sz+1)) λ_=> .nil
def aBx(X:LX)(w:aj)(s:Nat×ab)(H:Bool)(sz tk:Nat):aF:=m7 3 X w s [] H λx=>cC "" ⟨#[s.1]⟩ (tk+7) s.2 false λy=>mu "\n\t\r " ⟨#[s.1]⟩ X.k5 s.2 true λ_=>Hh (X.jm H (x 2)) w sz tk
noncomputable def N8(X:LX)(tk:Nat)(i:Nat)(J:Option Bool)(H:Xs):Nat->Nat
 |0=>H i 0|1=>H i 1|2=>tk+4|3=>(match J with
  |some true=>H 0 2|_=>X.tn)
 |_=>(match J with
  |some _=>X.e1+1|none=>X.e1)
abbrev CP:List Nat:=nc ([4,5,6,7,8,9,10,11,12])
section
variable (w:aj)(X:LX)(s:Nat×ab)(e2:Nat)(b0:Bool)(sz tk:Nat)(σ:Xs)
theorem aBy:Ends CP (sY w X (X.cD w [] [] e2) (sX++[0,1,2,1,0,4]) (Hh X w sz tk) sz tk σ) (bX (m8 X w [] [] e2 [] X.n (N8 X tk 0 none σ))):=by revert w;refine bW (λw=>?_) (λw=>?_)<;>kernel_rfl
theorem aBz:Ends CP (sY w X (X.cD w [s] [] e2) (sX++(pY++[0,1,2,1,0,4])) (aBx X w s b0 sz tk) sz tk σ) (bX (m8 X w [] [] e2 [] (nx b0 X.n) (N8 X tk 3 (some b0) σ))):=by revert w;induction b0<;>refine bW (λw=>?_) (λw=>?_)<;>kernel_rfl
end
inductive vx(rest:List (Nat×ab)):List (Nat×ab)->List Nat->Prop
 |xu (c z:Nat×ab) {l v:_}:c.1=34->oh true rest z l v->vx rest (c::l) v
 |xq (c d z:Nat×ab) {l v:_}:c.1=92->oh false rest z l v->vx rest (c::d::l) (d.1::v)
 |one (c z:Nat×ab) {l v:_}:isWs c.1=false->c.1≠92->c.1≠34->oh false rest z l v->vx rest (c::l) (c.1::v)
inductive fb(rest:List (Nat×ab)):List (Nat×ab)->List Nat->Prop
 |head {l v:_}:vx rest l v->fb rest l v
 |ws (s:Nat×ab) {l v:_}:isWs s.1=true->vx rest l v->fb rest (s::l) v
 |eof:rest=[]->fb rest [] []
 |N9 (s:Nat×ab):isWs s.1=true->rest=[]->fb rest [s] []
section
theorem zJ(c:Nat×ab):((("":Str)).cps.toList==(⟨#[c.1]⟩:Str).cps.toList)=false:=rfl
theorem Hi(c:Nat×ab)(b:Bool)(h:(c.1==34)=b):((⟨#[c.1]⟩:Str).cps.toList==(("\"":Str)).cps.toList)=b:=rR (CN _ 34 _ (by decide+kernel)) h
theorem Oa(c:Nat×ab)(b:Bool)(h:(c.1==92)=b):((⟨#[c.1]⟩:Str).cps.toList==(("\\":Str)).cps.toList)=b:=rR (CN _ 92 _ (by decide+kernel)) h
theorem zK(c:Nat×ab)(b:Bool)(h:isWs c.1=b):(!(kb "\n\t\r " ⟨#[c.1]⟩ 0 (("\n\t\r ":Str)).length 1).isEmpty)=b:=rR (show _=zH from rfl ..) (rR (NV ..) (rR (aU3 ..) h))
theorem Oc(Y:aK w aa)(J:aa.NoLimit){l:List (Nat×ab)}(rel:vx rest l W)(X:LX)(N:Int)(hz:l.length<=1000)(hW:W.length<=1000)(hN:N=X.n+(aL l - aL rest)):∃(k:Nat)(c d z:Nat×ab)(l':List (Nat×ab))(b b2:Bool),(k=1\/k=2\/k=3)/\sW k c d l'=l/\∀(Z:aD),Z.handled=none->∀(H:LX),H.n=X.n->∀sz tk k4 lv,(zI k H w c d l' rest b b2 W z N sz tk k4).Ok ao (av w) Z Z.units none aa lv:=by
 cases rel with
 |@xu c z l v hc r=>
  have hw:isWs c.1=false:=by rw[hc];rfl
  refine⟨1,c,c,z,l,c.1==10,false, .inl rfl,rfl,λZ hA H hX sz tk k4 lv=>?_⟩;refine pW Y J rfl (nO hz) λx j=>dC (zJ c) λy0 j=>nZ (zK c _ hw) λy j=>dC (Hi c _ (beq_iff_eq.mpr hc)) λj j=>⟨rfl,by decide,Ha Y J r _ _ W _ c N (nO hz) rfl hW ?_,λj j j=>True.intro⟩;show N=nx _ H.n+_;simp only[pV c l,hX];exact hN.trans sC
 |@xq c d z l v hc r=>
  have hw:isWs c.1=false:=by rw[hc];rfl
  have oj:=bu [lE (Y0+1+1) 1000] (lE Y0 1000) rfl hz;refine⟨2,c,d,z,l,c.1==10,d.1==10, .inr (.inl rfl),rfl,λZ hA H hX sz tk k4 lv=>?_⟩;refine pW Y J rfl (nO hz) λx j=>dC (zJ c) λy0 j=>nZ (zK c _ hw) λy j=>dC (Hi c _ (beq_eq_false_iff_ne.mpr (jd (qM [eQ Y0 92] (lL 34 Y0) [-1] 1 rfl hc)))) λy j=>dC (Oa c _ (beq_iff_eq.mpr hc)) λj j=>pW Y J rfl oj λx2 j=>⟨rfl,by decide,Ha Y J r _ _ _ _ d N oj rfl hW ?_,λj j j=>True.intro⟩;show N=nx _ (nx _ H.n)+_;simp only[pV c (d::l),pV d l,hX];exact hN.trans (sC.trans sC)
 |@one c z l v hw hb hq r=>refine⟨3,c,c,z,l,c.1==10,false, .inr (.inr rfl),rfl,λZ hA H hX sz tk k4 lv=>?_⟩;refine pW Y J rfl (nO hz) λx j=>dC (zJ c) λy0 j=>nZ (zK c _ hw) λy j=>dC (Hi c _ (beq_eq_false_iff_ne.mpr hq)) λy j=>dC (Oa c _ (beq_eq_false_iff_ne.mpr hb)) λj j=>⟨rfl,by decide,Ha Y J r _ _ _ _ c N (nO hz) rfl hW ?_,λj j j=>True.intro⟩;show N=nx _ H.n+_;simp only[pV c l,hX];exact hN.trans sC
theorem Hj(Z:aK w aa)(Y:aa.NoLimit){l:List (Nat×ab)}(rel:fb rest l W)(X:LX)(N:Int)(e2:Nat)(hz:l.length<=1000)(hW:W.length<=1000)(hN:N=X.n+(aL l - aL rest)):Any ao w aa 8 (pX X) (X.cD w l [] e2) (m8 X w rest [] e2 W N):=by
 induction rel with
 |head r=>
  obtain⟨k,c,d,z,l',b,b2,hk,rfl,ok⟩:=Oc (ao:=ao) Z Y r X N hz hW hN;rcases hk with rfl|rfl|rfl
  ·exact bS Z Y 600 _ m9 _ (by decide) _ (λj=>rfl) (λH J sz tk j=>ok H J X rfl sz tk none _) λsz tk σ=>aBe ..
  ·exact bS Z Y 600 _ m9 _ (by decide) _ (λj=>rfl) (λH J sz tk j=>ok H J X rfl sz tk none _) λsz tk σ=>aBf ..
  ·exact bS Z Y 600 _ m9 _ (by decide) _ (λj=>rfl) (λH J sz tk j=>ok H J X rfl sz tk none _) λsz tk σ=>aBg ..
 |@ws s l v hs r=>
  have oi:N=nx _ X.n+_:=rR (pV ..) (hN.trans sC);obtain⟨k,c,d,z,l',b,b2,hk,rfl,ok⟩:=Oc (ao:=ao) Z Y r { X with n:=nx _ X.n } N (nO hz) hW oi;have Hl:∀H:aD,H.handled=none->∀sz tk lv,(CO ..).Ok ao _ H H.units none aa lv:=λH J sz tk lv=>by exact pW Z Y rfl (nO hz) λx j=>dC (zJ s) λy j=>nZ (zK s _ hs) λj j=>ok H J (X.jm _ (x 2)) rfl sz tk _ _
  rcases hk with rfl|rfl|rfl
  ·exact bS Z Y 600 _ m9 _ (by decide) _ (λj=>rfl) (λH J sz tk j=>Hl H J ..) λsz tk σ=>aBh ..
  ·exact bS Z Y 600 _ m9 _ (by decide) _ (λj=>rfl) (λH J sz tk j=>Hl H J ..) λsz tk σ=>aBi ..
  ·exact bS Z Y 600 _ m9 _ (by decide) _ (λj=>rfl) (λH J sz tk j=>Hl H J ..) λsz tk σ=>aBj ..
 |eof hr=>subst hr;have oi:N=X.n:=hN▸bw (bf [] (lE (Y0+(0-0)) Y0) rfl) (bf [] (lE Y0 (Y0+(0-0))) rfl);subst oi;exact bS Z Y 600 _ CP (λsz tk=>Hh ..) (by decide) _ (λj=>rfl) (λH J sz tk j=>⟨rfl,by decide,N0 Z Y X _ _ _,λj j j=>True.intro⟩) λsz tk σ=>aBy ..|N9 s hs hr=>subst hr;have oi:N=nx _ X.n:=rR (pV s [] ..) hN;subst oi;refine bS Z Y 600 _ CP _ (by decide) _ (λj=>rfl) (λH J sz tk j=>?_) λsz tk σ=>aBz ..;exact pW Z Y rfl (nO hz) λx j=>dC (zJ s) λy j=>nZ (zK s _ hs) λj j=>⟨rfl,by decide,N0 Z Y _ _ _ _,λj j j=>True.intro⟩
end
abbrev LX.ip(X:LX)(w:aj)(H:List ag)(e2:Nat):List (af×ar):=[(X.lx,dX 227 X.ld),(X.ld,Co w X.n X.tn X.sf X.pb X.k1 X.k2 X.k3 X.k4 X.k5),(X.pb,aA H e2)]
abbrev zL(X:LX)(x:Str)(t:ab):Code:=nc (.call (.ref 224) ⟨[.ref X.lx, .str x t],[]⟩)
def xw(o:Option (Str×ab)):List Value:=nc (match o with
 |none=>[]|some p=>[.str p.1 p.2])
def zM(X:LX)(w:aj)(x:Str)(t:ab)(o:Option (Str×ab))(e2:Nat):(Nat->Nat)->Out:=λe=>⟨.ok (.ret (.str x t)),X.ip w (xw o) (e2+1),[],e 0,e 1⟩
def zN(X:LX)(w:aj)(x:Str)(t:ab)(o:Option (Str×ab))(e2:Nat):(Nat->Nat)->Out:=λe=>⟨.ok (.ret .none),X.ip w (xw o++[.str x t]) (e2+1),[],e 0,e 1⟩
def Od(w:aj)(pre:List (af×ar))(H:List Nat)(c:bB)(sz tk:Nat)(J:Xs):=(aI w 2 0 none 500).C [] J ⟨pre,sz,tk,H, .nil⟩ c fin
noncomputable def two(a b:Nat):Nat->Nat
 |0=>a|_=>b
def Oe:List Nat:=(dN 51 0x1084200802108418042000020000010480200802106010800008000004100421)
def Of:List Nat:=(dN 31 0x108401001210841804200002000001040108421)
theorem aB0(w:aj)(X:LX)(x:Str)(t:ab)(o:Option (Str×ab))(e2 sz tk:Nat)(H:Xs):Ends [1,2,3] (Od w (X.ip w (.str x t::xw o) e2) Oe (pX X) sz tk H) (bX (zM X w x t o e2 (two (sz+1) (tk+6)))):=by induction o<;>kernel_rfl
theorem aB1(w:aj)(X:LX)(x:Str)(t:ab)(o:Option (Str×ab))(e2 sz tk:Nat)(H:Xs):Ends [1,2,3] (Od w (X.ip w (xw o) e2) Of (zL X x t) sz tk H) (bX (zN X w x t o e2 (two (sz+1) (tk+3)))):=by induction o<;>kernel_rfl
section
variable (XK:aK w aa)(NL:aa.NoLimit)(X:LX)(x:Str)(t:ab)(o:Option (Str×ab))(e2:Nat)
include XK NL
theorem CQ:Any ao w aa 2 (pX X) (X.ip w (.str x t::xw o) e2) (zM X w x t o e2):=bS XK NL 500 Oe [1,2,3] (λz z=> .nil) (by decide) _ (λz=>rfl) (λH H z z z=>True.intro) λsz tk H=>aB0 ..
theorem CR:Any ao w aa 2 (zL X x t) (X.ip w (xw o) e2) (zN X w x t o e2):=bS XK NL 500 Of [1,2,3] (λz z=> .nil) (by decide) _ (λz=>rfl) (λH H z z z=>True.intro) λsz tk H=>aB1 ..
end
theorem aB2{T:af}{H:List ag}{ys:List Str}{x:Str}{b:Bool}(hi:StrsAre H ys)(Z:ys.any (· ==x)=b):Told ao (av w) A U fr aa (bC "tuple.__contains__" [.ref T, .str x u]) [(T,⟨.type "tuple",none, .seq H.toArray n,#[]⟩)] (λx=>⟨.ok (.ret (.bool b)),[(T,⟨.type "tuple",none, .seq H.toArray n,#[]⟩)],[],x 0,x 1⟩):=by
 intro u s ak R hu J z hR;have Y:WR s.heap T H.toArray:=⟨_,(J.h.at_ _ ay),rfl,n,rfl⟩
 refine dK L9.plain aU5 (L9.check _ _ _ _ _ _ _ _ Y.typeIs (aU6 _ _) (tuple_contains_strs Y hi ?_));exact Z▸hR (λi=>bif bZ i 0 then s.heap.objs.size else s.toks) s rfl rfl rfl (λp H=>absurd H bi) ⟨J.h,J.os,J.gens,J.same⟩ λb o H J=>H
abbrev zO(i j:Nat)(X:LX)(w:aj)(l rest:List (Nat×ab))(e2:Nat)(W:List Nat)(N:Int)(next:aM):aF:= .cons (some 8) (pX X) [i,i+1,i+2,i+3,i+4,i+5,i+6,i+7,j] (X.cD w l [] e2) (m8 X w rest [] e2 W N) next
def aB3(b:List cq)(i:Nat)(env:lb):Code:= .whileLoop (pE b[i]? 0) (pB b[i]? 0) (pB b[i]? 1) env
abbrev kC(L:af):Env:=mD sy.1 262 L
def qU(L:af):Code:=aB3 (bodyOf sy.1) 1 (kC L)
structure TF where
 L:Nat
 lx:Nat
 tg:Nat
 dp:Int
 td:ab
 nm:Str
 tn:ab
 k:_root_.Fin 7->ab
structure DS where
 r:UInt64
 g:UInt64
 b:UInt64
 tr:ab
 tg:ab
 tb:ab
 ky:List Nat
 fg:Int
 hu:UInt64
 sh:UInt64
 va:UInt64
 ty:ab
 tf:ab
 th:ab
 ts:ab
 tv:ab
 tj:ab
 kf:ab
 kh:ab
 ks:ab
 kv:ab
variable {Dv:DS}
noncomputable abbrev TF.base(T:TF)(w:aj)(D:DS):List DictEntry:=[⟨aS w.params "lexer", .str "lexer" (T.k 0), .ref T.lx⟩,⟨aS w.params "target", .str "target" (T.k 1), .ref T.tg⟩,⟨aS w.params "deep", .str "deep" (T.k 2), .int T.dp T.td⟩,⟨aS w.params "red", .str "red" (T.k 3), .float D.r D.tr⟩,⟨aS w.params "green", .str "green" (T.k 4), .float D.g D.tg⟩,⟨aS w.params "blue", .str "blue" (T.k 5), .float D.b D.tb⟩,⟨aS w.params "name", .str "name" (T.k 6), .str T.nm T.tn⟩]
abbrev TF.aJ(T:TF)(w:aj)(D:DS)(f:Nat):Obj:=nc (match f with
 |0=>⟨.type "frame",none, .dict (cF (T.base w D)) 7,#[]⟩|1=>⟨.type "frame",none, .dict (cF (T.base w D++[⟨aS w.params "key", .str "key" D.tj, .str ⟨D.ky.toArray⟩ D.ty⟩])) 8,#[]⟩|_=>⟨.type "frame",none, .dict (cF (T.base w D++[⟨aS w.params "key", .str "key" D.tj, .str ⟨D.ky.toArray⟩ D.ty⟩,⟨aS w.params "figure", .str "figure" D.kf, .int D.fg D.tf⟩,⟨aS w.params "hue", .str "hue" D.kh, .float D.hu D.th⟩,⟨aS w.params "share", .str "share" D.ks, .float D.sh D.ts⟩,⟨aS w.params "value", .str "value" D.kv, .float D.va D.tv⟩])) 12,#[]⟩)
abbrev iq(T:TF)(X:LX)(w:aj)(D:DS)(f:Nat)(l:List (Nat×ab))(H:List ag)(e2:Nat):List (af×ar):=nc ((T.L,T.aJ w D f)::{ X with lx:=T.lx }.cD w l H e2)
abbrev qV(k:Nat):Str:=nc (⟨#[match k with|0=>104|1=>115|_=>118]⟩)
abbrev Og(t:ab):Obj:=nc (⟨.type "tuple",none, .seq (cF [.str ⟨#[104]⟩ t, .str ⟨#[115]⟩ (t+1), .str ⟨#[118]⟩ (t+2)]) 0,#[]⟩)
abbrev Hm(T:Nat)(t:ab)(H:List Nat)(u:ab)(b:Bool)(next:aM):aF:= .cons (some 0) (bC "tuple.__contains__" [.ref T, .str ⟨H.toArray⟩ u]) [0] [(T,Og t)] (λx=>⟨.ok (.ret (.bool b)),[(T,Og t)],[],x 0,x 1⟩) next
abbrev CS(W:List Nat)(u:ab)(fg:Int)(next:aM):aF:=nc (.cons (some 2) (.call (.type "int") ⟨[.str ⟨W.toArray⟩ u],[]⟩) [] [] (λx=>⟨.ok (.ret (.int fg (x 2))),[],[],x 0,x 1⟩) next)
abbrev xy(c:bB)(a b d:UInt64)(next:aM):aF:= .cons (some 5) c [] [] (cR a b d) next
structure DV where
 h:UInt64
 s:UInt64
 v:UInt64
 m:UInt64
 q:UInt64
 n:UInt64
 r:UInt64
 g:UInt64
 b:UInt64
abbrev aB4(D:DS):Code:=nc (.call (.ref 182) ⟨[.float D.r D.tr, .float D.g D.tg, .float D.b D.tb],[]⟩)
abbrev vy(h s v:UInt64)(t u x:ab):Code:=nc (.call (.ref 189) ⟨[.float h t, .float s u, .float v x],[]⟩)
def Oh(κ:Nat)(V:DV)(fg:Int)(H J:ab)(Y z:Nat)(v:Nat->Nat)(next:(Nat->Nat)->(Nat->Nat)->(Nat->Nat)->aF):aF:=match κ with
 |0=>cC (qV 0) "h" H z true λe=>cM "int.__truediv__" [.int fg J, .int 64 (e 1)] (λk=> .float V.q k) λd=>lw "float.__add__" V.h V.q V.m (v 3) (d 2) λp=>lw "float.__mod__" V.m e6 V.n (p 2) (p 1) λm=>xy (vy V.n V.s V.v (m 2) (v 4) (v 5)) V.r V.g V.b λy=>next m y y|1=>cC (qV 1) "h" H z false λe=>cC (qV 1) "s" H (e 1) true λe=>cM "float.__mul__" [.float V.s (v 4), .int fg J] (λk=> .float V.m k) λp=>cM "float.__truediv__" [.float V.m (p 2), .int 4 (p 1)] (λk=> .float V.n k) λm=>xy (vy V.h V.n V.v (v 3) (m 2) (v 5)) V.r V.g V.b λy=>next m y y|_=>cC (qV 2) "h" H z false λe=>cC (qV 2) "s" H (e 1) false λe=>cM "float.__mul__" [.float V.v (v 5), .int fg J] (λk=> .float V.m k) λp=>cM "float.__truediv__" [.float V.m (p 2), .int 4 (p 1)] (λk=> .float V.n k) λm=>xy (vy V.h V.s V.n (v 3) (v 4) (m 2)) V.r V.g V.b λy=>next m y y
def DS.next(D:DS)(κ:Nat)(V:DV)(fg:Int)(f:Nat)(a i v m y:Nat->Nat):DS where
 r:=V.r
 g:=V.g
 b:=V.b
 tr:=y 3
 tg:=y 4
 tb:=y 5
 ky:=(qV κ).cps.toList
 ty:=a 2
 fg:=fg
 tf:=i 2
 hu:=match κ with
  |0=>V.n|_=>V.h
 th:=match κ with
  |0=>m 2|_=>v 3
 sh:=match κ with
  |1=>V.n|_=>V.s
 ts:=match κ with
  |1=>m 2|_=>v 4
 va:=match κ with
  |0=>V.v|1=>V.v|_=>V.n
 tv:=match κ with
  |0=>v 5|1=>v 5|_=>m 2
 tj:=match f with
  |0=>a 1|_=>D.tj
 kf:=match f with
  |0=>i 1|_=>D.kf
 kh:=match f with
  |0=>v 1|_=>D.kh
 ks:=match f with
  |0=>v 1+1|_=>D.ks
 kv:=match f with
  |0=>v 1+2|_=>D.kv
def qW(κ f:Nat)(T:TF)(X:LX)(w:aj)(D:DS)(V:DV)(fg:Int)(l Y Z:List (Nat×ab))(W:List Nat)(J H:Int)(e2:Nat)(next:DS->LX->aF):aF:=zO 1 9 { X with lx:=T.lx } w l Y e2 (qV κ).cps.toList J λa=>Hm (a 0) (a 1+1) (qV κ).cps.toList (a 2) true λc=>zO 2 10 { X with lx:=T.lx,n:=J,tn:=a 3,e1:=a 4 } w Y Z e2 W H λb=>CS W (b 2) fg λi=>
 xy (aB4 D) V.h V.s V.v λv=>Oh κ V fg (a 2) (i 2) 0 (v 1+3) v λm y _=>next (D.next κ V fg f a i v m y) { X with n:=H,tn:=b 3,e1:=b 4 }
def Hn(T:TF)(X:LX)(w:aj)(l J:List (Nat×ab))(W:List Nat)(H:Int)(e2:Nat):aF:=zO 1 9 { X with lx:=T.lx } w l J e2 W H λa=>Hm (a 0) (a 1+1) W (a 2) false λc=>
  .cons (some 2) (zL { X with lx:=T.lx } ⟨W.toArray⟩ (a 2)) [2,3,10] ({ X with lx:=T.lx,n:=H,tn:=a 3,e1:=a 4 }.ip w [] e2) (zN { X with lx:=T.lx,n:=H,tn:=a 3,e1:=a 4 } w ⟨W.toArray⟩ (a 2) none e2) λ_=> .nil
noncomputable def DS.ext(D:DS)(W:List Nat)(e:Nat->Nat):DS where
 r:=D.r
 g:=D.g
 b:=D.b
 tr:=e 10
 tg:=e 11
 tb:=e 12
 ky:=W
 fg:=D.fg
 hu:=D.hu
 sh:=D.sh
 va:=D.va
 ty:=e 22
 tf:=e 13
 th:=e 14
 ts:=e 15
 tv:=e 16
 tj:=e 17
 kf:=e 18
 kh:=e 19
 ks:=e 20
 kv:=e 21
def ir(T:TF)(X:LX)(w:aj)(D:DS)(W:List Nat)(rest:List (Nat×ab))(N:Int)(f e2:Nat):(Nat->Nat)->Out:=λe=>⟨.ok .next,iq T { X with n:=N,tn:=e 3,e1:=e 4 } w (D.ext W e) f rest [.str ⟨W.toArray⟩ (e 22)] (e2+1),[],e 0,e 1⟩
noncomputable def Oi(D:DS)(f:Nat)(H:Xs):Nat->Nat
 |0=>H 2 0|1=>H 2 1|3=>H 0 3|4=>H 0 4|10=>D.tr|11=>D.tg|12=>D.tb|13=>D.tf|14=>D.th|15=>D.ts|16=>D.tv|17=>(match f with
  |0=>H 0 1|_=>D.tj)
 |18=>D.kf|19=>D.kh|20=>D.ks|21=>D.kv|_=>H 0 2
abbrev tm(T:TF)(w:aj)(Dv:DS)(W:List Nat)(H rest:List (Nat×ab))(N:Int)(e2:Nat)(D:DS)(X:LX):aF:= .cons (some 10) (qU T.L) [9,10,11,12,13,14,15,16,17,18] (iq T X w D 2 H [] e2) (ir T X w Dv W rest N 2 e2) λ_=> .nil
def xz(κ:Nat):List Nat:=(dN 107 0x1846318c631821088210040108441080200842208401004211042008021004010844010840108420106000003000030000310002084210880310000008000080000820)++((match κ with
 |0=>[6,2]|_=>[2,6,6])++(dN 61 0x25294a528210882100401084410802008422084010042110420080210040108440318c031842))
def CT:List Nat:=(dN 44 0x100441800000c0000c0000c42084210880310000008000080000820)
def tq(w:aj)(T:TF)(pre:List (af×ar))(H:List Nat)(J:aF)(sz tk:Nat)(Y:Xs):=(aI w 10 0 none 800).C [] Y ⟨pre,sz,tk,H,J⟩ (qU T.L) fin
section
variable (w:aj)(X:LX)(T:TF)(D Dv:DS)(V:DV)(fg:Int)(l l1 l2 rest:List (Nat×ab))(W F:List Nat)(N1 N2 N:Int)(e2 sz tk:Nat)(σ:Xs)
theorem aB5:Ends [1,2,3,4,5,6,7,8,9,10] (tq w T (iq T X w D 0 l [] e2) CT (Hn T X w l l1 W N1 e2) sz tk σ) (bX (ir T X w D W l1 N1 1 e2 (Oi D 0 σ))):=by kernel_rfl
theorem aB6:Ends [1,2,3,4,5,6,7,8,9,10] (tq w T (iq T X w D 2 l [] e2) CT (Hn T X w l l1 W N1 e2) sz tk σ) (bX (ir T X w D W l1 N1 2 e2 (Oi D 2 σ))):=by kernel_rfl
theorem aB7:Ends [9,10,11,12,13,14,15,16,17,18] (tq w T (iq T X w D 0 l [] e2) (xz 0) (qW 0 0 T X w D V fg l l1 l2 F N1 N2 e2 (tm T w Dv W l2 rest N e2)) sz tk σ) (bX (ir T X w Dv W rest N 2 e2 λi=>σ 10 i)):=by revert w;refine bW (λw=>?_) (λw=>?_)<;>kernel_rfl
theorem aB8:Ends [9,10,11,12,13,14,15,16,17,18] (tq w T (iq T X w D 0 l [] e2) (xz 1) (qW 1 0 T X w D V fg l l1 l2 F N1 N2 e2 (tm T w Dv W l2 rest N e2)) sz tk σ) (bX (ir T X w Dv W rest N 2 e2 λi=>σ 10 i)):=by revert w;refine bW (λw=>?_) (λw=>?_)<;>kernel_rfl
theorem aB9:Ends [9,10,11,12,13,14,15,16,17,18] (tq w T (iq T X w D 0 l [] e2) (xz 2) (qW 2 0 T X w D V fg l l1 l2 F N1 N2 e2 (tm T w Dv W l2 rest N e2)) sz tk σ) (bX (ir T X w Dv W rest N 2 e2 λi=>σ 10 i)):=by revert w;refine bW (λw=>?_) (λw=>?_)<;>kernel_rfl
theorem aCa:Ends [9,10,11,12,13,14,15,16,17,18] (tq w T (iq T X w D 2 l [] e2) (xz 0) (qW 0 2 T X w D V fg l l1 l2 F N1 N2 e2 (tm T w Dv W l2 rest N e2)) sz tk σ) (bX (ir T X w Dv W rest N 2 e2 λi=>σ 10 i)):=by revert w;refine bW (λw=>?_) (λw=>?_)<;>kernel_rfl
theorem aCb:Ends [9,10,11,12,13,14,15,16,17,18] (tq w T (iq T X w D 2 l [] e2) (xz 1) (qW 1 2 T X w D V fg l l1 l2 F N1 N2 e2 (tm T w Dv W l2 rest N e2)) sz tk σ) (bX (ir T X w Dv W rest N 2 e2 λi=>σ 10 i)):=by revert w;refine bW (λw=>?_) (λw=>?_)<;>kernel_rfl
theorem aCc:Ends [9,10,11,12,13,14,15,16,17,18] (tq w T (iq T X w D 2 l [] e2) (xz 2) (qW 2 2 T X w D V fg l l1 l2 F N1 N2 e2 (tm T w Dv W l2 rest N e2)) sz tk σ) (bX (ir T X w Dv W rest N 2 e2 λi=>σ 10 i)):=by revert w;refine bW (λw=>?_) (λw=>?_)<;>kernel_rfl
end
theorem aCd{x:Str}{n:Int}(g:L0 (Builtin.«int.__new__» ⟨[.type "int", .str x u],[]⟩) (.int n)):Told ao (av w) A U fr aa (bC "int.__new__" [.type "int", .str x u]) [] (λx=>⟨.ok (.ret (.int n (x 2))),[],[],x 0,x 1⟩):=by intro u s ak R H H j J;refine dK (by decide+kernel) F.entry_int_new (rR (F.newCall_int_1 ..) ?_);refine aH (g _ _ _ _ _ ?_);exact J (λi=>bif bZ i 0 then s.heap.objs.size else bif bZ i 1 then s.toks+1 else s.toks) _ rfl rfl rfl (λz J=>absurd J bi) ⟨H.h,H.os,H.gens,H.same⟩ λb o H J=>H
def Oj(W:List Nat)(u:ab)(n:Int):aF:=cM "int.__new__" [.type "int", .str ⟨W.toArray⟩ u] (λk=> .int n k) λ_=> .nil
def aCe(w:aj)(W:List Nat)(n:Int)(u:ab)(sz tk:Nat)(H:Xs):=(aI w 2 0 none 500).C [] H ⟨[],sz,tk,[0,0,2,0,0],Oj W u n⟩ (.call (.type "int") ⟨[.str ⟨W.toArray⟩ u],[]⟩) fin
def intOut(n:Int):(Nat->Nat)->Out:=nc (λx=>⟨.ok (.ret (.int n (x 2))),[],[],x 0,x 1⟩)
theorem aCf(w:aj)(W:List Nat)(n:Int)(u:ab)(sz tk:Nat)(H:Xs):Ends [] (aCe w W n u sz tk H) (bX (intOut n λi=>H 0 i)):=by kernel_rfl
section
theorem CU(Y:aK w aa)(J:aa.NoLimit)(W:List Nat)(n:Int)(u:ab)(H:W.length<=640)(hn:uO ⟨W.toArray⟩=some n):Any ao w aa 2 (.call (.type "int") ⟨[.str ⟨W.toArray⟩ u],[]⟩) [] (intOut n):=bS Y J 500 [0,0,2,0,0] [] (λz z=>Oj ..) bN _ (λz=>rfl) (λJ J z z z=>dZ (λJ=>aCd (aY0 (H) hn)) λz z=>True.intro) λsz tk H=>aCf ..
theorem aCg{r:UInt64}{next:aM}(J:(b==0)=false)(H:lh (WT (decide (a< 0) !=decide (b< 0)) a.natAbs b.natAbs)=false)(h:WT (decide (a< 0) !=decide (b< 0)) a.natAbs b.natAbs=r)(k:bJ next ao w A U none aa):(cM "int.__truediv__" [.int a t, .int b u] (λk=> .float r k) next).Ok ao (av w) A U none aa lv:=by subst h;exact dZ (λz=>eO PySem.F.slot_int_truediv PySem.F.entry_int_truediv (PySem.F.args_int_truediv_2 _ _) (aY1 a t b u (by rw[J];decide) (by rw[H];decide)) (λs=>rfl) λQ s k=>k _ _) λe z=>k e lv
theorem Ol{x r:UInt64}{i:Int}{next:aM}(H:lh (d7 i)=false)(h:iJ x (d7 i)=r)(k:bJ next ao w A U none aa):(cM "float.__mul__" [.float x t, .int i u] (λk=> .float r k) next).Ok ao (av w) A U none aa lv:=by subst h;exact dZ (λz=>eO WF WG (WH _ _) (aU7 x t i u (by refine rR H ?_;decide)) (λs=>rfl) λQ s k=>k _ _) λe z=>k e lv
theorem Om{x r:UInt64}{i:Int}{next:aM}(H:lh (d7 i)=false)(J:kZ (d7 i)=false)(h:gY x (d7 i)=r)(k:bJ next ao w A U none aa):(cM "float.__truediv__" [.float x t, .int i u] (λk=> .float r k) next).Ok ao (av w) A U none aa lv:=by subst h;exact dZ (λz=>eO aUp aUq (aUr _ _) (aY2 x t i u (by rw[H];decide) (by rw[J];decide)) (λs=>rfl) λQ s k=>k _ _) λe z=>k e lv
structure tw(ao:Prop)(w:aj)(aa:aw)(κ:Nat)(V:DV)(fg:Int)(r g b:UInt64):Prop where
 hsv:∀t u x:ab,Any ao w aa 5 (gG 182 [.float r t, .float g u, .float b x]) [] (cR V.h V.s V.v)
 inf:lh (d7 fg)=false
 way:(κ=0/\lh V.q=false/\WT (decide (fg< 0) !=decide ((64:Int)< 0)) fg.natAbs 64=V.q/\uH V.h V.q=V.m/\(WI V.m e6).2=V.n/\∀t u x:ab,Any ao w aa 5 (vy V.n V.s V.v t u x) [] (cR V.r V.g V.b))\/
  (κ=1/\iJ V.s (d7 fg)=V.m/\gY V.m (d7 4)=V.n/\∀t u x:ab,Any ao w aa 5 (vy V.h V.n V.v t u x) [] (cR V.r V.g V.b))\/
  (κ=2/\iJ V.v (d7 fg)=V.m/\gY V.m (d7 4)=V.n/\∀t u x:ab,Any ao w aa 5 (vy V.h V.s V.n t u x) [] (cR V.r V.g V.b))
theorem On:lh (d7 4)=false:=by decide+kernel
theorem Oo:kZ (d7 4)=false:=by decide+kernel
theorem zP{c:bB}{a b d:UInt64}{next:aM}(h:Any ao w aa 5 c [] (cR a b d))(k:bJ next ao w A U none aa):(xy c a b d next).Ok ao (av w) A U none aa lv:=⟨rfl,bN,h,λx z z=>k x _⟩
theorem aCh{κ:Nat}{V:DV}{fg:Int}{r g b:UInt64}(H:tw ao w aa κ V fg r g b){J Y:ab}{Z z:Nat}{v:Nat->Nat}{next:(Nat->Nat)->(Nat->Nat)->(Nat->Nat)->aF}(k:∀m y e lv,(next m y e).Ok ao (av w) A U none aa lv):(Oh κ V fg J Y Z z v next).Ok ao (av w) A U none aa lv:=by
 rcases H.way with ⟨rfl,a,b,c,d,e⟩|⟨rfl,a,b,c⟩|⟨rfl,a,b,c⟩
 ·exact dC (by decide+kernel) λj j=>aCg rfl (rR (show(64:Int).natAbs=64 from rfl) (rR b a)) b λj j=>zw c λj j=>Cp Cz d λj j=>zP (e _ _ _) λj j=>k ..
 ·exact dC (by decide+kernel) λj j=>dC (by decide+kernel) λj j=>Ol H.inf a λj j=>Om On Oo b λj j=>zP (c _ _ _) λj j=>k ..
 ·exact dC (by decide+kernel) λj j=>dC (by decide+kernel) λj j=>Ol H.inf a λj j=>Om On Oo b λj j=>zP (c _ _ _) λj j=>k ..
end
abbrev tC(κ:Nat):List Nat:=(qV κ).cps.toList
def tD(W:List Nat):Prop:=([⟨#[104]⟩,⟨#[115]⟩,⟨#[118]⟩]:List Str).any (· ==⟨W.toArray⟩)=false
def Op(κ:Nat)(V:DV):UInt64:=nc (match κ with
 |0=>V.n|_=>V.h)
def Oq(κ:Nat)(V:DV):UInt64:=nc (match κ with
 |1=>V.n|_=>V.s)
def Ot(κ:Nat)(V:DV):UInt64:=nc (match κ with
 |0=>V.v|1=>V.v|_=>V.n)
inductive xA(ao:Prop)(w:aj)(aa:aw)(W:List Nat)(rest:List (Nat×ab))(Dv:DS):List (Nat×ab)->UInt64->UInt64->UInt64->Option (Int×UInt64×UInt64×UInt64)->Prop
 |stop {l r g b q:_}:fb rest l W->tD W->W.length<=640->l.length<=1000->Dv.r=r->Dv.g=g->Dv.b=b->(∀p,q=some p->(Dv.fg,Dv.hu,Dv.sh,Dv.va)=p)->xA ao w aa W rest Dv l r g b q
 |Ou {l l1 l2 r g b q:_} (κ:Nat) (V:DV) (fg:Int) (F:List Nat):κ< 3->fb l1 l (tC κ)->fb l2 l1 F->F.length<=640->uO ⟨F.toArray⟩=some fg->l.length<=1000->l1.length<=1000->tw ao w aa κ V fg r g b->
   xA ao w aa W rest Dv l2 V.r V.g V.b (some (fg,Op κ V,Oq κ V,Ot κ V))->xA ao w aa W rest Dv l r g b q
section
theorem CV(XK:aK w aa)(Z:aa.NoLimit){i:Nat}{l:List (Nat×ab)}{N:Int}{next:aM}(J:[i,i+1,i+2,i+3,i+4,i+5,i+6,i+7,j].Nodup)(H:fb rest l W)(hz:l.length<=1000)(Y:W.length<=1000)(hN:N=X.n+(aL l - aL rest))(k:bJ next ao w A U none aa):(zO i j X w l rest e2 W N next).Ok ao (av w) A U none aa lv:=⟨rfl,J,Hj XK Z H X N e2 hz Y hN,λx z z=>k x _⟩
theorem Ov{T:Nat}{H:List Nat}{b:Bool}{next:aM}(J:([⟨#[104]⟩,⟨#[115]⟩,⟨#[118]⟩]:List Str).any (· ==⟨H.toArray⟩)=b)(k:bJ next ao w A U none aa):(Hm T t H u b next).Ok ao (av w) A U none aa lv:=⟨rfl,by decide,λH z z=>aB2 (.cons _ _ (.cons _ _ (.cons _ _ .nil))) J,λx z z=>k x _⟩
theorem aCi{κ:Nat}(h:κ< 3):([⟨#[104]⟩,⟨#[115]⟩,⟨#[118]⟩]:List Str).any (· ==⟨(tC κ).toArray⟩)=true:=by
 rcases κ with _|_|_|κ
 ·decide+kernel
 ·decide+kernel
 ·decide+kernel
 ·exact absurd h (dA.mpr (dG ..))
theorem aCj{D:DS}(W:List Nat)(e:Nat->Nat)(Z:Dv.r=D.r)(J:Dv.g=D.g)(h3:Dv.b=D.b)(Y:Dv.fg=D.fg)(h5:Dv.hu=D.hu)(H:Dv.sh=D.sh)(h7:Dv.va=D.va):D.ext W e=Dv.ext W e:=by unfold DS.ext;simp only[Z,J,h3,Y,h5,H,h7]
theorem Ow(Y:aK w aa)(J:aa.NoLimit){T:TF}{l:List (Nat×ab)}{N:Int}(H:fb rest l W)(nk:tD W)(hz:l.length<=1000)(Z:W.length<=1000)(hN:N=X.n+(aL l - aL rest)):(Hn T X w l rest W N e2).Ok ao (av w) A U none aa lv:=CV Y J (by decide) H hz Z hN λa z=>Ov nk λc z=>⟨rfl,by decide,CR Y J _ _ _ none e2,λz z z=>True.intro⟩
theorem Ox(XK:aK w aa)(Z:aa.NoLimit){κ:Nat}{T:TF}{D:DS}{V:DV}{fg:Int}{l J l2:List (Nat×ab)}{F:List Nat}{N1 Y:Int}{next:DS->LX->aF}(om:κ< 3)(r1:fb J l (tC κ))(r2:fb l2 J F)(hF:F.length<=640)(hi:uO ⟨F.toArray⟩=some fg)(hz:l.length<=1000)(ku:J.length<=1000)(H:tw ao w aa κ V fg D.r D.g D.b)(Ho:N1=X.n+(aL l - aL J))(jq:Y=N1+(aL J - aL l2))(k:∀(a i v m y b:Nat->Nat)lv,(next (D.next κ V fg f a i v m y) { X with n:=Y,tn:=b 3,e1:=b 4 }).Ok ao (av w) A U none aa lv):(qW κ f T X w D V fg l J l2 F N1 Y e2 next).Ok ao (av w) A U none aa lv:=by
 have J:(tC κ).length<=1000:=by show 1<=1000;decide
 exact CV XK Z (by decide) r1 hz J Ho λa z=>Ov (aCi om) λc z=>CV XK Z (by decide) r2 ku (aE hF (by decide)) jq λb z=>⟨rfl,bN,CU XK Z F fg _ hF hi,λi z z=>zP (H.hsv _ _ _) λv z=>aCh H λm y z z=>k ..⟩
theorem aCk(Z:aK w aa)(Y:aa.NoLimit){T:TF}{l:List (Nat×ab)}{r g b:UInt64}{q:Option (Int×UInt64×UInt64×UInt64)}(R:xA ao w aa W rest Dv l r g b q):∀(X:LX)(D:DS)(e2:Nat)(N:Int),D.r=r->D.g=g->D.b=b->q=some (D.fg,D.hu,D.sh,D.va)->N=X.n+(aL l - aL rest)->Any ao w aa 10 (qU T.L) (iq T X w D 2 l [] e2) (ir T X w Dv W rest N 2 e2):=by
 induction R with
 |stop rel nk hW hz h1 h2 h3 h4=>
  rename_i l r g b q;intro X D e2 N d1 d2 d3 d4 hN;have e4:=h4 _ d4;simp only[se]at e4;have es:ir T X w Dv W rest N 2 e2=ir T X w D W rest N 2 e2:=funext λe=>by unfold ir;simp only[aCj W e (h1.trans d1.symm) (h2.trans d2.symm) (h3.trans d3.symm) e4.1 e4.2.1 e4.2.2.1 e4.2.2.2]
  exact rR es (bS Z Y 800 CT [1,2,3,4,5,6,7,8,9,10] _ (by decide) _ (λz=>rfl) (λJ hA z z z=>Ow Z Y rel nk hz (aE hW (by decide)) hN) λsz tk σ=>aB6 ..)
 |Ou κ V fg F om r1 r2 hF hi hz ku H R ih=>
  rename_i l l1 l2 r g b q;intro X D e2 N d1 d2 d3 d4 hN;subst d1 d2 d3;have ok:∀J:aD,(qW κ 2 T X w D V fg l l1 l2 F _ _ e2 (tm T w Dv W l2 rest N e2)).Ok ao _ J J.units none aa ((iq T X w D 2 l [] e2).map (·.1)):=λJ=>
   Ox Z Y om r1 r2 hF hi hz ku H rfl rfl λa i v m y b lv=>⟨rfl,by decide,ih _ _ e2 N rfl rfl rfl rfl (bw (iB [_,_,_,_,_,_] [eQ Y0 (Y1+(Y2-Y5))] (lE Y0 (Y1+(Y2-Y3)+(Y3-Y4)+(Y4-Y5))) rfl hN) (iA [_,_,_,_,_,_] [eQ Y5 (Y0+(Y1-Y4))] (lE (Y0+(Y1-Y2)+(Y2-Y3)+(Y3-Y4)) Y5) [-1] 1 rfl hN)),λz z z=>True.intro⟩;rcases κ with _|_|_|κ
  ·exact bS Z Y 800 _ [9,10,11,12,13,14,15,16,17,18] _ (by decide) _ (λz=>rfl) (λJ hA z z z=>ok J) λsz tk σ=>aCa ..
  ·exact bS Z Y 800 _ [9,10,11,12,13,14,15,16,17,18] _ (by decide) _ (λz=>rfl) (λJ hA z z z=>ok J) λsz tk σ=>aCb ..
  ·exact bS Z Y 800 _ [9,10,11,12,13,14,15,16,17,18] _ (by decide) _ (λz=>rfl) (λJ hA z z z=>ok J) λsz tk σ=>aCc ..
  ·exact absurd om (dA.mpr (dG ..))
theorem aCl(Y:aK w aa)(J:aa.NoLimit){T:TF}{l:List (Nat×ab)}(H:fb rest l W)(nk:tD W)(Z:W.length<=640)(hz:l.length<=1000)(X:LX)(D:DS)(e2:Nat)(N:Int)(hN:N=X.n+(aL l - aL rest)):Any ao w aa 10 (qU T.L) (iq T X w D 0 l [] e2) (ir T X w D W rest N 1 e2):=bS Y J 800 CT [1,2,3,4,5,6,7,8,9,10] _ (by decide) _ (λz=>rfl) (λA' hA z z z=>Ow Y J H nk hz (aE Z (by decide)) hN) λsz tk H=>aB5 ..
theorem aCm(Z:aK w aa)(Y:aa.NoLimit){T:TF}{l l1 l2:List (Nat×ab)}(κ:Nat)(V:DV)(fg:Int)(F:List Nat)(om:κ< 3)(r1:fb l1 l (tC κ))(r2:fb l2 l1 F)(hF:F.length<=640)(hi:uO ⟨F.toArray⟩=some fg)(hz:l.length<=1000)(ku:l1.length<=1000)(D:DS)(H:tw ao w aa κ V fg D.r D.g D.b)(R:xA ao w aa W rest Dv l2 V.r V.g V.b (some (fg,Op κ V,Oq κ V,Ot κ V)))(X:LX)(e2:Nat)(N:Int)(hN:N=X.n+(aL l - aL rest)):Any ao w aa 10 (qU T.L) (iq T X w D 0 l [] e2) (ir T X w Dv W rest N 2 e2):=by
 have ok:∀J:aD,(qW κ 0 T X w D V fg l l1 l2 F _ _ e2 (tm T w Dv W l2 rest N e2)).Ok ao _ J J.units none aa ((iq T X w D 0 l [] e2).map (·.1)):=λJ=>
  Ox Z Y om r1 r2 hF hi hz ku H rfl rfl λa i v m y b lv=>⟨rfl,by decide,aCk Z Y R _ _ e2 N rfl rfl rfl rfl (bw (iB [_,_,_,_,_,_] [eQ Y0 (Y1+(Y2-Y5))] (lE Y0 (Y1+(Y2-Y3)+(Y3-Y4)+(Y4-Y5))) rfl hN) (iA [_,_,_,_,_,_] [eQ Y5 (Y0+(Y1-Y4))] (lE (Y0+(Y1-Y2)+(Y2-Y3)+(Y3-Y4)) Y5) [-1] 1 rfl hN)),λz z z=>True.intro⟩;rcases κ with _|_|_|κ
 ·exact bS Z Y 800 _ [9,10,11,12,13,14,15,16,17,18] _ (by decide) _ (λz=>rfl) (λJ H z z z=>ok J) λsz tk σ=>aB7 ..
 ·exact bS Z Y 800 _ [9,10,11,12,13,14,15,16,17,18] _ (by decide) _ (λz=>rfl) (λJ H z z z=>ok J) λsz tk σ=>aB8 ..
 ·exact bS Z Y 800 _ [9,10,11,12,13,14,15,16,17,18] _ (by decide) _ (λz=>rfl) (λJ H z z z=>ok J) λsz tk σ=>aB9 ..
 ·exact absurd om (dA.mpr (dG ..))
end
section
open PySem PySem.Float64
set_option exponentiation.threshold 3000
set_option maxHeartbeats 1000000
section
theorem aCn(k:Nat):N k 0=0:=Bz _
theorem Oy{P:Nat}{F B:Int}{r g b:UInt64}(h:F=0\/B=0)(C:d9 P F B r g b):∃J:Int,(J=if F=0 then B else 0)/\Is r (N 21 (8192*J))/\Is g (N 21 (8192*J))/\Is b (N 21 (8192*J)):=by
 obtain⟨a,H,c⟩:=C;rw[vv]at a H c;refine⟨_,rfl,?_⟩;rcases h with h|h
 ·subst h;simp only[yN,Bz,uG,aU8]at a H c;exact⟨a,H,c⟩
 ·subst h;simp only[yN,Bz,uG,aU8]at a H c;have:(if F=0 then(0:Int)else 0)=0:=by split<;>rfl
  exact rR (this ..) (rR (yN ..) ⟨a,H,c⟩)
theorem Hp{P:Nat}{F B:Int}{r g b:UInt64}(hP:P< 64)(hF:0<=F)(cg:F<=256)(hB:0<=B)(bF:B<=256)(C:d9 P F B r g b):∃(h s v:UInt64)(P':Nat)(F' J:Int),(∀aa:aw,aK w aa->aa.NoLimit->∀t u x:ab,Any ao w aa 5 (gG 182 [.float r t, .float g u, .float b x]) [] (cR h s v))/\Is h (N 6 P')/\Is s (N 8 F')/\Is v (N 8 J)/\((0< F/\0< B/\P'=P/\F'=F/\J=B)\/((F=0\/B=0)/\P'=0/\F'=0/\J=if F=0 then B else 0)):=by
 by_cases Y:0< F/\0< B
 ·refine YA (aAp hP Y.1 cg Y.2 bF C) λV eq1 eq2 eq3 H mz hs Ih Is' Im=>?_;subst eq1;subst eq2;subst eq3;exact⟨_,_,_,P,F,B,λaa XK Z t u x=>Z9 XK Z V t u x H mz hs,Ih,Is',Im, .inl ⟨Y.1,Y.2,rfl,rfl,rfl⟩⟩
 ·have hg:=z0 hF hB Y;refine hO λH aY=>?_;obtain⟨J,eB,Ir,Ig,Ib⟩:=Oy hg C;refine aY ?_;have mx:=GS Ir Ig Ib ⟨.inl rfl,fx _,fx _,fx _⟩;refine⟨0,0,fM ..,0,0,J,λaa XK Z t u x=>aAa XK Z (pS 0 r g b 0) t u x rfl rfl ?_ rfl,?_,?_,?_, .inr ⟨hg,rfl,rfl,eB⟩⟩
  ·show iR (iN ..) (fM ..)=true;rw[vq (GT Ir Ig Ib ⟨.inl rfl,fx _,fx _,fx _⟩) mx,decide_eq_true_eq]
  ·exact xm
  ·exact xm
  ·exact rR (@sR 8 13 J (by decide)) (rR (show J*2 ^ 13=8192*J from bw (bR [eQ Y0 (Ax.m 8192 Y1)] (lE Y0 (Ax.m 8192 Y1)) rfl (fk (J) _)) (cP [eQ Y1 (Ax.m 8192 Y0)] (lE (Ax.m 8192 Y0) Y1) [-1] 1 rfl (fk (J) _))) mx)
theorem zQ{P:Nat}{F B:Int}{h s v:UInt64}(hP:P< 64)(hF:0<=F)(cg:F<=256)(hB:0<=B)(bF:B<=256)(Ih:Is h (N 6 P))(Js:Is s (N 8 F))(Z:Is v (N 8 B)):∃r g b:UInt64,(∀aa:aw,aK w aa->aa.NoLimit->∀t u x:ab,Any ao w aa 5 (vy h s v t u x) [] (cR r g b))/\d9 P F B r g b:=by
 by_cases hc:0< F
 ·obtain⟨V,rfl,rfl,rfl,hi,H,r',g',b',e,C⟩:=aAt hP hc cg hB bF Ih Js Z;refine⟨r',g',b',λaa Y J t u x=>?_,C⟩;have:=aAg (ao:=ao) Y J V t u x hi H;simp only[e]at this;exact this
 ·have hz:F=0:=bw (bf [lE Y0 0] (lE Y0 0) rfl (fH.mp hc)) (bf [lE 0 Y0] (lE 0 Y0) rfl hF);subst hz;refine⟨v,v,v,λaa Y J t u x=>aAf Y J ⟨h,s,v,0,0,0,0,0,0,0,0,0,0,0⟩ t u x ?_,?_⟩;·rw[vq Js xm,decide_eq_true_eq,aCn]
  ·have e:∀x,Li B 0 x=B*2 ^ 13:=λx=>by unfold Li;grind
   have j:=@sR 8 13 B (by decide)▸Z;exact⟨by rw[e];exact j,by rw[e];exact j,rR (e ..) j⟩
theorem Hq{P P':Nat}{F B H:Int}{r g b:UInt64}(C:d9 P' 0 H r g b)(e:(F=0/\B=H)\/(B=0/\H=0)):d9 P F B r g b:=by
 obtain⟨c1,c2,c3⟩:=C;have J:∀x y,Li B F x=Li H 0 y:=λx y=>by simp only[vv,vv];rcases e with ⟨Z,Y⟩|⟨Z,Y⟩<;>subst Z Y<;>simp
 exact⟨J _ _▸c1,J _ _▸c2,J _ _▸c3⟩
theorem aCo:∀i< 64,isInf (ofInt ((i:Nat):Int))=false/\isInf (ofFrac (decide (((i:Nat):Int)< 0) !=decide ((64:Int)< 0)) ((i:Nat):Int).natAbs 64)=false/\jQ (ofFrac (decide (((i:Nat):Int)< 0) !=decide ((64:Int)< 0)) ((i:Nat):Int).natAbs 64) (((i:Nat):Int)*2 ^ 1068)=true:=by decide+kernel
theorem aCp{P:Nat}{F B:Int}{r g b:UInt64}(hP:P< 64)(hF:0<=F)(cg:F<=256)(J:0<=B)(bF:B<=256)(hf:fg< 64)(C:d9 P F B r g b):∃V:DV,(∀aa:aw,aK w aa->aa.NoLimit->tw ao w aa 0 V fg r g b)/\d9 ((P+fg) % 64) F B V.r V.g V.b:=by
 refine hO λci aY=>?_;obtain⟨h,s,v,Z,F',B',A,Ih,Js,Jv,H⟩:=Hp hP hF cg J bF C;refine aY ?_;have Oz:Z< 64:=by rcases H with h|h;exact h.2.2.1▸hP;(rw[h.2.1];decide)
 have OA:0<=F'/\F'<=256:=by rcases H with h|h;exact h.2.2.2.1▸⟨hF,cg⟩;(rw[h.2.2.1];decide)
 have kE:0<=B'/\B'<=256:=by
  rcases H with h|⟨z,z,z,h⟩
  ·exact⟨cP [lE 0 Y1,eQ Y0 Y1] (lE 0 Y0) [1,-1] 1 rfl J h.2.2.2.2,bR [lE Y1 256,eQ Y0 Y1] (lE Y0 256) rfl bF h.2.2.2.2⟩
  ·exact h▸B8 J bF (by decide)
 refine cJ (aCo fg hf) λi1 i2 i3=>?_;have t:=aAl (Z+fg) (aT [lL Y1 64,lL Y0 64] (lL (Y0+Y1) 128) rfl hf Oz);have n:Is (divmod (add h _) e6).2 (N 6 _):=rR ((zB Ih (m6 i3 rfl) (ij (iB [(Z:Nat),(fg:Nat)] [lE 0 Y0,lE 0 Y1] (lE 0 (Y0+Y1)) rfl (bG _) (bG _)) (iB [(Z:Nat),(fg:Nat)] [lL Y1 64,lL Y0 64] (lE (Y0+Y1) 100000000) rfl (cc.mpr hf) (cc.mpr Oz))) (by decide)).inj (m6 t.1 rfl)) (m6 t.2 rfl);obtain⟨r',g',b',A2,C2⟩:=zQ (uM _ (by decide)) OA.1 OA.2 kE.1 kE.2 n Js Jv;refine⟨⟨h,s,v,_,_,_,r',g',b'⟩,λaa XK NL=>⟨A aa XK NL,i1, .inl ⟨rfl,i2,rfl,rfl,rfl,A2 aa XK NL⟩⟩,?_⟩;rcases H with ⟨z,z,rfl,rfl,rfl⟩|⟨hg,z,rfl,Y⟩
 ·exact C2
 ·refine Hq C2 ?_;by_cases H:F=0;·rw[if_pos H]at Y;exact .inl ⟨H,Y.symm⟩
  ·rw[if_neg H]at Y;exact .inr ⟨hg.elim (λZ=>(WU H).elim (λH=>bw (cP [lE 0 Y1,lL Y1 0] (lE Y0 0) [1,1] 0 rfl hF H) (J)) (λH=>bw (cP [eQ Y1 0,lL 0 Y1] (lE Y0 0) [1,1] 0 rfl Z H) (J))) (λZ=>bw (bf [eQ Y0 0] (lE Y0 0) rfl Z) (J)),Y⟩
theorem zR:∀i< 5,isInf (ofInt ((i:Nat):Int))=false/\jQ (ofInt ((i:Nat):Int)) (((i:Nat):Int)*2 ^ 1074)=true:=by decide+kernel
theorem aCq:Is (ofInt 4) (N 8 1024):=mw (by decide+kernel)
theorem CW{x:UInt64}{c:Int}(hx:Is x (N 8 a))(Y:0<=a)(Z:a<=256)(J:fg< 5)(H:a*fg=4*c):Is (div (mul x (ofInt (fg:Int))) (ofInt 4)) (N 8 c):=by refine d8 (zR fg J) λz i2=>?_;have b:=my Y Z (bG fg) (show _<=4 by exact iB [(fg:Nat)] [lL Y0 5] (lE Y0 4) rfl (cc.mpr J));have m:Is _ (N (8+0) _):=qR hx (m6 i2 rfl) Y ((bG _)) (ij (b.1) (bf [lE Y0 (Ax.m 256 4)] (lE Y0 100000000) rfl b.2)) (by decide);exact zC m aCq (bf [lE 0 Y0] (lE 0 Y0) rfl b.1) (by decide) (cP [eQ Y1 (.m 4 Y0),lE 0 Y1] (lE 0 Y0) [1,1] 4 rfl H b.1) (ij (cP [eQ Y1 (Ax.m 4 Y0),lE 0 Y1] (lE 0 Y0) [1,1] 4 rfl H b.1) (cP [eQ Y1 (Ax.m 4 Y0),lE Y1 (Ax.m 256 4)] (lE Y0 100000000) [-1,1] 4 rfl H b.2)) (by decide) (by omega)
theorem aCr{P:Nat}{F B F2:Int}{r g b:UInt64}(hP:P< 64)(hF:0<=F)(cg:F<=256)(H:0<=B)(bF:B<=256)(Z:fg< 5)(Y:F*fg=4*F2)(C:d9 P F B r g b):∃V:DV,(∀aa:aw,aK w aa->aa.NoLimit->tw ao w aa 1 V fg r g b)/\d9 P F2 B V.r V.g V.b:=by
 refine hO λci aY=>?_;obtain⟨h,s,v,P',F',B',A,Ih,Js,Jv,way⟩:=Hp (ao:=ao) (w:=w) hP hF cg H bF C;refine aY ?_;have b4:=my hF cg (bG fg) (show _<=4 by exact iB [(fg:Nat)] [lL Y0 5] (lE Y0 4) rfl (cc.mpr Z));rcases way with ⟨z,z,rfl,rfl,rfl⟩|⟨hg,rfl,rfl,hb⟩
 ·have n:=CW Js hF cg Z Y;refine hO λkB d5=>?_;obtain⟨r',g',b',A2,C2⟩:=zQ hP (by exact cP [eQ Y1 (.m 4 Y0),lE 0 Y1] (lE 0 Y0) [1,1] 4 rfl Y b4.1) (by exact cP [eQ Y1 (.m 4 Y0),lE Y1 (.m 256 4)] (lE Y0 256) [-1,1] 4 rfl Y b4.2) H bF Ih n Jv;exact d5 ⟨⟨h,s,v,_,0,_,r',g',b'⟩,λaa XK J=>⟨A aa XK J,(zR fg Z).1, .inr (.inl ⟨rfl,rfl,rfl,A2 aa XK J⟩)⟩,C2⟩
 ·have n:=CW (c:=0) Js (by decide) (by decide) Z (by simp);have kE:=hb▸B8 H bF (by decide);refine hO λkB d5=>?_;obtain⟨r',g',b',A2,C2⟩:=zQ (by decide) (by decide) (by decide) kE.1 kE.2 Ih n Jv;refine d5 ⟨⟨h,s,v,_,0,_,r',g',b'⟩,λaa XK J=>⟨A aa XK J,(zR fg Z).1, .inr (.inl ⟨rfl,rfl,rfl,A2 aa XK J⟩)⟩,Hq C2 ?_⟩;by_cases hz:F=0
  ·subst hz;exact .inl ⟨bw (cP [eQ (.m 0 Y1) (.m 4 Y0)] (lE Y0 0) [-1] 4 rfl Y) (cP [eQ (.m 0 Y1) (.m 4 Y0)] (lE 0 Y0) [1] 4 rfl Y),hb.symm⟩
  ·rw[if_neg hz]at hb;exact .inr ⟨hg.elim (λY=>(WU hz).elim (λJ=>bw (cP [lE 0 Y1,lL Y1 0] (lE Y0 0) [1,1] 0 rfl hF J) (H)) (λJ=>bw (cP [eQ Y1 0,lL 0 Y1] (lE Y0 0) [1,1] 0 rfl Y J) (H))) (λY=>bw (bf [eQ Y0 0] (lE Y0 0) rfl Y) (H)),hb⟩
theorem aCs{P:Nat}{F B:Int}{r g b:UInt64}(hP:P< 64)(hF:0<=F)(cg:F<=256)(J:0<=B)(bF:B<=256)(hf:fg< 5)(H:B*fg=4*B2)(C:d9 P F B r g b):∃V:DV,(∀aa:aw,aK w aa->aa.NoLimit->tw ao w aa 2 V fg r g b)/\d9 P F B2 V.r V.g V.b:=by
 refine hO λci aY=>?_;obtain⟨h,s,v,P',F',B',A,Ih,Js,Jv,way⟩:=Hp (ao:=ao) (w:=w) hP hF cg J bF C;refine aY ?_;have b4:=my J bF (bG fg) (show _<=4 by exact iB [(fg:Nat)] [lL Y0 5] (lE Y0 4) rfl (cc.mpr hf));rcases way with ⟨z,z,rfl,rfl,rfl⟩|⟨hg,rfl,rfl,Z⟩
 ·have n:=CW Jv J bF hf H;obtain⟨r',g',b',A2,C2⟩:=zQ hP hF cg (by exact cP [eQ Y1 (.m 4 Y0),lE 0 Y1] (lE 0 Y0) [1,1] 4 rfl H b4.1) (by exact cP [eQ Y1 (.m 4 Y0),lE Y1 (.m 256 4)] (lE Y0 256) [-1,1] 4 rfl H b4.2) Ih Js n;exact⟨⟨h,s,v,_,0,_,r',g',b'⟩,λaa XK Y=>⟨A aa XK Y,(zR fg hf).1, .inr (.inr ⟨rfl,rfl,rfl,A2 aa XK Y⟩)⟩,C2⟩
 ·have hc:∃c:Int,B'*fg=4*c/\0<=c/\c<=256/\((F=0/\B2=c)\/(B2=0/\c=0)):=by
   by_cases hz:F=0
   ·rw[if_pos hz]at Z;subst Z;exact⟨B2,H,cP [eQ Y1 (.m 4 Y0),lE 0 Y1] (lE 0 Y0) [1,1] 4 rfl H b4.1,cP [eQ Y1 (.m 4 Y0),lE Y1 (.m 256 4)] (lE Y0 256) [-1,1] 4 rfl H b4.2, .inl ⟨hz,rfl⟩⟩
   ·rw[if_neg hz]at Z;subst Z;have hb0:B=0:=hg.elim (λq2=>(WU hz).elim (λq1=>bw (cP [lE 0 Y1,lL Y1 0] (lE Y0 0) [1,1] 0 rfl hF q1) (J)) (λq1=>bw (cP [eQ Y1 0,lL 0 Y1] (lE Y0 0) [1,1] 0 rfl q2 q1) (J))) (λq2=>bw (bf [eQ Y0 0] (lE Y0 0) rfl q2) (J));subst hb0;exact⟨0,by simp,by decide,by decide, .inr ⟨by simp at H;exact bw (g9 [eQ 0 (.m 4 Y0)] (lE Y0 0) [-1] 4 rfl H) (g9 [eQ 0 (.m 4 Y0)] (lE 0 Y0) [1] 4 rfl H),rfl⟩⟩
  refine hO λkB d5=>?_;obtain⟨c,c1,c2,c3,c4⟩:=hc;refine d5 ?_;have H:=Z▸B8 J bF (by decide);have n:=CW Jv H.1 H.2 hf c1;refine hO λkB d5=>?_;obtain⟨r',g',b',A2,C2⟩:=zQ (by decide) (by decide) (by decide) c2 c3 Ih Js n;exact d5 ⟨⟨h,s,v,_,0,_,r',g',b'⟩,λaa XK Y=>⟨A aa XK Y,(zR fg hf).1, .inr (.inr ⟨rfl,rfl,rfl,A2 aa XK Y⟩)⟩,Hq C2 c4⟩
end
end
section
open PySem PySem.Float64
set_option exponentiation.threshold 3000
set_option maxHeartbeats 1000000
section
theorem aCt{P:Nat}{r g b:UInt64}(hP:P< 64)(cg:F<=256)(bF:B<=256)(C:d9 P F B r g b):∃h l p:UInt64,(∀aa:aw,aK w aa->aa.NoLimit->∀t u x:ab,Any ao w aa 5 (gG 175 [.float r t, .float g u, .float b x]) [] (cR h l p))/\Is l (N 22 (Bo B F))/\((0< F/\0< B/\Is h (N 6 P)/\∃z:Int,Is p z/\0< z/\Is (mul p (ofInt 1024)) (z*1024)/\z*1024 / 2 ^ 1074=((1024*(32*(B*F))/ min (Bo B F) (4194304 - Bo B F):Nat):Int))\/((F=0\/B=0)/\h=0/\p=0)):=by
 by_cases Y:0< F/\0< B
 ·refine YD (aAz hP Y.1 cg Y.2 bF C) λV lo eq1 eq2 eq3 H h1 h2 h3 h4 h5 Ih Il z=>?_;subst eq1;subst eq2;subst eq3;exact⟨_,_,_,λaa XK Z t u x=>aAb XK Z V t u x H h1 h2 h3 h4 h5,Il, .inl ⟨Y.1,Y.2,Ih,z⟩⟩
 ·have hg:=z0 (bG _) (bG _) λq=>Y ⟨cc.mp q.1,cc.mp q.2⟩;refine Gk (Oy hg C) λH eB Y Ig Ib=>?_;have mx:=GS Y Ig Ib ⟨.inl rfl,fx _,fx _,fx _⟩;have mn:=GT Y Ig Ib ⟨.inl rfl,fx _,fx _,fx _⟩;have J:=eB▸B8 (bG _) (bK.mpr bF) (by decide);have e:((Bo B F:Nat):Int)=8192*H+8192*H:=by
   unfold Bo;rcases hg with h|h
   ·have:F=0:=c8 (bK.mp (iB [(F:Nat)] [eQ Y0 0] (lE Y0 0) rfl h)) (f4 _);subst this;exact rR eB (bw (iB [(B:Nat)] [] (lE (Ax.m 16384 Y0) ((Ax.m 8192 Y0)+(Ax.m 8192 Y0))) rfl) (iB [(B:Nat)] [] (lE ((Ax.m 8192 Y0)+(Ax.m 8192 Y0)) (Ax.m 16384 Y0)) rfl))
   ·have:B=0:=c8 (bK.mp (iB [(B:Nat)] [eQ Y0 0] (lE Y0 0) rfl h)) (dG ..);subst this;refine rR eB ?_;simp
  refine⟨0,_,0,λaa XK Z t u x=>aAc XK Z (pS 0 r g b 0) t u x rfl rfl ?_ rfl rfl rfl,by rw[e];exact(zC (zB mx mn (ij (g9 [lE 0 Y0] (lE 0 ((Ax.m 8192 Y0)+(Ax.m 8192 Y0))) [16384] 1 rfl J.1) (g9 [lE Y0 256] (lE ((Ax.m 8192 Y0)+(Ax.m 8192 Y0)) 100000000) [16384] 1 rfl J.2)) (by decide)) GV (g9 [lE 0 Y0] (lE 0 ((Ax.m 8192 Y0)+(Ax.m 8192 Y0))) [16384] 1 rfl J.1) (by decide) (g9 [lE 0 Y0] (lE 0 ((Ax.m 8192 Y0)+(Ax.m 8192 Y0))) [16384] 1 rfl J.1) (ij (g9 [lE 0 Y0] (lE 0 ((Ax.m 8192 Y0)+(Ax.m 8192 Y0))) [16384] 1 rfl J.1) (g9 [lE Y0 256] (lE ((Ax.m 8192 Y0)+(Ax.m 8192 Y0)) 100000000) [16384] 1 rfl J.2)) (by decide) (by omega)), .inr ⟨hg.elim (λH=> .inl (c8 (bK.mp (iB [(F:Nat)] [eQ Y0 0] (lE Y0 0) rfl H)) (dG ..))) (λH=> .inr (c8 (bK.mp (iB [(B:Nat)] [eQ Y0 0] (lE Y0 0) rfl H)) (dG ..))),rfl,rfl⟩⟩;show iR (iN ..) (fM ..)=true;rw[vq mn mx,decide_eq_true_eq]
end
end
section
open PySem
noncomputable def lB(c:Nat):Bool:=c==34||(c==92||(c==32||(c==10||(c==9||c==13))))
def pZ(H:Bool):List Nat->List Nat
 |[]=>[]|c::l=>(if(H||lB c)=true then [92,c]else [c])++pZ H l
noncomputable def qX:List Nat->List Nat
 |[]=>[]|c::l=>(if c=92\/c=34 then [92,c]else [c])++qX l
noncomputable def quoted(gr:Nat)(w:List Nat):Bool:=gr==1||w.isEmpty
def gK(gr:Nat)(w:List Nat):List Nat:=bif quoted gr w then 34::(qX w++[34])else pZ (gr==2) w
theorem map_two{A:List (Nat×ab)}{a b:Nat}{l:List Nat}(h:A.map (·.1)=a::b::l):∃p q H,A=p::q::H/\p.1=a/\q.1=b/\H.map (·.1)=l:=by
 match A,h with
 |p::q::H,h=>simp only[iK,uL]at h;exact⟨p,q,H,rfl,h.1,h.2.1,h.2.2⟩
theorem map_one{A:List (Nat×ab)}{a:Nat}{l:List Nat}(h:A.map (·.1)=a::l):∃p H,A=p::H/\p.1=a/\H.map (·.1)=l:=by
 match A,h with
 |p::H,h=>rw[iK,uL]at h;exact⟨p,H,rfl,h.1,h.2⟩
theorem OB{c:Nat}(h:lB c=false):isWs c=false/\c≠92/\c≠34:=by unfold lB at h;simp only[BI,beq_eq_false_iff_ne]at h;refine⟨?_,h.2.1,h.1⟩;unfold isWs;simp only[BI,beq_eq_false_iff_ne];exact⟨⟨⟨h.2.2.2.1,h.2.2.2.2.1⟩,h.2.2.2.2.2⟩,h.2.2.1⟩
section
variable {z:Nat×ab}
theorem OC{all:Bool}(hz:isWs z.1=true):∀(w:List Nat)(A:List (Nat×ab)),A.map (·.1)=pZ all w->oh false rest z (A++z::rest) w:=by
 intro w;induction w with
 |nil=>intro A h;exact BR.mp h▸ .stop hz|cons c w ih=>
  intro A h;unfold pZ at h;split at h
  ·refine B7 (map_two h) λp q Y Z H h2 h3=>?_;subst Z;subst h2;exact .xq p q H (ih Y h3)
  ·rename_i hm;refine lq (map_one h) λp Y J H h3=>?_;subst J;have sK:lB c=false:=by
    induction e:lB c with
    |false=>rfl|true=>exact absurd (by rw[e,aU9]) hm
   refine cJ (OB sK) λm1 m2 J=>?_;subst H;exact .one p m1 m2 (ih Y h3)
theorem aCu(hz:z.1=34):∀(w:List Nat)(A:List (Nat×ab)),A.map (·.1)=qX w->oh true rest z (A++z::rest) w:=by
 intro w;induction w with
 |nil=>intro A h;exact BR.mp h▸ .stop (by refine rR hz ?_;rfl)|cons c w ih=>
  intro A h;unfold qX at h;split at h
  ·refine B7 (map_two h) λp q A' J H h2 Y=>?_;subst J;subst h2;exact .xq p q H (ih A' Y)
  ·rename_i hm;refine lq (map_one h) λp A' Z H Y=>?_;subst Z;subst H;exact .one p (beq_eq_false_iff_ne.mpr λe=>hm (.inr e)) (λe=>hm (.inl e)) (ih A' Y)
def after(gr:Nat)(w:List Nat)(z:Nat×ab)(rest:List (Nat×ab)):List (Nat×ab):=bif quoted gr w then z::rest else rest
theorem OD{w:List Nat}{A:List (Nat×ab)}(H:A.map (·.1)=gK gr w)(hz:isWs z.1=true):vx (after gr w z rest) (A++z::rest) w:=by
 unfold gK at H;unfold after;induction J:quoted gr w with
 |true=>simp only[J,cond_true]at H;refine lq (map_one H) λp A' eq1 Y h2=>?_;subst eq1;refine lq (aVa.mp h2) λA1 A2 eq2 Z h4=>?_;subst eq2;refine lq (map_one h4) λy A3 eq3 h5 h6=>?_;subst eq3;refine rR (BR.mp h6) ?_;have:=aCu (rest:=z::rest) h5 w A1 Z;simp only[sj,bH,uP];exact .xu p y Y this|false=>
  simp only[J,cond_false]at H;unfold quoted at J;simp only[BI]at J;induction w with
  |nil=>injection J.2|cons c w=>
   unfold pZ at H;split at H
   ·refine B7 (map_two H) λp q A' eq4 Y h2 Z=>?_;subst eq4;subst h2;exact .xq p q z Y (OC hz w A' Z)
   ·rename_i hm;refine lq (map_one H) λp A' eq5 Y Z=>?_;subst eq5;have sK:lB c=false:=by
     induction e:lB c with
     |false=>rfl|true=>exact absurd (by rw[e,aU9]) hm
    refine cJ (OB sK) λm1 m2 m3=>?_;subst Y;exact .one p z m1 m2 m3 (OC hz w A' Z)
inductive xB:List (Nat×ab)->Prop
 |none:xB []
 |one (s:Nat×ab):isWs s.1=true->xB [s]
theorem aCv{w:List Nat}{A lead:List (Nat×ab)}(Y:xB lead)(H:A.map (·.1)=gK gr w)(J:isWs z.1=true):fb (after gr w z rest) (lead++(A++z::rest)) w:=by
 induction Y with
 |none=>exact .head (OD H J)|one s hs=>exact .ws s hs (OD H J)
theorem aCw{lead:List (Nat×ab)}(H:xB lead):fb [] lead []:=by
 induction H with
 |none=>exact .eof rfl|one s hs=>exact .N9 s hs rfl
theorem aCx{gr:Nat}{w:List Nat}(H:isWs z.1=true):∃lead,xB lead/\after gr w z rest=lead++rest:=by
 unfold after;induction quoted gr w with
 |true=>exact⟨[z], .one z H,rfl⟩|false=>exact⟨[], .none,rfl⟩
end
noncomputable def lC(k:Nat):Nat:=match k % 4 with
 |0=>32|1=>10|2=>9|_=>13
theorem aCy(k:Nat):isWs (lC k)=true:=by unfold lC;split<;>rfl
def qY:Nat->List (Nat×List Nat)->List Nat
 |_,[]=>[]|k,p::ws=>gK p.1 p.2++lC k::qY (k+1) ws
def on(k:Nat)(H:List (Nat×List Nat))(l:List (Nat×ab)):Prop:=∃lead B,xB lead/\l=lead++B/\B.map (·.1)=qY k H
theorem vz{p:Nat×List Nat}{Z:List (Nat×List Nat)}{l:List (Nat×ab)}(h:on k (p::Z) l):∃l',fb l' l p.2/\on (k+1) Z l'/\l'.length<=l.length:=by refine hO λZ aY=>lq h λlead B hl Y hB=>?_;subst Y;refine lq (aVa.mp hB) λA C J hA hC=>?_;subst J;refine lq (map_one hC) λz R H hz hR=>?_;subst H;refine aY ?_;have J:=hz▸aCy k;refine aO (@aCx R z p.1 p.2 J) λH Y e=>⟨after ..,aCv hl hA J,⟨H,R,Y,e,hR⟩,?_⟩;unfold after;induction quoted p.1 p.2<;>simp only[cond_true,cond_false,bQ,eI]<;>omega
theorem aC0{l:List (Nat×ab)}(h:on k [] l):fb [] l []:=by refine lq h λlead B J H Y=>?_;subst H;exact rR (BR.mp Y ..) (rR (dR ..) (aCw J))
theorem aC1{H:List (Nat×List Nat)}{l:List (Nat×ab)}(h:l.map (·.1)=qY 0 H):on 0 H l:=⟨[],l, .none,rfl,h⟩
end
def aC2(H:Hook):Hook:=nc (⟨H.α×Bool,λs=>(H.obs s,(s.heap.get? 1).isSome),λw=>(H.val w,true),λw h=>H.says w h/\∃o,h.get? 1=some o,λw s x=>⟨H.of w s (aVb x).1,Option.isSome_iff_exists.mp (aVb x).2⟩,λw h h' x k=>⟨H.keeps w h h' x.1 k,x.2.elim λo e=>⟨o,k _ _ e⟩⟩⟩)
abbrev vA:Hook:=aC2 Hk
abbrev Ht(w:aj):Prop:=(openEnds treeTable P w 3484).map (λs=>(openSeen q loose (importedModules P.main.body) Xt true s,vA.obs s))=some (openGood q loose,vA.val w)
theorem aC3:∀w:aj,Ht (w.withFollow "special-get-raises" false):=λw=>by kernel_rfl
theorem aC4:∀w:aj,Ht (w.withFollow "special-get-raises" true):=λw=>by kernel_rfl
theorem aC5:LeftO P q loose Xt vA.obs vA.val 3484:=λw=>byRow2 "special-get-raises" (P:=Ht) aC3 aC4 w
theorem aC6(H:WalkO q loose (XL q []) vA.says Rw.row.toRowW sA [] λf vs=>PySem.call f vs):Rw.Holds:=holds_law ws λJ=>holds_open aC5 vA.of vA.keeps (λs e=>xl_of s (LQ.mp e).1) XL.keeps Yy hp hk (λs e=>recFacts_of (LQ.mp e).2) rfl J ok bare hw H
abbrev vB(x y z r:Str)(t u v:ab)(next:aM):aF:=cM "str.replace" [.str x t, .str y u, .str z v] (λk=> .str r k) next
open PySem.Builtin.Str in
theorem Hu{x y z r:Str}{v:ab}{next:aM}(hu:(u==0||v==0)=false)(J:(u==v)=false)(Y:(y==z)=false)(hx:x.length<=1048576)(hz:z.length<=14)(H:Txt.replace x y z=r)(k:bJ next ao w A U fr aa):(vB x y z r t u v next).Ok ao (av w) A U fr aa lv:=by
 have Z:x.length+(x.length+1)*z.length<=16777216:=by exact cA [lE Y0 1048576,lE Y1 Y2,eQ Y2 (Ax.m 14 (Y0+1))] (lE (Y0+Y1) 16777216) [15,1,1] 1 rfl hx (dU _ hz) (dW _ _)
 have hl:tooLong (x.length+(occurrences x y 0 x.length (x.length+1)).length*z.length)=false:=by exact decide_eq_false (dA.mpr (b8 [lE (Y0+Y2) 16777216,lE Y1 Y2] (lE (Y0+Y1) 16777216) rfl Z (jG _ (StrLaws.occ_length_le ..))))
 refine dZ (λj=>eO PySem.F.slot_str_replace PySem.F.entry_str_replace (PySem.F.args_str_replace_3 ..) (gives_str_replace x y z t u v λj=>⟨hu,J,Y,hl⟩) (λs=>ic ..) λQ s h=>?_) λe j=>k e lv;unfold Txt.replace at H;cases hc:((occurrences ..).isEmpty||_)
 ·rw[hc]at H;simp only[WJ,if_false]at H ⊢;exact rR H ⟨H▸fits_replaced y Z,h _ _⟩
 ·rw[hc]at H;simp only[if_true]at H ⊢;exact rR H (h t s.toks)
abbrev Hv(W:Str)(t:ab)(i:Nat):Obj:=nc (⟨.type "str_ascii_iterator",none, .fields #[.str W t, .int i 0],#[]⟩)
theorem aC8{W:Str}(J:W.cps.all (· < 128)=true):
  Told True (av w) A U fr aa (bC "str.__iter__" [.str W t]) [] (λe=>⟨.ok (.ret (.ref (e 2))),[],[(e 2,Hv W t 0)],e 0,e 1⟩):=by
 intro u s ak R Y H v Y;refine dK aVc.plain F.entry_str_iter (aVc.check _ _ _ _ _ _ _ _ (ic ..) (F.args_str_iter_1 _) ?_);show aG _ _ (do ret (<-newFields _ [.str W t,eJ 0])) ..;refine rR J (au (kd (aH ?_)));exact Y (λi=>match i with|0=>s.heap.objs.size+1|1=>s.toks|_=>s.heap.objs.size) { s with heap:=s.heap.push (Hv ..) } (qv ..) rfl rfl (λp J=>by
  refine rR (bI.mp J) ?_;induction z:s.heap.get? s.heap.objs.size with
  |none=>rfl|some o'=>exact absurd (dJ z) (jI _)) ⟨H.h.alloc rfl,H.os,H.gens,H.same⟩ λb o e j=>cZ _ e
abbrev CX(W:Str)(t:ab)(next:aM):aF:= .cons (some 0) (bC "str.__iter__" [.str W t]) [] [] (λe=>⟨.ok (.ret (.ref (e 2))),[],[(e 2,Hv W t 0)],e 0,e 1⟩) next
theorem Hw{W:Str}{next:aM}(H:W.cps.all (· < 128)=true)(k:bJ next True w A U fr aa):(CX W t next).Ok True (av w) A U fr aa lv:=⟨rfl,bN,λJ z z=>aC8 H,λx z z=>k x _⟩
section
theorem aC9{T J Hx:String}{Bi:Builtin}{args:List ag}{Q₁:ag->am->Prop}(Y:TypeCalled T J Hx)(hct:checkTypeCall T ⟨args,[]⟩=pure ())(aDa:mf gz Hx=some Bi)(vh:eH (aR prog w) A.in1 (.call (.builtin J) ⟨.type T::args,[]⟩) (FJ Q₁ λe s'=>R (.error e) s') s)(aDb:∀H ba,Q₁ H ba->ba.TypeIs H T/\lf Hx ⟨H::args,[]⟩/\aG (aR prog w) A.in1.in1 (Bi ⟨H::args,[]⟩) (λJ s'=>match J with| .done f=>FJ (λr Z=>r= .none/\R (.ok (.ret H)) Z) (λe s'=>R (.error e) s') (.ok f) s'| .again c'=>c'.quiet=true/\eH (aR prog w) A.in1 c' (FJ (λr Z=>r= .none/\R (.ok (.ret H)) Z) λe s'=>R (.error e) s') s') (λe s'=>FJ (λr Z=>r= .none/\R (.ok (.ret H)) Z) (λe s'=>R (.error e) s') (.error e) s') ba):eH (aR prog w) A (.call (.type T) ⟨args,[]⟩) R s:=by
 refine ve Y.mro λc J J=>?_;have J:=Y.made;have J:=Y.sub;refine aUe (aH ⟨aVd _ (by decide+kernel),qw F.entry_type_call ?_⟩);have J:=Y.notType;have J:=Y.canCreate;repeat (any_goals (first|assumption|wp_step))
 refine Ma vh λr ba hr=>?_;induction r with
 |error e=>exact hr|ok fl=>
  induction fl with
  |ret H=>
   refine cJ (aDb _ _ hr) λhT nf hsi=>?_;have J:=Y.init.lookup;have J:=Y.init.bind H;repeat (any_goals (first|assumption|wp_step))
   refine Ma (dK Y.init.plain aDa (Y.init.check _ _ _ _ _ _ _ _ hT nf hsi)) λaDc Z HA=>?_;induction aDc with
   |error e=>exact HA|ok aDd=>
    induction aDd with
    |ret r=>obtain⟨rfl,H⟩:=HA;repeat (any_goals (first|assumption|wp_step))
    |_=>exact HA.elim
  |_=>exact hr.elim
end
def CY(v:ag):Tok:=nc (match v with
 | .str _ u=>u|_=>0)
noncomputable def oo(l:List Nat)(y:Nat->Nat):List Value:=l.mapIdx λi c=>ag.str ⟨#[c]⟩ (y (100+i))
theorem aDe{x:Str}{H:Array ag}(h:ItemsOf (SignAt x) H x.cps.size):H=(oo x.cps.toList λi=>CY (H.getD (i - 100) .none)).toArray:=by
 apply Array.ext';unfold oo;refine jH λi=>?_;simp only[gB,BS,BS];induction z:H[i]? with
 |none=>
  have:x.cps[i]?=none:=by rw[Array.getElem?_eq_none_iff]at z ⊢;exact rL h.1 z
  refine rR this ?_;rfl
 |some v=>
  refine c7 (h.2 i v z) λc u Y J=>?_;subst J;refine rR Y (rR (show 100+i - 100=i by exact c8 (aT [eQ (Y0+100) (100+Y1)] (lE Y0 Y1) rfl (bY (fG ..))) (fA [eQ (Y1+100) (100+Y0)] (lE Y0 Y1) [-1] 1 rfl (bY (fG ..)))) ?_);have:H.getD i .none=ag.str ⟨#[c]⟩ u:=by refine rR (aVe) (rR z ?_);rfl
  refine rR this ?_;rfl
theorem aDf(hA:A.handled=none)(x:Str)(t:ab)(hn:x.cps.size<=gA):Told True (av w) A U fr aa (.call (.type "list") ⟨[.str x t],[]⟩) [] (λy=>⟨.ok (.ret (.ref (y 2))),[],[(y 2,listOf (oo x.cps.toList y).toArray (y 3))],y 0,y 1⟩):=by
 refine λu s ak R hu Z v hR=>aC9 (Q₁:=λY ba=>Y= .ref s.heap.objs.size/\ba={ s with heap:=s.heap.push { cls:= .type "list",data:= .seq #[] } }) F.called_list (F.typeCall_list_1 _) F.entry_list_init
  (code_list_new _ ⟨rfl,rfl⟩) λY ba aq=>?_;obtain⟨rfl,rfl⟩:=aq;have hS:(s.heap.push { cls:= .type "list",data:= .seq #[] }).get? s.heap.objs.size=some { cls:= .type "list",data:= .seq #[] }:=gZ _ rfl;refine⟨⟨_,hS,rfl⟩,F.args_list_init_2 _ _,wpAny_list_init_str (A:={ A with units:=u }.in1) (hn:=hn) hA x t _ hS λh' tk CZ c' Y kF zT=>?_⟩;have H:∀b o,s.heap.get? b=some o->h'.get? b=some o:=λb o e=>Y b o (dw (dJ e)) (cZ _ e);refine⟨rfl,?_⟩;have e2:oo x.cps.toList (λi=>CY (CZ.getD (i - 100) .none))=oo x.cps.toList (λi=>match i with|0=>h'.objs.size|1=>tk|2=>s.heap.objs.size|3=>c'|i=>CY (CZ.getD (i - 100) .none)):=by
  unfold oo;refine jH λi=>?_;rw[gB,gB];induction x.cps.toList[i]? with
  |none=>rfl|some c=>refine rR (show 100+i=_+4 by exact c8 (bu [] (lE (100+Y0) (96+Y0+4)) rfl) (bu [] (lE (96+Y0+4) (100+Y0)) rfl)) ?_;rfl
 refine hR (λi=>match i with|0=>h'.objs.size|1=>tk|2=>s.heap.objs.size|3=>c'|i=>CY (CZ.getD (i - 100) .none)) { s with heap:=h',toks:=tk } rfl rfl rfl (λp J=>by
  rw[bI.mp J];induction z:s.heap.get? s.heap.objs.size with
  |none=>rfl|some o'=>exact absurd (dJ z) (jI _)) ?_ λb o e j=>H b o e;refine⟨⟨λp J=>?_,cj.mpr ⟨bi,bN⟩,λb o e=>H b o (Z.h.keep b o e),λp J=>?_⟩,Z.os,Z.gens, .inl True.intro⟩;·exact rR (bI.mp J) (rL e2 (rL (aDe zT) kF))
 ·rw[bI.mp J];induction z:aa.get? s.heap.objs.size with
  |none=>rfl|some o=>exact absurd (dJ (Z.h.keep _ _ z)) (jI _)
abbrev C0(H:ab):Obj:=nc (⟨.type "slice",none, .fields #[.none, .none, .int (-1) H],#[]⟩)
theorem aDg(x:Str)(u:ab):(WV x none none (-1,u)).cps.toList=x.cps.toList.reverse:=by
 rw[step_rev_list];refine jH λi=>?_;rw[dP];by_cases h:i< x.length
 ·have H:x.cps.toList.length=x.length:=rfl;simp only[WW h,List.getElem?_reverse (h),H];show some _=x.cps.toList[x.length - 1 - i]?;have H:x.length - 1 - i< x.cps.size:=qN [eQ (Y0+Y2) Y3,eQ (Y3+1) Y1] (lL Y0 Y1) rfl (bY (cA [lL Y0 Y2,eQ (Y1+1) Y2] (lE Y0 Y1) [1,-1] 1 rfl h (bY (aT [lL Y1 Y0] (lE 1 Y0) rfl h)))) (bY (aT [lL Y1 Y0] (lE 1 Y0) rfl h));simp only[BS,yT H,aVe,yT H];rfl
 ·rw[uQ (by exact rR WX (aT [lE Y0 Y1] (lE Y0 Y1) rfl (dA.mp h))),uQ (by exact rR uR (aT [lE Y0 Y1] (lE Y0 Y1) rfl (dA.mp h)))];rfl
theorem aDh(x:Str)(t:ab)(S:af)(H:ab)(Z:x.length<=gA):Told ao (av w) A U fr aa (bC "str.__getitem__" [.str x t, .ref S]) [(S,C0 H)] (λy=>⟨.ok (.ret (.str ⟨x.cps.toList.reverse.toArray⟩ (y 2))),[(S,C0 H)],[],y 0,y 1⟩):=by
 refine λu s ak R Y J z hR=>dK FL.plain WY (FL.check _ _ _ _ _ _ _ _ (ic ..) (WZ _ _) (aVf x t S none none (some (-1,H)) rfl _ _ _ _ s ⟨(⟨_,J.h.at_ _ ay,rfl,rfl⟩),?_⟩));have e1:(⟨((slicePicked x none none (some (-1,H))).filterMap (x.cps[·]?)).toArray⟩:Str)=⟨x.cps.toList.reverse.toArray⟩:=by
  have h:=aDg x H;have Y:WV x none none (-1,H)=⟨((slicePicked x none none (some (-1,H))).filterMap (x.cps[·]?)).toArray⟩:=by unfold WV;rw[if_neg];intro q;simp only[gy]at q;exact absurd (show((-1:Int)==1)=true from q.1) (by decide)
  rw[Y]at h;exact rL (congrArg cF h) rfl
 unfold Mb;refine rR e1 ⟨?_,?_⟩
 ·show x.cps.toList.reverse.toArray.size<=gA;exact rR pz (rR uR Z)
 ·exact hR (λi=>bif bZ i 0 then s.heap.objs.size else bif bZ i 1 then s.toks+1 else s.toks) _ rfl rfl rfl (λp H=>absurd H bi) ⟨J.h,J.os,J.gens,J.same⟩ λb o H J=>H
def OE(J:af)(H Y:ag):FuncData:=sF (oS (Nn (jN 20))[(1:Nat)]?) default λname args body scope j=>{ name,qualname:="_law_stream.<locals>._law_source",params:=args,body:= .stmts body,scope,globals:=3,closure:=[("signs",J)],defaults:= .none,kwdefaults:= .none,doc:= .none,pyModule:= .str "law_sc0109_01" 652,annotations:=none,code:=H,closureTuple:=Y,builtins:=0 }
abbrev zU(A:Nat):Obj:=nc (jJ #[.int 354 0, .int 4 0, .ref (A+6), .int 356 0, .int 23 0, .ref (A+14)])
abbrev OF(A B:Nat):List Value:=nc ([.str "/claim/cut.py" (B+9), .int 356 0, .int 1 0, .int 0 0, .int 0 0, .int 19 0, .ref (A+9), .bool true, .int 276 0, .ref (A+10), .none, .ref (A+11), .ref (A+12), .ref (A+13), .int (B+12:Nat) 0, .int 356 0, .str "/claim/cut.py" (B+13)])
abbrev aDi(w:aj)(S A B:Nat)(sl:af)(vs:List ag)(e:Nat):List (af×ar):=[(A+7,Gy (OE (S+1) (.ref (A+6)) (.ref A)) (some (A+16))),(A+16,GB w (A+15) (B+15)),(A+15,GA xh (S+1) (.str "law_sc0109_01" 652) (A+14) (.ref (A+8))),(A+14,⟨.type "code",none, .fields (.str "<lambda>" (B+7):: .str xh (B+8)::OF A B).toArray,#[]⟩),(S+1,⟨.type "cell",none, .cell (some (.ref sl)),#[]⟩),(sl,listOf vs.toArray e)]
abbrev HB(w:aj)(T:Str)(y:Nat->Nat):Out:=⟨.ok (.ret (.ref (y 1+7))),[(252,zU (y 1))],aDi w (y 0) (y 1) (y 2) (y 3) (oo T.cps.toList.reverse λi=>y (i+1)) (y 4),y 1+17,y 2+16⟩
def OG:List Nat:=(dN 44 0xa84215252902409a0000a528e031800018c61803188400080000841)
abbrev OH(T:Str)(t:ab)(sz tk:Nat):aF:= .cons (some 0) (bC "str.__getitem__" [.str T t, .ref (sz+2)]) [0] [(sz+2,C0 (tk+2))] (λy=>⟨.ok (.ret (.str ⟨T.cps.toList.reverse.toArray⟩ (y 2))),[(sz+2,C0 (tk+2))],[],y 0,y 1⟩) λa=> .cons (some 0) (.call (.type "list") ⟨[.str ⟨T.cps.toList.reverse.toArray⟩ (a 2)],[]⟩) [] [] (λy=>⟨.ok (.ret (.ref (y 2))),[],[(y 2,listOf (oo T.cps.toList.reverse y).toArray (y 3))],y 0,y 1⟩) λb=> .nil
abbrev lsW(sz tk:Nat)(H:Xs)(i:Nat):Nat:=nc (r8 (motive:=λ_=>Nat) i sz λj=>H 1 j)
theorem aDj(w:aj)(T:Str)(t:ab)(sz tk:Nat)(H:Xs):Ends [9,0,1,2,19,17,21] ((aI w 2 0 none 900).C [] H ⟨[(252,jJ #[])],sz,tk,OG,OH T t sz tk⟩ (gG 257 [.str T t]) fin) (bX (HB w T (lsW sz tk H))):=by kernel_rfl
theorem aDk(Y:aK w aa)(J:aa.NoLimit)(T:Str)(t:ab)(hn:T.length<=gA):Any True w aa 2 (gG 257 [.str T t]) [(252,jJ #[])] (HB w T):=bS Y J 900 OG [9,0,1,2,19,17,21] (OH T t) (by decide) _ (λz=>rfl) (λJ J sz tk J=>
  ⟨rfl,by decide,λH z z=>aDh T t _ _ hn,λx z z=>⟨rfl,bN,λH J z=>by have:=aDf (w:=w) (U:=H.units) (fr:=none) (aa:=aa) J ⟨T.cps.toList.reverse.toArray⟩ (x 2) (rR pz (rR uR hn));exact this,λz z z=>True.intro⟩⟩) λsz tk H=>aDj ..
theorem aDl(l:List (Nat×ab)):rv l=l.reverse.map λc=>ag.str ⟨#[c.1]⟩ c.2:=by
 induction l with
 |nil=>rfl|cons c l ih=>refine rR W0 (rR bM (rL ih ?_));rfl
theorem aDm(l:List Nat)(y:Nat->Nat):∃p:List (Nat×ab),p.map (·.1)=l/\oo l.reverse y=rv p:=by
 refine⟨(l.reverse.mapIdx λi c=>(c,y (100+i))).reverse,?_,?_⟩
 ·rw[aVg];have:(l.reverse.mapIdx λi c=>(c,y (100+i))).map (·.1)=l.reverse:=by refine jH λi=>rR (dP) (rR (gB) ?_);induction l.reverse[i]?<;>rfl
  rw[this,aVh]
 ·simp only[aDl,aVh];unfold oo;refine jH λi=>?_;simp only[dP,gB,gB];induction l.reverse[i]?<;>rfl
abbrev b2(id:String)(a b:ag):Code:=nc (.call (.builtin id) ⟨[a,b],[]⟩)
abbrev xC(a b c:ag):Obj:=nc (⟨.type "slice",none, .fields #[a,b,c],#[]⟩)
abbrev iS(id:String)(a b:Int)(r:Bool)(t u:ab)(next:aM):aF:=cM id [.int a t, .int b u] (λ_=> .bool r) next
abbrev HD(f:String)(a b:Int)(t u:ab):Code:=nc (.call (.builtin f) ⟨[.int a t, .int b u],[]⟩)
abbrev vC(f:String)(a b m:Int)(t u:ab)(next:aM):aF:= .cons (some 2) (HD f a b t u) [] [] (λy=>⟨.ok (.ret (.int m (y 2))),[],[],y 0,y 1⟩) next
section
variable {next:aM}{r:Bool}
theorem HE(H:decide (a< b)=r)(k:bJ next ao w A U fr aa):(iS "int.__lt__" a b r t u next).Ok ao (av w) A U fr aa lv:=dZ (λz=>eO (r:=λz=> .bool r) PySem.F.slot_int_lt PySem.F.entry_int_lt (PySem.F.args_int_lt_2 _ _) (aY3 a t b u) (λs=>jK ..) λQ s h=>by have:=h 0 s.toks;rw[<-H]at this;exact this) λe z=>k e lv
theorem qZ(H:decide (a>b)=r)(k:bJ next ao w A U fr aa):(iS "int.__gt__" a b r t u next).Ok ao (av w) A U fr aa lv:=dZ (λz=>eO (r:=λz=> .bool r) PySem.F.slot_int_gt PySem.F.entry_int_gt (PySem.F.args_int_gt_2 _ _) (aY4 a t b u) (λs=>jK ..) λQ s h=>by have:=h 0 s.toks;rw[<-H]at this;exact this) λe z=>k e lv
end
def OI(r:Bool):List Nat:=(dN 36 0x17c421884010041004211086210040104010041f08400)++((bif r then [1,1,1]else [])++(dN 15 0xc63088431080200820))
noncomputable def OJ(t u:ab)(r:Bool)(H:Xs):Nat->Nat
 |0=>H 0 0+2|1=>H 0 1|_=>bif r then u else t
abbrev OK(m:Int):(Nat->Nat)->Out:=nc (λy=>⟨.ok (.ret (.int m (y 2))),[],[],y 0,y 1⟩)
section
variable (w:aj)(a b:Int)(t u:ab)(r:Bool)(sz tk:Nat)(σ:Xs)
theorem aDn:Ends [] ((aI w 2 0 none 500).C [] σ ⟨[],sz,tk,OI r,iS "int.__lt__" b a r u t λ_=> .nil⟩ (HD "min" a b t u) fin) (bX (OK (bif r then b else a) (OJ t u r σ))):=by induction r<;>kernel_rfl
theorem aDo:Ends [] ((aI w 2 0 none 500).C [] σ ⟨[],sz,tk,OI r,iS "int.__gt__" b a r u t λ_=> .nil⟩ (HD "max" a b t u) fin) (bX (OK (bif r then b else a) (OJ t u r σ))):=by induction r<;>kernel_rfl
end
section
variable (XK:aK w aa)(NL:aa.NoLimit){next:aM}{m:Int}
include XK NL
theorem C1(H:min a b=m)(k:bJ next ao w A U fr aa):(vC "min" a b m t u next).Ok ao (av w) A U fr aa lv:=⟨rfl,bN,by
  have h:(bif decide (b< a)then b else a)=m:=by
   refine rL H ?_;by_cases q:b< a;·rw[decide_eq_true q];exact bw (cP [eQ Y1 Y0] (lE Y0 Y1) [-1] 1 rfl (LM (bR [lL Y0 Y1] (lE Y0 Y1) rfl q))) (bR [eQ Y0 Y1] (lE Y0 Y1) rfl (LM (bR [lL Y0 Y1] (lE Y0 Y1) rfl q)))
   ·rw[decide_eq_false q];exact bw (cP [eQ Y1 Y0] (lE Y0 Y1) [-1] 1 rfl (By ((fH.mp q)))) (bR [eQ Y0 Y1] (lE Y0 Y1) rfl (By ((fH.mp q))))
  exact h▸bS XK NL 500 _ [] (λz z=>iS "int.__lt__" b a _ u t λz=> .nil) bN _ (λz=>rfl) (λH H z z z=>HE rfl λz z=>True.intro) λsz tk H=>aDn ..,λe z z=>by simpa only[wR,dR]using k e lv⟩
theorem aDp(H:max a b=m)(k:bJ next ao w A U fr aa):(vC "max" a b m t u next).Ok ao (av w) A U fr aa lv:=⟨rfl,bN,by
  have h:(bif decide (b>a)then b else a)=m:=by
   refine rL H ?_;by_cases q:b>a;·rw[decide_eq_true q];exact bw (cP [eQ Y1 Y0] (lE Y0 Y1) [-1] 1 rfl (W3 (bR [lL Y0 Y1] (lE Y0 Y1) rfl q))) (bR [eQ Y0 Y1] (lE Y0 Y1) rfl (W3 (bR [lL Y0 Y1] (lE Y0 Y1) rfl q)))
   ·rw[decide_eq_false q];exact bw (cP [eQ Y1 Y0] (lE Y0 Y1) [-1] 1 rfl (W4 ((fH.mp q)))) (bR [eQ Y0 Y1] (lE Y0 Y1) rfl (W4 ((fH.mp q))))
  exact h▸bS XK NL 500 _ [] (λz z=>iS "int.__gt__" b a _ u t λz=> .nil) bN _ (λz=>rfl) (λH H z z z=>qZ rfl λz z=>True.intro) λsz tk H=>aDo ..,λe z z=>by simpa only[wR,dR]using k e lv⟩
end
theorem aDq{b:Builtin}{args:List ag}(Z:builtinKind id=none)(Y:W5 id=true)(hb:mf gz id=some b)(ha:lf id ⟨args,[]⟩)(J:aG (aR prog w) A.in1 (b ⟨args,[]⟩) (λH s'=>match H with| .done f=>R (.ok f) s'| .again c'=>c'.quiet=true/\eH (aR prog w) A c' R s') (λe s'=>R (.error e) s') s):eH (aR prog w) A (.call (.builtin id) ⟨args,[]⟩) R s:=by
 refine dK Y hb ?_;simp only[aVi,Z];induction HF:aVj id with
 |none=>exact aH J|some sig=>
  have H:aVk id sig ⟨args,[]⟩=pure ():=by simpa only[lf,HF]using ha
  simp only[H];exact aH J
theorem OL(hA:A.handled=none)(l:af)(vs:List ag)(e:Nat)(hI:W6 vs.toArray):Told ao (av w) A U fr aa (bC "sum" [.ref l]) [(l,listOf vs.toArray e)] (λy=>⟨.ok (.ret (.int (yV vs).sum (y 2))),[(l,listOf vs.toArray e)],[],y 0,y 1⟩):=by
 intro u s ak R hu H j hR;obtain⟨xs,OM⟩:=hI.items;have dq:∀h' tk J,(∀b o,s.heap.get? b=some o->h'.get? b=some o)->R (.ok (.ret (.int (preSum _ xs.size) J))) { s with heap:=h',toks:=tk }:=λh' tk J Y=>by
  have e1:preSum (numAt xs) xs.size=(yV vs).sum:=by have:=nums_intItems (xs:=xs);rw[<-OM]at this;rw[show vs=vs.toArray.toList from rfl,this,preSum_eq,Mc (by simp)]
  exact rR e1 (hR (λi=>bif bZ i 0 then h'.objs.size else bif bZ i 1 then tk else J) _ rfl rfl rfl (λp hp=>absurd hp bi)
   ⟨⟨λp hp=>Y _ _ (H.h.at_ p hp),H.h.nd,λb o e=>Y _ _ (H.h.keep b o e),H.h.off⟩,H.os,H.gens,H.same⟩ λb o e z=>Y b o e)
 refine aDq F.kind_sum F.plain_sum F.entry_sum (F.args_sum1 _) ?_;unfold Builtin.«sum»;refine au (je (show aY5 "sum" ["start"] 0 { }=pure [none]from rfl) ?_);refine au (iter_intList (⟨_,(H.h.at_ _ ay),rfl,e,rL OM rfl⟩) λH Z st C3 hlI=>?_);subst Z;refine au (wpAny_mkInt ?_);refine au (aH ?_);refine au (au (au (mU (jK ..) PySem.sub_int_str ?_)));refine aH (au (au (mU (jK ..) PySem.sub_int_bytes ?_)));refine aH (au (au (mU (jK ..) PySem.sub_int_bytearray ?_)));refine aH (aH ?_);refine au (kd ?_);have W:=aVl (prog:=Rw.prog) (w:=w) (A:=({ A with units:=u }:aD).in1) hA s.heap.objs.size l hlI (Md xs);refine aH ⟨FM F.plain_sum_loop _,codeAny_sum_loopG W _ (λz z=>intItems_at) _ (λZ=>jI _ (C3 _ Z)) (Md xs).size 0 _ _ 0 0 (Or.inl rfl) rfl (f4 _)
  (W.frame _ _ _ st λb z o e=>cZ _ e) (gZ _ rfl) λh' tk J Y=>?_⟩;have H:(Md xs).size=xs.size:=by simp[Md]
 refine rR H (dq h' tk J λb o e=>?_);have H:=dJ e;refine Y b o (λZ=>?_) (λq=>?_) (cZ _ (cZ _ e));·rw[bI.mp Z]at H;exact jI _ H
 ·rw[q]at H;exact absurd (show(s.heap.push _).objs.size< s.heap.objs.size from H) (rR (qv ..) (dA.mpr (fG ..)))
theorem aDs(l:af)(d:Option af)(vs:List ag)(e:Nat)(sl:Array (Option ag))(S:af)(vl Y vt:ag)(lo hi J:Option Int)(pl:qx vl lo)(pu:qx Y hi)(ps:qx vt J)(h0:J≠some 0)(fN:vs.length<=gA):Told ao (av w) A U fr aa (b2 "list.__getitem__" (.ref l) (.ref S)) [(l,⟨.type "list",d, .seq vs.toArray e,sl⟩),(S,xC vl Y vt)] (λy=>⟨.ok (.ret (.ref (y 2))),[(l,⟨.type "list",d, .seq vs.toArray e,sl⟩),(S,xC vl Y vt)],[(y 2,listOf (yW vs.toArray lo hi J).toList.toArray 0)],y 0,y 1⟩):=by
 intro u s ak R hu H v hR;have ho:=H.h.at_ _ ay;have Z:=H.h.at_ _ (aB ay);have hl:s.heap.IsList l vs.toArray:=⟨_,ho,rfl,e,rfl⟩
 have ON:s.TypeIs (.ref S) "slice":=⟨_,Z,rfl⟩
 refine dK BU.plain W7 (BU.check _ _ _ _ _ _ _ _ hl.typeIs (W8 _ _) ?_);show aG _ _ (W9 _>>=_) ..;refine au (au (Xa ON slice_no_index ?_));refine aH (au (uS ON ?_));have zV:¬((rawPart J==eJ 0)=true):=by
  induction J with
  |none=>exact FN|some c=>
   intro hh;have:c=0:=by simpa [rawPart,eJ]using hh
   exact h0 (rR this rfl)
 refine au (au (jc Z rfl (x:=vt) rfl (au (Xb ps ?_))));refine rR (if_neg zV) (au (jc Z rfl (x:=vl) rfl (au (Xb pl ?_))));refine au (jc Z rfl (x:=Y) rfl (au (Xb pu (aH ?_))));refine au (au (wS ho rfl (aH ?_)));refine au (je (sliceIndices_raw lo hi J vs.toArray.size h0) ?_);refine au (kd (aH ?_) (aE (aVm ..) fN));exact hR (λi=>match i with|0=>s.heap.objs.size+1|1=>s.toks|_=>s.heap.objs.size) { s with heap:=s.heap.push _ } (qv ..) rfl rfl (λp J=>by
  refine rR (bI.mp J) ?_;induction z:s.heap.get? s.heap.objs.size with
  |none=>rfl|some o'=>exact absurd (dJ z) (jI _)) ⟨H.h.alloc rfl,H.os,H.gens,H.same⟩ λb o e j=>cZ _ e
theorem aDt(P:af)(vs:List ag)(e:Nat)(k:Int)(j:Nat)(x:ag)(t:ab)(Y:(decide (k< -(2 ^ 63:Int))||decide (k>=2 ^ 63))=false)(hj:pC k vs.length=some j)(Z:vs[j]?=some x):Told ao (av w) A U fr aa (b2 "tuple.__getitem__" (.ref P) (.int k t)) [(P,⟨.type "tuple",none, .seq vs.toArray e,#[]⟩)] (λy=>⟨.ok (.ret x),[(P,⟨.type "tuple",none, .seq vs.toArray e,#[]⟩)],[],y 0,y 1⟩):=by
 intro u s ak R hu H z hR;have J:WR s.heap P vs.toArray:=⟨_,(H.h.at_ _ ay),rfl,e,rfl⟩
 refine dK aVn.plain entry_tuple_getitem (aVn.check _ _ _ _ _ _ _ _ J.typeIs (args_tuple_getitem _ _) ?_);show aG _ _ (aVo _>>=_) ..;refine au (tupleItemsOf_ J ?_);refine au (uS (jK ..) ?_);refine au (Xa (jK ..) int_index ?_);refine au (je rfl ?_);refine rR (if_neg (by rw[Y];decide)) ?_;have J:pC k vs.toArray.size=some j:=hj;have Y:vs.toArray[j]?=some x:=rR (Me) Z;simp only[J,Mf,Y];exact aH (hR (λi=>bif bZ i 0 then s.heap.objs.size else s.toks) s rfl rfl rfl (λp J=>absurd J bi) ⟨H.h,H.os,H.gens,H.same⟩ λb o H J=>H)
structure RT where
 v1:List ag
 v2:List ag
 s:Int
 dp:Int
 j1:Nat
 j2:Nat
 j3:Nat
 j4:Nat
 n1:Str
 n2:Str
 nm:Str
 sh:Int
 va:Int
abbrev iT(d:Option af)(vs:List ag)(e:Nat)(sl:Array (Option ag)):Obj:=nc (⟨.type "list",d, .seq vs.toArray e,sl⟩)
def zW(b:Nat):List Value:=nc ([.str "" (b+6), .str "a" (b+7), .str "&" (b+8), .str "<" (b+9), .str ">" (b+10), .str "\"" (b+11), .str "\\" (b+12), .str " " (b+13), .str "\n" (b+14), .str "\t" (b+15), .str "\r" (b+16)])
def zX(b:Nat):List Value:=nc ([.int 4 (b+18), .int 3 (b+19), .int 2 (b+20), .int 1 (b+21), .int 4 (b+22), .int 3 (b+23), .int 2 (b+24), .int 0 (b+25)])
abbrev HH(vs:List ag):Obj:=nc (⟨.type "tuple",none, .seq vs.toArray 0,#[]⟩)
abbrev zY(p:Nat)(P:af)(vs:List ag)(k:Int)(t:ab)(x:ag)(next:aM):aF:= .cons (some 0) (b2 "tuple.__getitem__" (.ref P) (.int k t)) [p] [(P,HH vs)] (λy=>⟨.ok (.ret x),[(P,HH vs)],[],y 0,y 1⟩) next
abbrev C5(p:Nat)(l:af)(o:ar)(S:af)(so:ar)(vs:List ag)(next:aM):aF:= .cons (some 0) (b2 "list.__getitem__" (.ref l) (.ref S)) [p,0] [(l,o),(S,so)] (λy=>⟨.ok (.ret (.ref (y 2))),[(l,o),(S,so)],[(y 2,aA vs 0)],y 0,y 1⟩) next
abbrev OO(p:Nat)(l:af)(vs:List ag)(e:Nat)(s:Int)(next:aM):aF:= .cons (some 0) (bC "sum" [.ref l]) [p] [(l,aA vs e)] (λy=>⟨.ok (.ret (.int s (y 2))),[(l,aA vs e)],[],y 0,y 1⟩) next
abbrev lD(h:Int)(T:RT):Int:=nc ((h+T.s).fmod 4460544)
def zZ(P:Nat)(S:af)(so:ar)(sz b:Nat)(h:Int)(H:af)(t:ab)(k:Int)(Y:ab)(J:Int)(T:RT)(next:(Nat->Nat)->(Nat->Nat)->(Nat->Nat)->aF):aF:=C5 P S so H (xC .none (.int 60 t) .none) T.v1 λH=>C5 1 (H 2) (listOf T.v1.toArray 0) (H 0) (xC (.int k Y) .none (.int 4 (H 1))) T.v2 λH=>OO 0 (H 2) T.v2 0 T.s λH=>
 vC "min" J (1+(lD h T).fmod 3) T.dp (H 1+5) (H 1+9) λH=>zY P (sz+2) (zW b) (((lD h T).fdiv 3).fmod 11) (H 1+4) (.str T.n1 (b+6+T.j1)) λJ=>zY P (sz+2) (zW b) (((lD h T).fdiv 33).fmod 11) (J 1+3) (.str T.n2 (b+6+T.j2)) λJ=>
 cQ T.n1 T.n2 T.nm (b+6+T.j1) (b+6+T.j2) λJ=>zY (P - 1) (sz+3) (zX b) ((((lD h T).fdiv 363).fdiv 192).fmod 8) (J 1+13) (.int T.sh (b+18+T.j3)) λY=>zY (P - 1) (sz+3) (zX b) (((lD h T).fdiv 363).fdiv 1536) (Y 1+1) (.int T.va (b+18+T.j4)) λY=>next H J Y
def lrO(S:af)(so:ar)(T:Nat->RT)(sz b:Nat):aF:=zZ 8 S so sz b 5514 (sz+7) (b+36) 0 (b+34) 0 (T 0) λ_ _ x=>zZ 13 S so sz b 693213 (x 0+1) (x 1+2) 1 (x 1) ((T 0).dp+1) (T 1) λ_ _ x=>zZ 18 S so sz b 163261 (x 0+1) (x 1+2) 2 (x 1) ((T 1).dp+1) (T 2) λ_ _ x=>zZ 23 S so sz b 1603350 (x 0+1) (x 1+2) 3 (x 1) ((T 2).dp+1) (T 3) λ_ _ _=> .nil
def xD(h:Int)(T:RT)(k:Nat)(y:Nat->Nat):af×Obj:=(y k,HH [.int T.dp (y (k+1)), .str T.nm (y (k+2)), .int (((lD h T).fdiv 363).fmod 3) (y (k+3)), .int ((((lD h T).fdiv 363).fdiv 3).fmod 64) (y (k+4)), .int T.sh (y (k+5)), .int T.va (y (k+6))])
def C6(S:af)(so:ar)(T:Nat->RT)(y:Nat->Nat):Out:=⟨.ok (.ret (.ref (y 2))),[(S,so)],[(y 2,listOf [aN (y 3), .ref (y 10), .ref (y 17), .ref (y 24)].toArray 4),xD 5514 (T 0) 3 y,xD 693213 (T 1) 10 y,xD 163261 (T 2) 17 y,xD 1603350 (T 3) 24 y],y 0,y 1⟩
def C7(b:Nat)(T:RT)(a c d:Nat->Nat):List Nat:=nc ([d 0,a 2,c 2,c 1+5,c 1+9,b+18+T.j3,b+18+T.j4])
def lrY(T:Nat->RT)(sz b:Nat)(H:Xs)(i:Nat):Nat:=([H 35 0+3,H 35 1,sz+4]++(C7 b (T 0) (H 3) (H 6) (H 8)++(C7 b (T 1) (H 12) (H 15) (H 17)++(C7 b (T 2) (H 21) (H 24) (H 26)++C7 b (T 3) (H 30) (H 33) (H 35))))).getD i 0
def lrA:List Nat:=(dN 123 0x2108020024210002d62421000000b5800002c005ad6739ceb5ac005ad6212529000005ac494a4000016b5ac400000b0016002d600000200842124494a4e001806018c639ce7084210842008020)
def lrD:List Nat:=(dN 123 0x421004000842000420084200000108000004000842108421084000842000421000000840108400000210840000001000200042000000000000040108420004010042108421084210842008020)
def HI(n:Nat):List Nat:=List.zipWith (λx d=>x+d*n) lrA lrD
def OP:List Nat:=(dN 38 0x210840107c21080200840000000294002948418c4200421)++(HI 0++(HI 5++(HI 10++(dN 134 0x3a00d6b50541505ef705c02bdee006b42bdee00001ad000006800d6b56b5adad6800d6b421631800000d6858c60000035ad68400001a0034006b40000020084216058c62c005415056b5b5ad6842108420080200))))
theorem aDu(w:aj)(S:af)(d:Option af)(vs:List ag)(e:Nat)(sl:Array (Option ag))(T:Nat->RT)(sz tk:Nat)(H:Xs):Ends [24,17,12,7,2,29] ((aI w 4 0 none 1500).C [] H ⟨[(S,iT d vs e sl)],sz,tk,OP,lrO S (iT d vs e sl) T sz tk⟩ (gG 238 [.ref S]) fin) (bX (C6 S (iT d vs e sl) T (lrY T sz tk H))):=by kernel_rfl
structure xF(k:Int)(n j:Nat):Prop where
 f:(decide (k< -(2 ^ 63:Int))||decide (k>=2 ^ 63))=false
 j:pC k n=some j
structure RT.Ok(vs:List ag)(h:Int)(k:Int)(d:Int)(T:RT):Prop where
 e1:(yW vs.toArray none (some 60) none).toList=T.v1
 e2:(yW T.v1.toArray (some k) none (some 4)).toList=T.v2
 ai:W6 T.v2.toArray
 s:(yV T.v2).sum=T.s
 dp:min d (1+(lD h T).fmod 3)=T.dp
 a1:xF (((lD h T).fdiv 3).fmod 11) 11 T.j1
 g1:∀b,(zW b)[T.j1]?=some (.str T.n1 (b+6+T.j1))
 a2:xF (((lD h T).fdiv 33).fmod 11) 11 T.j2
 g2:∀b,(zW b)[T.j2]?=some (.str T.n2 (b+6+T.j2))
 nm:T.n1++T.n2=T.nm
 nz:T.n1.length+T.n2.length<=100
 a3:xF ((((lD h T).fdiv 363).fdiv 192).fmod 8) 8 T.j3
 g3:∀b,(zX b)[T.j3]?=some (.int T.sh (b+18+T.j3))
 a4:xF (((lD h T).fdiv 363).fdiv 1536) 8 T.j4
 g4:∀b,(zX b)[T.j4]?=some (.int T.va (b+18+T.j4))
section
theorem C8{p:Nat}{P:af}{k:Int}{x:ag}{next:aM}(hn:vs.length=n)(h:xF k n j)(H:vs[j]?=some x)(c:bJ next True w A U fr aa):(zY p P vs k t x next).Ok True (av w) A U fr aa lv:=by subst hn;exact⟨rfl,cj.mpr ⟨bi,bN⟩,λJ z z=>aDt P vs 0 k j x t h.f h.j H,λy z z=>c y _⟩
theorem HJ{p:Nat}(hp:p≠0){l:af}{d:Option af}{e:Nat}{Y J vt:ag}{lo Z H:Option Int}(pl:qx Y lo)(pu:qx J Z)(ps:qx vt H)(h0:H≠some 0)(fN:vs.length<=gA){v:List ag}(hv:(yW vs.toArray lo Z H).toList=v){next:aM}(c:bJ next True w A U fr aa):(C5 p l (iT d vs e sl) S (xC Y J vt) v next).Ok True (av w) A U fr aa lv:=by subst hv;exact⟨rfl,cj.mpr ⟨λh=>hp (bI.mp h),cj.mpr ⟨bi,bN⟩⟩,λA' z z=>aDs l d vs e sl S Y J vt lo Z H pl pu ps h0 fN,λy z z=>c y _⟩
theorem C9(XK:aK w aa)(Y:aa.NoLimit){P:Nat}(hP:P≠0){d:Option af}{e:Nat}(hz:vs.length<=100){b:Nat}{h:Int}{s1:af}{k:Int}{tK:ab}{J:Int}{T:RT}(H:T.Ok vs h k J){next:(Nat->Nat)->(Nat->Nat)->(Nat->Nat)->aF}(c:∀x y z lv,(next x y z).Ok True (av w) A U fr aa lv):(zZ P S (iT d vs e sl) sz b h s1 t k tK J T next).Ok True (av w) A U fr aa lv:=by
 have J:=nP;have J:T.v1.length<=100:=by exact rL H.e1 (rR nQ (aE (aVm ..) hz))
 refine HJ hP qx.none (Mg _ _) qx.none nofun (by omega) H.e1 λJ j=>HJ (by decide) (Mg _ _) qx.none (Mg _ _) (by decide) (by omega) H.e2 λx1 j=>⟨rfl,cj.mpr ⟨bi,bN⟩,λZ nX j=>?_,λJ j j=>C1 XK Y H.dp λJ j=>C8 rfl H.a1 (H.g1 _) λJ j=>C8 rfl H.a2 (H.g2 _) λJ j=>n6 H.nm (by have:=H.nz;omega) λJ j=>C8 rfl H.a3 (H.g3 _) λJ j=>C8 rfl H.a4 (H.g4 _) λJ j=>c ..⟩
 have:=OL (ao:=True) (w:=w) (U:=Z.units) (fr:=none) (aa:=aa) nX (x1 2) T.v2 0 H.ai;rw[H.s]at this;exact this
end
theorem aDv(J:aK w aa)(H:aa.NoLimit)(S:af)(d:Option af)(vs:List ag)(e:Nat)(sl:Array (Option ag))(Y:vs.length<=100)(T:Nat->RT)(o0:(T 0).Ok vs 5514 0 0)(o1:(T 1).Ok vs 693213 1 ((T 0).dp+1))(Z:(T 2).Ok vs 163261 2 ((T 1).dp+1))(o3:(T 3).Ok vs 1603350 3 ((T 2).dp+1)):Any True w aa 4 (gG 238 [.ref S]) [(S,iT d vs e sl)] (C6 S (iT d vs e sl) T):=bS J H 1500 OP [24,17,12,7,2,29] _ (by decide) _ (λz=>rfl) (λA' hA sz tk hl=>by exact C9 J H (by decide) Y o0 λz z z z=>C9 J H (by decide) Y o1 λz z z z=>C9 J H (by decide) Y Z λz z z z=>C9 J H (by decide) Y o3 λz z z z=>True.intro) λsz tk H=>aDu ..
section
variable {a b ro:List (af×ar)}
theorem kG(J:ax True aa ak (a++ro) s):ax True (g6 s.heap (a.map (·.1))) ak a s/\(∀p∈ro,(g6 s.heap (a.map (·.1))).get? p.1=some p.2)/\(∀b o,aa.get? b=some o->(g6 s.heap (a.map (·.1))).get? b=some o):=by
 have Z:=J.h.nd;rw[bM,fj]at Z;refine⟨⟨⟨λp H=>J.h.at_ p (bL _ H),Z.1,λb o e=>yX _ e,λp H=>yY _ (b7 H)⟩,J.os,J.gens, .inl True.intro⟩,λp H=>?_,λb o e=>?_⟩;·exact ke _ (J.h.at_ p (bD _ H)) λY=>Z.2.2 _ Y _ (b7 H) rfl
 ·refine ke _ (J.h.keep b o e) λY=>aO (bq.mp Y) λp H eq1=>?_;subst eq1;have:=J.h.off p (bL _ H);replace this:=e▸this;injection this
theorem aDw(J:ax True aa ak (a++ro) s)(H:ax True (g6 s.heap (a.map (·.1))) ak b s')(G:Goes a s.heap b s'.heap):ax True aa ak (b++ro) s'/\Goes (a++ro) s.heap (b++ro) s'.heap:=by
 refine cJ (kG J) λj h1 Z=>?_;have nd:=J.h.nd;rw[bM,fj]at nd;refine⟨⟨⟨λp hp=>?_,?_,λz o e=>H.h.keep z o (Z z o e),λp hp=>?_⟩,H.os,H.gens, .inl True.intro⟩,λz o e n=>G.keep z o e λp hp=>n p (bL _ hp),G.live,λp hp=>?_⟩
 ·rcases cr.mp hp with hp|hp
  ·exact H.h.at_ p hp
  ·exact H.h.keep _ _ (h1 p hp)
 ·rw[bM,fj];refine⟨H.h.nd,nd.2.1,λx hx y hy e=>?_⟩;obtain⟨p,hp,rfl⟩:=bq.mp hx;obtain⟨q,Y,rfl⟩:=bq.mp hy;have:=H.h.off p hp;simp only[e,h1 q Y]at this;injection this
 ·rcases cr.mp hp with hp|hp
  ·have o:=H.h.off p hp;induction z:aa.get? p.1 with
   |none=>rfl|some o'=>replace o:=(Z _ _ z)▸o;injection o
  ·exact J.h.off p (bD _ hp)
 ·rcases cr.mp hp with hp|hp
  ·rcases G.new p hp with h|⟨q,Y,e⟩
   ·exact .inl h
   ·exact .inr ⟨q,bL _ Y,e⟩
  ·exact .inr ⟨p,bD _ hp,rfl⟩
end
theorem q6{a b ro:List (af×ar)}(J:ax True aa ak (a++ro) s)(H:ax True (g6 s.heap (a.map (·.1))) ak b s'):ax True aa ak (b++ro) s':=by
 refine cJ (kG J) λj h1 Y=>?_;have Z:=J.h.nd;rw[bM,fj]at Z;refine⟨⟨λp hp=>?_,?_,λz o e=>H.h.keep z o (Y z o e),λp hp=>?_⟩,H.os,H.gens, .inl True.intro⟩
 ·rcases cr.mp hp with hp|hp
  ·exact H.h.at_ p hp
  ·exact H.h.keep _ _ (h1 p hp)
 ·rw[bM,fj];refine⟨H.h.nd,Z.2.1,λx hx y hy e=>?_⟩;obtain⟨p,hp,rfl⟩:=bq.mp hx;obtain⟨q,hq,rfl⟩:=bq.mp hy;have:=H.h.off p hp;simp only[e,h1 q hq]at this;injection this
 ·rcases cr.mp hp with hp|hp
  ·have o:=H.h.off p hp;induction z:aa.get? p.1 with
   |none=>rfl|some o'=>replace o:=(Y _ _ z)▸o;injection o
  ·exact J.h.off p (bD _ hp)
theorem q7{a:af}{o J:ar}{post:List (af×ar)}(H:ax True aq ak (pre++(a,o)::post) s)(e:h'.get? a=some J)(Y:yZ a s.heap h'):ax True aq ak (pre++(a,J)::post) { s with heap:=h' }:=by
 have Z:(pre++(a,J)::post).map (·.1)=(pre++(a,o)::post).map (·.1):=by simp
 have J:=H.h.nd;have ne:∀p∈pre++post,p.1≠a:=λp hp q=>by rw[bM,iK,(lj (a:=a)).nodup_iff]at J;exact(cj.mp J).1 (rL q (rL bM (b7 hp)))
 refine⟨⟨λp hp=>?_,Z▸J,λb J eb=>Y b J (λq=>?_) (H.h.keep b J eb),λp hp=>?_⟩,H.os,H.gens, .inl True.intro⟩
 ·rcases cr.mp hp with hp|hp
  ·exact Y _ _ (ne p (bL _ hp)) (H.h.at_ p (bL _ hp))
  ·rcases a9.mp hp with rfl|hp
   ·exact e
   ·exact Y _ _ (ne p (bD _ hp)) (H.h.at_ p (bD _ (aB hp)))
 ·have:=H.h.off _ (bD _ ay);simp only[<-q,eb]at this;injection this
 ·have J:p.1∈(pre++_::post).map (·.1):=b7 hp;rw[Z]at J;exact aO (bq.mp J) λq J Y=>rL Y (H.h.off q J)
theorem q8{c:bB}(hk:nW w c n pre out){k:KX}(ok:k.Ok w)(hL:k.aa.objs.size<=k.L)(hn:k.dp+n< bk)(hU:U+40*n< dQ)(aZ:∀b o,k.aa.get? b=some o->aq.get? b=some o){tE ro:List (af×ar)}{fc:(Nat->Nat)->Out}(lF:pre.Perm (tE++ro))(b6:∀p∈ro,aq.get? p.1=some p.2/\p.1≠k.L/\k.aa.get? p.1=none)(f7:(ro.map (·.1)).Nodup)(ho:∀x,(fc x).res=(out x).res/\(fc x).new=(out x).new/\(fc x).sz=(out x).sz/\(fc x).tk=(out x).tk/\(out x).post.Perm ((fc x).post++ro))(hp:∀x,(fc x).post.map (·.1)=tE.map (·.1)):Told True (av w) k.bE U (some k.L) aq c tE fc:=by
 intro u s ak R hu H jp hR;obtain⟨⟨m,Z⟩,cB⟩:=jp k.L rfl;have lG:=λp=>@vi s.heap k.aa k.L (pre.map (·.1)) p;have aDx:∀p∈tE,k.aa.get? p.1=none:=λp hp=>by
  have:=H.h.off p hp;induction z:k.aa.get? p.1 with
  |none=>rfl|some o=>replace this:=(aZ _ _ z)▸this;cases this
 have ei:∀p∈pre,s.heap.get? p.1=some p.2/\p.1≠k.L/\k.aa.get? p.1=none:=λp hp=>by
  rcases cr.mp (lF.mem_iff.mp hp)with hp|hp
  ·exact⟨H.h.at_ p hp,cB p hp,aDx p hp⟩
  ·exact⟨H.h.keep _ _ (b6 p hp).1,(b6 p hp).2⟩
 have nd:(pre.map (·.1)).Nodup:=by rw[(lF.map (·.1)).nodup_iff,bM,fj];refine⟨H.h.nd,f7,λx hx y hy e=>?_⟩;refine aO (bq.mp hx) λp hp eq2=>?_;subst eq2;obtain⟨q,hq,rfl⟩:=bq.mp hy;have:=H.h.off p hp;replace this:=((b6 q hq).1)▸(e▸this);cases this
 refine hk { k with un:=u } m _ s R ⟨ok.B,ok.X,ok.T,ok.C⟩ ⟨Z,λb o e=>H.h.keep b o (aZ b o e),hL⟩ (λp hp=>?_) nd (λq hq p hp e=>((lG q).mp hq).2.2.1 (e▸b7 hp)) hn (iI (yR hu _) hU) (H.gens True.intro) λx s' h1 h2 h3 h4 F' N' mq hf hl=>?_
 ·rcases cr.mp hp with hp|hp
  ·exact ei p hp
  ·have:=(lG p).mp hp;exact⟨this.1,this.2.1,this.2.2.2⟩
 ·refine qI (ho x) λo1 o2 o3 o4 o5=>?_;have Y:∀b o,s.heap.get? b=some o->(∀p∈tE,p.1≠b)->s'.heap.get? b=some o:=λb o e nb=>by
   by_cases q:b=k.L;·exact rR q (rR hl (rL q (rR e rfl)))
   ·cases z:k.aa.get? b with
    |some o'=>have:=H.h.keep b o' (aZ _ _ z);replace this:=e▸this;cases this;exact F'.keep b o z|none=>
     by_cases r:b∈ro.map (·.1)
     ·refine aO (bq.mp r) λp hp eq4=>?_;subst eq4;have:=H.h.keep _ _ (b6 p hp).1;replace this:=e▸this;cases this;exact(λp hp=>(N' p (bD _ (bL _ (o5.mem_iff.mpr (bD _ hp))))).1) p hp
     ·refine(N' _ (bD _ (bD _ ((lG (b,o)).mpr ⟨e,q,λZ=>?_,z⟩)))).1;refine aO (bq.mp Z) λp hp e'=>?_;rcases cr.mp (lF.mem_iff.mp hp)with hp|hp
      ·exact nb p hp e'
      ·exact r (bq.mpr ⟨p,hp,e'⟩)
  have J:∀p∈(out x).new,s.heap.get? p.1=none:=λp hp=>by
   have Np:=N' p (bL _ hp);cases z:s.heap.get? p.1 with
   |none=>rfl|some o=>
    refine absurd rfl (hf p hp (p.1,o) ?_);by_cases q:∃r∈pre,r.1=p.1
    ·refine aO q λr hr er=>?_;have:=(ei r hr).1;replace this:=z▸(er▸this)
     injection this with this;subst this
     exact bL _ (er▸hr)
    ·exact bD _ ((lG _).mpr ⟨z,Np.2.1,λZ=>aO (bq.mp Z) λr hr e'=>q ⟨r,hr,e'⟩,Np.2.2⟩)
  refine rL o1 (hR x s' (h1.trans o3.symm) (h2.trans o4.symm) (hp x) (λp iu=>J p (o2▸iu)) ?_ Y);refine rR o2 ⟨⟨λp iu=>?_,?_,λb o e=>?_,λp iu=>?_⟩,h3.trans H.os,λj=>h4, .inl True.intro⟩
  ·rcases cr.mp iu with iu|iu
   ·exact(N' p (bL _ iu)).1
   ·exact(N' p ((λp hp=>bD _ (bL _ (o5.mem_iff.mpr (bL _ hp)))) p iu)).1
  ·rw[bM,fj];refine⟨mq,hp x▸H.h.nd,λa ha b hb e=>?_⟩;refine aO (bq.mp ha) λp iu eq3=>?_;subst eq3;rw[hp x]at hb;refine aO (bq.mp hb) λq hq eq1=>?_;subst eq1;exact hf p iu q (bL _ (lF.mem_iff.mpr (bL _ hq))) e.symm
  ·refine Y b o (H.h.keep b o e) λp Y q=>?_;have:=H.h.off p Y;replace this:=e▸(q▸this);injection this
  ·rcases cr.mp iu with iu|iu
   ·induction z:aq.get? p.1 with
    |none=>rfl|some o=>have:=J p iu;replace this:=(H.h.keep _ _ z)▸this;injection this
   ·have Z:p.1∈(fc x).post.map (·.1):=b7 iu;rw[hp x]at Z;exact aO (bq.mp Z) λq hq e=>rL e (H.h.off q hq)
def OQ(x:Rs (β×WS)):Option (β×List (af×ar)×Nat×Nat):=nc (match x with
 |some p=>some (p.2.1,p.2.2.led,p.2.2.sz,p.2.2.tk)|none=>none)
abbrev bA(x:Rs (β×WS))(y:β×List (af×ar)×Nat×Nat):Prop:=(OQ x,Nl x)=(some y,Nm x)
theorem aDy{P:β×WS->Prop}{x:Rs (β×WS)}{y:β×List (af×ar)×Nat×Nat}(J:bA x y)(Y:∀r H,(r,H.led,H.sz,H.tk)=y->P (r,H)):Met P x:=by
 have e:OQ x=some y:=congrArg WB J;induction x with
 |none=>injection e|some p=>refine⟨p.1,_,rfl,λq Z=>?_,Y p.2.1 p.2.2 (dH e)⟩;obtain⟨i,hi⟩:=LY Z;have a:(p.1.map (·.1))[i]?=(p.1.map (·.2))[i]?:=congrArg (·[i]?) (congrArg wQ J);simp only[dP,dP,hi]at a;exact dH a
theorem gL{K:uI}{t:cb α}{Q:α->am->Prop}(SR:ax ao aa ak pre s)(X:K.In aa)(hA:A.handled=none)(dep ub n:Nat)(Z:List Nat)(Y:aF)(gq:(∀p∈pre,p.1< s.heap.objs.size)->Y.Ok ao (aR prog w) A U fr aa (pre.map (·.1)))(hd:0< dep->aa.NoLimit/\A.depth+dep<=bk)(hU:A.units+ub<=U)(J:Xs->α)(led:Xs->List (af×ar))(sz tk:Xs->Nat)(e:∀H,bA ((run ⟨⟨prog,w.params⟩,K,dep,ub,fr⟩ n).S [] H ⟨pre,s.heap.objs.size,s.toks,Z,Y⟩ t fin) (.ok (J H),led H,sz H,tk H))(h:∀H s',ax ao aa ak (led H) s'->s'.heap.objs.size=sz H->s'.toks=tk H->Goes pre s.heap (led H) s'.heap->Q (J H) s'):aG (aR prog w) A t Q E s:=by
 refine(zt (P:=λo:Except ag α×WS=>∃H,(o.1,o.2.led,o.2.sz,o.2.tk)=(.ok (J H),led H,sz H,tk H)) X hA hd hU n).S [] ⟨pre,s.heap.objs.size,s.toks,Z,Y⟩ t fin Q E s ak ⟨SR,rfl,rfl⟩ ⟨_,λz=>id,gq SR.h.low⟩
  (λH=>aDy (e H) λr J h=>⟨H,h⟩) λr J s' F z G hm=>?_;obtain⟨j,j,e1,j,H,e2⟩:=hm λz z=>0;cases e1;simp only[se]at e2;obtain⟨rfl,e3,e4,e5⟩:=e2;exact h H s' (e3▸F.r) (F.sz.trans e4) (F.tk.trans e5) (e3▸G)
section
theorem OR{Q:dm->d6->am->Prop}{H:ag->d6->am->Prop}{b:List cq}:∀{a:List cq}{p:d6}{s:am},Mh M Γ (aV a env) (λf J s'=>match f with| .next=>Mh M Γ (aV b env) Q H J s'|f=>Q f J s') H p s->Mh M Γ (aV (a++b) env) Q H p s
 |[],p,s,h=>h|st::a,p,s,h=>by
  rw[sj,execs_cons,aVp];rw[execs_cons,aVp]at h;refine aVq M Γ _ (λf J s' h'=>?_) (λz z z h'=>h') _ _ h;induction f with
  |next=>exact OR h'|_=>exact h'
theorem da{a b:List cq}(h:aG M A (aV a env) (λf s'=>match f with| .next=>aG M A (aV b env) Q E s'|f=>Q f s') E s):aG M A (aV (a++b) env) Q E s:=λΓ p H=>by
 refine OR (aVq M Γ _ (λf J s' h'=>?_) (λz z z h'=>h') _ _ (h Γ p H));induction f with
 |next=>exact h' Γ J H|_=>exact h'
end
section
variable {a ro led l':List (af×ar)}
theorem bj(H:ax True aq ak led s)(p:led.Perm l'):ax True aq ak l' s:=⟨⟨λq J=>H.h.at_ q (p.mem_iff.mpr J),((p.map (·.1)).nodup_iff).mp H.h.nd,H.h.keep,λq J=>H.h.off q (p.mem_iff.mpr J)⟩,H.os,H.gens,H.same⟩
theorem qb(H:ax True aq ak (a++ro) s):ax True aq ak a s:=⟨⟨λq J=>H.h.at_ q (bL _ J),(fj.mp (bM▸H.h.nd)).1,H.h.keep,λq J=>H.h.off q (bL _ J)⟩,H.os,H.gens,H.same⟩
structure Sub(aq aP:aw)(ro:List (af×ar)):Prop where
 st:∀b o,aq.get? b=some o->aP.get? b=some o
 ro:∀p∈ro,aP.get? p.1=some p.2
variable {t:cb α}{Q:α->am->Prop}
theorem fO(SR:ax True aq ak (a++ro) s)(X1:aK w aq)(NL:aq.NoLimit)(hA:A.handled=none)(dep n:Nat)(ev J:List Nat)(Z:aF)(gq:∀aP,Sub aq aP ro->aK w aP->aP.NoLimit->(∀p∈a,p.1< s.heap.objs.size)->Z.Ok True (av w) A A.units fr aP (a.map (·.1)))(hd:A.depth+dep<=bk)(nd:J.Nodup)(Y:Xs->α)(ents:Xs->List (af×ar))(sz tk:Xs->Nat)(e:∀H,Ends J ((aI w dep 0 fr n).S [] H ⟨a,s.heap.objs.size,s.toks,ev,Z⟩ t fin) (.ok (Y H),(ents H).map some,sz H,tk H))(h:∀H s',ax True aq ak (ents H++ro) s'->s'.heap.objs.size=sz H->s'.toks=tk H->ik s.heap s'.heap->Q (Y H) s'):aG (av w) A t Q E s:=by refine cJ (kG SR) λS2 b6 aZ=>?_;have X2:aK w _:=λb o e=>aZ _ _ (X1 b o e);have tG:=NL.keeps aZ;exact wp_run S2 X2 hA dep 0 n ev J Z (gq _ ⟨aZ,b6⟩ X2 tG) (λz=>⟨tG,hd⟩) (a8 _) nd Y ents sz tk e λH s' Z Y J G=>h H s' (q6 SR Z) Y J G.live
theorem du(SR:ax True aq ak (a++ro) s)(X1:aK w aq)(NL:aq.NoLimit)(hA:A.handled=none)(dep n:Nat)(ev:List Nat)(Y:aF)(gq:∀aP,Sub aq aP ro->aK w aP->aP.NoLimit->(∀p∈a,p.1< s.heap.objs.size)->Y.Ok True (av w) A A.units fr aP (a.map (·.1)))(hd:A.depth+dep<=bk)(J:Xs->α)(led:Xs->List (af×ar))(sz tk:Xs->Nat)(e:∀H,bA ((aI w dep 0 fr n).S [] H ⟨a,s.heap.objs.size,s.toks,ev,Y⟩ t fin) (.ok (J H),led H,sz H,tk H))(h:∀H s',ax True aq ak (led H++ro) s'->s'.heap.objs.size=sz H->s'.toks=tk H->ik s.heap s'.heap->Q (J H) s'):aG (av w) A t Q E s:=by refine cJ (kG SR) λS2 b6 Z=>?_;have X2:aK w _:=λb o e=>Z _ _ (X1 b o e);have tG:=NL.keeps Z;exact gL S2 X2 hA dep 0 n ev Y (gq _ ⟨Z,b6⟩ X2 tG) (λz=>⟨tG,hd⟩) (a8 _) J led sz tk e λH s' Z Y J G=>h H s' (q6 SR Z) Y J G.live
end
theorem Da{F:af}{H:ag}{Z:Option af}{sN:Array (Option ag)}{a:List (af×ar)}(XK:aK w aa)(NL:aa.NoLimit)(hA:A.handled=none)(hd:A.depth+(n+1)<=bk)(hF:(K w.params).lookup F=some ⟨H,Z, .func fd,sN⟩)(HK:fd.scope.isCoroutine=false)(HL:fd.scope.isGenerator=false)(HM:fd.body= .stmts body)(z7:LU (K w.params) fd.code fd.qualname=true)(H:List (Str×ag))(z8:List Nat)(e0:∀Z tk σ,bA ((aI w 0 0 none 400).S [] σ ⟨a,Z,tk,z8, .nil⟩ (md fd args) fin) (.ok H,a,Z,tk))(env:af->lb)(ns:af->Nat->List (af×ar))(kz z9:Nat)(Aa:List Nat)(e1:∀Z tk σ,bA ((aI w 0 0 none 400).S [] σ ⟨a,Z,tk,Aa, .nil⟩ (me fd.scope fd.globals fd.closure H (fd.qualname++".<locals>.") (some F) fd.code none fd.builtins) fin) (.ok (env Z),ns Z tk++a,Z+kz,tk+z9))(jk:∀x,(out x).post.map (·.1)=a.map (·.1))(hB:∀(H:aD)(L tk:Nat)(s ak:am)(Q:dm->am->Prop)(E:ag->am->Prop)(aq:aw),H.handled=none->H.depth=A.depth+1->H.units<=U+3->(∀b o,aa.get? b=some o->aq.get? b=some o)->aK w aq->aq.NoLimit->ax True aq ak (ns L tk++a) s->s.heap.objs.size=L+kz->s.toks=tk+z9->(∀x Z s',(out x).res= .ok (.ret (match Z with| .ret v=>v|_=> .none))->s'.heap.objs.size=(out x).sz->s'.toks=(out x).tk->ax True aq ak ((out x).new++(out x).post) s'->Q Z s')->aG (av w) H (aV body (env L)) Q E s):Told True (av w) A U fr aa (.call (.ref F) args) a out:=by
 intro u s ak R hu SR m hR;refine cJ (kG (rR (dR ..) SR)) λSA m aZ=>?_;have H:aK w _:=λb o e=>aZ _ _ (XK b o e);have aU:=NL.keeps aZ;have hX:aK w s.heap:=λb o e=>SR.h.keep _ _ (XK b o e);refine FA (show A.depth< bk by exact b8 [lE (Y0+(Y2+1)) Y1] (lL Y0 Y1) rfl hd) (hX _ _ hF) rfl HK HL HM (BJ hX z7) (gL SA H hA 0 0 400 z8 .nil (λj=>True.intro) nofun (a8 _) _ _ _ _ (λσ=>e0 ..) λj s1 S1 ku HN G1=>?_);refine gL S1 H hA 0 0 400 Aa .nil (λj=>True.intro) nofun (a8 _) _ _ _ _ (λσ=>e1 ..) λj s2 S2 oj qT G2=>⟨aU.keeps S2.h.keep,Mi ?_⟩
 refine hB _ s1.heap.objs.size s1.toks s2 ak _ _ _ hA rfl (yR hu _) aZ H aU S2 oj qT λx Z s' Ab fN kr Y=>?_;have f1:∀p∈(out x).new,s.heap.get? p.1=none:=λp J=>by
  induction z:s.heap.get? p.1 with
  |none=>rfl|some o=>
   have H:=Y.h.nd;rw[bM,fj]at H;by_cases q:p.1∈a.map (·.1);·exact absurd rfl (H.2.2 p.1 (b7 J) p.1 (jk x▸q))
   ·have:=Y.h.off p (bL _ J);replace this:=(ke _ z q)▸this;injection this
 have f2:∀p∈(out x).new++(out x).post,aa.get? p.1=none:=λp J=>by
  induction z:aa.get? p.1 with
  |none=>rfl|some o=>have:=Y.h.off p J;replace this:=(aZ _ _ z)▸this;injection this
 have H:=hR x s' fN kr (jk x) (λp J=>f1 p J) ⟨⟨Y.h.at_,Y.h.nd,λb o e=>Y.h.keep b o (aZ b o e),λp J=>f2 p J⟩,Y.os,Y.gens, .inl True.intro⟩ (λb o e Z=>Y.h.keep b o (ke _ e λY=>aO (bq.mp Y) λp J e=>Z p J e));rw[Ab]at H;exact H
section
open PySem PySem.W PySem.W.X PyProof.Rows
abbrev OS:Scope:=nc ({ kind:=ScopeKind.function,names:=[(gD "self",BL.local),(gD "ns_stack",BL.local),(gD "_reversed",BL.local),(gD "namespaces",BL.local)],isGenerator:=true,isCoroutine:=false })
abbrev OT:Expr:=nc ((Xc (gD "_reversed") ⟨42,26,42,35⟩).Call [Xc (gD "ns_stack") ⟨42,36,42,44⟩] [] ⟨42,26,42,45⟩)
abbrev Db(p:d6):Expr:=nc (Xc (gD "namespaces") p)
abbrev OU:List Stmt:=[Stmt.If (Db ⟨43,15,43,25⟩) [Stmt.Expr ((Db ⟨44,27,44,37⟩).YieldFrom ⟨44,16,44,37⟩) ⟨44,16,44,37⟩] [] ⟨43,12,44,37⟩]
abbrev OV:List Stmt:=[Stmt.For (Db ⟨42,12,42,22⟩) OT OU [] ⟨42,8,44,37⟩]
theorem aDz:Rw.foot=7->∀(w:aj)(A:aD)(aa:aw)(L:af)(H:Str)(a:af)(mr:ag)(m:Str->Option ag)(news:List (af×ar))(s:am)(E:ag->am->Prop)(ds:af)(vs:List ag)(Q:ag->am->Prop)(F:Fr aa L s.heap m)(hl:s.heap.IsList ds vs.toArray)(Z:m "ns_stack"=some (.ref ds))(J:m "_reversed"=some (.type "reversed")) (Y:Q (.ref s.heap.objs.size) { s with heap:=s.heap.push (revObj ds ((vs.length:Int) - 1)) }),aG (av w) A (fy OT (Mj H OS L a mr)) Q E s:=by
 k_fill;intro aYh w A aa L H a mr m news s E ds vs Q F hl Z J Y;k_steps;refine ld F J ?_;k_steps;refine ld F Z ?_;k_steps;refine call_reversed_list hl ?_;have e:((vs.toArray.size:Nat):Int) - 1=(vs.length:Int) - 1:=by rfl
 exact Y
section
variable {c:bB}{P:mV->am->Prop}
theorem HO{m:cb α}{K:α->cb lm}{H:ag->cb lm}{gd:Bool->Bool}{lv:List ag->List ag}(h:aG (aR prog w) (A.over c fs) m (λa s'=>SegX (aR prog w) A c (K a) fs s' P) (λx s'=>SegX (aR prog w) A c (H x) fs s' P) s):SegX (aR prog w) A c (m.wrap K H gd lv) fs s P:=by rintro Γ p rfl J;exact c7 (runs_wrap_of_wp K H gd lv m (h _ p (J.over fs)) (λa H s' h'=>h' Γ H rfl J) (λx H s' h'=>h' Γ H rfl J)) λe s' J H=>⟨e,s',J,H⟩
theorem lJ{m:cb α}{K:α->cb lm}(h:aG (aR prog w) (A.over c fs) m (λa s'=>SegX (aR prog w) A c (K a) fs s' P) (λx s'=>SegX (aR prog w) A c (.raise x) fs s' P) s):SegX (aR prog w) A c (m>>=K) fs s P:=rR (FO ..) (HO h)
theorem iU{m:cb α}{f:α->cb β}{K:β->cb lm}{H:ag->cb lm}{gd:Bool->Bool}{lv:List ag->List ag}(h:aG (aR prog w) (A.over c fs) m (λa s'=>SegX (aR prog w) A c ((f a).wrap K H gd lv) fs s' P) (λx s'=>SegX (aR prog w) A c (H x) fs s' P) s):SegX (aR prog w) A c ((m>>=f).wrap K H gd lv) fs s P:=rR (FO ..) (rR (Ml ..) (HO h))
theorem aD0{l:List ag}{k:Unit->cb lm}(h:SegX (aR prog w) A c (k ()) fs s P):SegX (aR prog w) A c (.point l k) fs s P:=HO (H:= .raise) (gd:=id) (lv:=λz=>l) (Xd h)
end
noncomputable abbrev Led:=List (af×ar)
def xG(l:Led)(h:aw):Prop:=∀p∈l,h.get? p.1=some p.2
def Own(bg:Led)(ak:am)(a:af):Prop:=(∃p∈bg,p.1=a)\/ak.heap.get? a=none
def HP(lim:Nat)(bg H:Led)(ak s':am):Prop:=∃h' tk,s'={ ak with heap:=h',toks:=tk }/\(∀b o,ak.heap.get? b=some o->(∀p∈bg,p.1≠b)->h'.get? b=some o)/\(∀p∈H,lim<=p.1/\Own bg ak p.1/\h'.get? p.1=some p.2)
def HQ(M:fV)(A:aD)(H:FP)(s:am)(P:mV->am->Prop):Prop:=match H with
 | .fresh c=>SegX M A c (uK gz c) [] s P| .suspended k _ c _ fs _=>SegX M A c (k (.send .none)) fs s P|_=>False
def xH(M:fV)(A:aD)(lim:Nat)(ck:Led):List ag->Led->am->mV->am->Prop
 |[],bg,ak,e,s'=>e= .ret (.ok (.ret .none))/\HP lim bg [] ak s'|y::ys,bg,ak,e,s'=>e.result= .yielded y/\∃H,HP lim bg H ak s'/\∀J,xG (H++ck) J.heap->HQ M A e.genState J (xH M A lim ck ys H J)
def kI(bg:Led)(ak s:am):Prop:=∃h tk,s={ ak with heap:=h,toks:=tk }/\∀b o,ak.heap.get? b=some o->(∀p∈bg,p.1≠b)->h.get? b=some o
theorem kI.refl{bg:Led}:kI bg s s:=⟨s.heap,s.toks,rfl,λz z e z=>e⟩
theorem kI.ext{bg:Led}{a:af}(x:kI bg ak s)(o:Own bg ak a)(k:yZ a s.heap h'):kI bg ak { s with heap:=h',toks:=tk }:=by
 refine c7 x λh t H Y=>?_;subst H;refine⟨h',tk,rfl,λb H e n=>k b H (λq=>?_) (Y b H e n)⟩;subst q;rcases o with ⟨p,J,q⟩|q
 ·exact n p J q
 ·replace e:=q▸e;injection e
theorem kI.keep{bg:Led}(x:kI bg ak s)(k:∀b o,s.heap.get? b=some o->h'.get? b=some o):kI bg ak { s with heap:=h',toks:=tk }:=by refine c7 x λh t H J=>?_;subst H;exact⟨h',tk,rfl,λb H e n=>k b H (J b H e n)⟩
theorem kI.own{bg:Led}(x:kI bg ak s):Own bg ak s.heap.objs.size:=by
 refine c7 x λh t H J=>?_;subst H;by_cases q:∃p∈bg,p.1=h.objs.size;·exact .inl q
 ·refine .inr ?_;induction e:ak.heap.get? h.objs.size with
  |none=>rfl|some o=>exact absurd (dJ (J _ o e λp H r=>q ⟨p,H,r⟩)) (jI _)
theorem kI.since{bg J:Led}(x:kI bg ak s)(h:∀p∈J,lim<=p.1/\Own bg ak p.1/\s.heap.get? p.1=some p.2):HP lim bg J ak s:=by refine c7 x λh' t H Y=>?_;subst H;exact⟨h',t,rfl,Y,h⟩
end
variable {bg ck:Led}
section
open PySem PySem.W PySem.W.X PyProof.Rows
theorem OW:mf gz "proto.yield_from"=some Builtin.«proto.yield_from»:=aU4 (by kernel_rfl)
theorem aD1:typeLookup (.type "list_iterator") "close"=pure none:=by kernel_rfl
abbrev qc(it:af):Code:=nc (.builtin "proto.yield_from" ⟨[.ref it, .bool false, .none],[]⟩)
section
variable {P:mV->am->Prop}
theorem OX{b:Builtin}(H:mf gz id=some b)(h:SegX (aR prog w) A (.builtin id args) (b args) fs s P):SegX (aR prog w) A (.builtin id args) (uK gz (.builtin id args)) fs s P:=by show SegX _ _ _ (match mf gz id with|some b=>b args|none=>Xe _) ..;exact rR H h
theorem OY{Q:Unit->am->Prop}{l:af}{b:Bool}(H:s.heap.IsListIter it l j)(h:Q () s):aG M A (aY6 (.ref it) b) Q E s:=by refine ii H λo H J Y=>au (yU H ?_);exact rR J (rR (if_pos (by decide)) (aH h))
theorem aD2{l:af}{H:Array ag}{x:ag}(hh:(A.over (qc it) fs).handled=none)(J:s.heap.IsListIter it l j)(hl:s.heap.IsList l H)(hx:H[j]?=some x)(HR:Xf fs=none)(HT:fs.any aVr=false)(hQ:∀h',h'.IsListIter it l (j+1)->lc it s.heap h'->∀e:mV,e.result= .yielded x->(∀Z P',Z.heap.IsListIter it l (j+1)->SegX (aR prog w) A (qc it) (uK gz (qc it)) fs Z P'->HQ (aR prog w) A e.genState Z P')->P e { s with heap:=h' }):SegX (aR prog w) A (qc it) (uK gz (qc it)) fs s P:=by
 refine OX OW (lJ (aH ?_));refine hO λH aY=>ii (id J) λo ho hc Y=>?_;obtain⟨H,HU,z,H,mE⟩:=hl;refine aY (lJ (uN (fW ?_)));refine au (qy (au (wT J.typeIs wU
  (qz wU J.typeIs Mm ?_ (Mn _)))));show aG _ _ (BQ _ 0>>=_) ..;refine au (jc ho Y (x:= .ref l) rfl ?_);refine au (jc ho Y (x:= .int j 0) rfl ?_);refine au (wS HU mE ?_);simp only[wV,hx];have sZ:(s.heap.update it (qA λvs=>vs.setIfInBounds 1 (eJ ((j:Int)+1)))).IsListIter it l _:=⟨_,nN _ ho (Obj.isFreed_of_fields (aVs Y _)),(Obj.cls_mapFields ..).trans hc,by rw[aVs Y];rfl⟩
 refine au (sn ho Y (by simp) (aH ⟨x,rfl,aH ?_⟩));refine lJ (uS sZ.typeIs ?_);refine lJ (je aD1 ?_);refine lJ (aH ?_);refine lJ (OY sZ ?_);refine s_yield prog w A _ fs P _ x [] _ HR HT λp=>hQ _ sZ (ib ..) _ rfl λZ P' J H=>lJ (aH ?_);refine lJ (OY J ?_);refine lJ (je rfl ?_);exact s_again prog w A _ fs P' Z _ (aVd _ (by decide+kernel)) H
theorem aD3{l:af}{H:Array ag}{k:cz->cb lm}{oq:Option ag}{gd:Bool}{lv:List ag}{Y:bB}{q9:d6}{kp:List ag}(hh:(A.over (qc it) (.ret k oq gd lv Y q9 kp::fs)).handled=none)(J:s.heap.IsListIter it l j)(hl:s.heap.IsList l H)(hx:H[j]?=none)(hQ:∀h',yZ it s.heap h'->SegX (aR prog w) A Y (k (.ok (.ret .none))) fs { s with heap:=h' } P):SegX (aR prog w) A (qc it) (uK gz (qc it)) (.ret k oq gd lv Y q9 kp::fs) s P:=by
 refine OX OW (lJ (aH ?_));refine hO λH aY=>ii (id J) λo ho H Z=>?_;obtain⟨H,HU,z,H,mE⟩:=hl;refine aY (lJ (uN (fW ?_)));refine au (qy (au (wT J.typeIs wU
  (qz wU J.typeIs Mm ?_ (Mn _)))));show aG _ _ (BQ _ 0>>=_) ..;refine au (jc ho Z (x:= .ref l) rfl ?_);refine au (jc ho Z rfl ?_);refine au (wS HU mE ?_);simp only[wV,hx];refine au (qy (au (sn ho Z (by simp) ?_)));refine au (au (kd ?_ (by size_fits)));refine au (je (a:=ag.none) (by first|rfl|(rfl)) ?_);refine kd ?_ (by size_fits);refine au (FQ ?_);refine rR (show(aVt _).handled=none from hh) (au (aH (FS ?_)));have eo:((((s.heap.update it _).push { cls:=FU "tuple",data:=Xg #[] }).push _):aw).get? ((s.heap.update it (qA λx=>x.setIfInBounds 0 ag.none)).push { cls:=FU "tuple",data:=Xg #[] }).objs.size=some { cls:=FU "StopIteration",data:=Data.fields (#[aN (s.heap.update it (qA λx=>x.setIfInBounds 0 ag.none)).objs.size,ag.none,ag.none,ag.none,dY false,ag.none]++ownMembersOf (FU "StopIteration") []) }:=gZ _ rfl;refine lJ (au (au (uS ⟨_,gZ _ rfl,rfl⟩ ?_)));refine au (je FV ?_);refine au (aH ?_);refine aH (aH ?_);refine lJ (qy (lJ (jc eo rfl rfl ?_)));exact s_pop prog w A _ fs P _ _ _ rfl k oq gd lv Y q9 kp (hQ _ (((ib ..).extBut.push _).push _))
end
end
section
open PySem PySem.W PySem.W.X PyProof.Rows
structure LS where
 a:af
 ep:Nat
 items:List ag
noncomputable def ng(ds dep:Nat)(H:List LS):Led:=(ds,listOf (H.map λl=>aN l.a).toArray dep)::H.map λl=>(l.a,listOf l.items.toArray l.ep)
noncomputable def lK(r:List LS):List Value:=r.flatMap (·.items)
structure jR(lim:Nat)(ck:Led)(C rv ds:af)(i:Int)(bg:Led)(ak s:am):Prop where
 so:kI bg ak s
 fns:∃m,s.heap.Ns C m
 vD:s.heap.IsRevIter rv ds i
 fst:xG ck s.heap
 low:∀p∈ck,p.1< lim
 tH:lim<=C
 vE:lim<=rv
 ne:C≠rv
 xI:Own bg ak C
 vF:Own bg ak rv
section
variable {rv:af}{i:Int}
theorem jR.ext{a:af}(x:jR lim ck C rv ds i bg ak s)(Y:lim<=a)(J:a≠C)(H:a≠rv)(o:Own bg ak a)(k:yZ a s.heap h'):jR lim ck C rv ds i bg ak { s with heap:=h',toks:=tk }:=⟨x.so.ext o k,let ⟨m,hm⟩:=x.fns;⟨m,hm.extBut k J.symm⟩,x.vD.at λo e=>k rv o H.symm e,λp H=>k p.1 p.2 (dw (qr (x.low p H) Y)) (x.fst p H),x.low,x.tH,x.vE,x.ne,x.xI,x.vF⟩
theorem jR.keep(x:jR lim ck C rv ds i bg ak s)(k:∀b o,s.heap.get? b=some o->h'.get? b=some o):jR lim ck C rv ds i bg ak { s with heap:=h',toks:=tk }:=⟨x.so.keep k,let ⟨m,hm⟩:=x.fns;⟨m,hm.keeps k⟩,x.vD.at λo e=>k rv o e,λp H=>k p.1 p.2 (x.fst p H),x.low,x.tH,x.vE,x.ne,x.xI,x.vF⟩
theorem jR.setC{m:Str->Option ag}(x:jR lim ck C rv ds i bg ak s)(H:h'.Ns C m)(k:lc C s.heap h'):jR lim ck C rv ds i bg ak { s with heap:=h',toks:=tk }:=⟨x.so.ext x.xI k.extBut,⟨m,H⟩,x.vD.at λo e=>(k.2 rv x.ne.symm).trans e,λp H=>(k.2 p.1 (dw (qr (x.low p H) x.tH))).trans (x.fst p H),x.low,x.tH,x.vE,x.ne,x.xI,x.vF⟩
theorem jR.aD4{J:Int}(x:jR lim ck C rv ds i bg ak s)(H:h'.IsRevIter rv ds J)(k:lc rv s.heap h'):jR lim ck C rv ds J bg ak { s with heap:=h',toks:=tk }:=⟨x.so.ext x.vF k.extBut,let ⟨m,H⟩:=x.fns;⟨m,H.sameBut k x.ne⟩,H,λp H=>(k.2 p.1 (dw (qr (x.low p H) x.vE))).trans (x.fst p H),x.low,x.tH,x.vE,x.ne,x.xI,x.vF⟩
theorem aD5{l:LS}{rest:List ag}{Y:cz->cb lm}{xJ:List ag}{Z:bB}{p1:d6}{Dc:List ag}(hl:(l.a,listOf l.items.toArray l.ep)∈ck)(hh:∀c,(A.over c (.ret Y none false xJ Z p1 Dc::fs)).handled=none)(HR:Xf (.ret Y none false xJ Z p1 Dc::fs)=none)(HT:(aY7 Y none false xJ Z p1 Dc::fs).any aVr=false)(cont:∀ak bg s,jR lim ck C rv ds i bg ak s->SegX (aR prog w) A Z (Y (.ok (.ret .none))) fs s (xH (aR prog w) A lim ck rest bg ak)):∀(n j:Nat),j+n=l.items.length->∀it ak bg s,jR lim ck C rv ds i bg ak s->s.heap.IsListIter it l.a j->lim<=it->it≠C->it≠rv->Own bg ak it->SegX (aR prog w) A (qc it) (uK gz (qc it)) (.ret Y none false xJ Z p1 Dc::fs) s (xH (aR prog w) A lim ck (l.items.drop j++rest) bg ak):=by
 intro n;induction n with
 |zero=>intro j J it ak bg s x H la nC nR o;have e:l.items.drop j=[]:=List.drop_eq_nil_of_le (fA [eQ (Y1+0) Y0] (lE Y0 Y1) [-1] 1 rfl J);simp only[e,uP];refine aD3 (hh _) H ⟨_,x.fst _ hl,rfl,_,rfl⟩ (by simp;exact fA [eQ (Y1+0) Y0] (lE Y0 Y1) [-1] 1 rfl J) λh' k=>cont _ _ _ (x.ext la nC nR o k)|succ n ih=>
  intro j J it ak bg s x H la nC nR o;have bp:j< l.items.length:=b8 [eQ (Y0+(Y2+1)) Y1] (lL Y0 Y1) rfl J;simp only[aVu bp,sj];refine aD2 (x:=l.items[j]) (hh _) H ⟨_,x.fst _ hl,rfl,_,rfl⟩ (by simp[bp]) HR HT λh' Y k e Z hw=>?_;have y:=x.ext (tk:=s.toks) la nC nR o k.extBut;refine hO λH H=>MT y.fns λmC oC es ep gC rC=>aO y.vD λoR gR rR=>aO (id Y) λoI gI rI=>H ⟨Z,[(C,oC),(rv,oR),(it,oI)],y.so.since ?_,λba ha=>?_⟩
  ·intro p hp;rcases a9.mp hp with rfl|hp
   ·exact⟨x.tH,x.xI,gC⟩
   rcases a9.mp hp with rfl|hp
   ·exact⟨x.vE,x.vF,gR⟩
   rcases a9.mp hp with rfl|hp
   ·exact⟨la,o,gI⟩
   ·contradiction
  ·have H:=ha _ (bL _ ay);have OZ:ba.heap.IsListIter it l.a _:=⟨oI,(ha _ (bL _ (aB (aB ay)))),rI⟩
   refine hw ba _ OZ (ih _ (c8 (b8 [eQ (Y0+(Y1+1)) Y2] (lE (Y0+1+Y1) Y2) rfl J) (cA [eQ (Y1+(Y2+1)) Y0] (lE Y0 (Y1+1+Y2)) [-1] 1 rfl J)) it ba _ ba ⟨.refl,⟨mC,oC,es,ep,H,rC⟩,⟨oR,(ha _ (bL _ (aB ay))),rR⟩,λp hp=>ha p (bD _ hp),x.low,x.tH,x.vE,x.ne, .inl ⟨(C,oC),ay,rfl⟩, .inl ⟨(rv,oR),aB ay,rfl⟩⟩ OZ la nC nR (.inl ⟨(it,oI),aB (aB ay),rfl⟩))
end
end
section
open PySem PySem.W PySem.W.X PyProof.Rows
section
variable {scope:LH}{a:af}{cd:ag}{m:Str->Option ag}
theorem O1{x:Str}{v:ag}{Q:ag->am->Prop}(ns:s.heap.Ns L m)(J:m x=some v)(h:Q v s)(H:scope.kind= .function)(Y:(Mj name scope L a cd).kindOf x=some .local)(hd:(x==("__debug__":Str))=false):aG M A (fy (.Name x pos) (Mj name scope L a cd)) Q E s:=Xh (Xi H Y ns J h) hd
end
abbrev Dd(H:Str)(C a:af)(J:ag):Env:=Mj H OS C a J
abbrev O2(env:lb)(H:af):Code:= .forLoop (Db ⟨42,12,42,22⟩) (.ref H) OU [] env
section
variable {rv a:af}{qn:Str}{mr:ag}{ls:List LS}{kf:cz->cb lm}{O3:List ag}{cf:bB}{pf:d6}{O4:List ag}
theorem aD6(hh:A.handled=none)(js:∀l∈ls,l.items.length<=1000)(vG:∀s P,P (.ret (.ok (.ret .none))) s->SegX (aR prog w) A cf (kf (.ok .next)) [] s P):∀(k:Nat),k<=ls.length->∀ak bg s,jR lim (ng ds dep ls) C rv ds ((k:Int) - 1) bg ak s->SegX (aR prog w) A (O2 (Dd qn C a mr) rv) (uK gz (O2 (Dd qn C a mr) rv)) [.ret kf none false O3 cf pf O4] s (xH (aR prog w) A lim (ng ds dep ls) (lK (ls.take k).reverse) bg ak):=by
 intro k;induction k with
 |zero=>intro j ak bg s x;show SegX _ _ _ ((forTurn ..).onRaise _) ..;rw[Xj];refine iU (pD ?_);refine iU (wpAny_onRaise (wpAny_pyNext_rev_end hh x.vD λh' k=>?_));refine s_again prog w A _ _ _ _ _ rfl (s_pop prog w A _ _ _ _ _ _ rfl kf none false O3 cf pf O4 (vG _ _ ⟨rfl,?_⟩));exact(x.so.ext x.vF k).since (λp hp=>nomatch hp)|succ k ih=>
  intro hk ak bg s x;have Y:k< ls.length:=hk;show SegX _ _ _ ((forTurn ..).onRaise _) ..;rw[Xj];refine iU (pD ?_);have xr:=x.vD;have e1:((k+1:Nat):Int) - 1=(k:Int):=bw (iB [(k:Nat)] [] (lE (Y0+1-1) Y0) rfl) (iB [(k:Nat)] [] (lE Y0 (Y0+1-1)) rfl);rw[e1]at xr;refine iU (wpAny_onRaise (wpAny_pyNext_rev_item (x:= .ref ls[k].a) xr ⟨_,x.fst _ ay,rfl,_,rfl⟩ (by simp[Y]) λh1 De k1=>?_));have x1:=x.aD4 (tk:=s.toks) De k1;refine iU (je rfl ?_);refine BK x1.fns λm1 ns1=>iU (wpAny_assign_Name (wpAny_storeName_local rfl ns1 (λh2 Z k2=>?_)));have x2:=x1.setC (tk:=s.toks+1) Z k2;have hm:_∈ng ds dep ls:=aB (b7 (uT Y));have ey:lK (ls.take (k+1)).reverse=ls[k].items++lK (ls.take k).reverse:=by refine rR (List.take_succ_eq_append_getElem Y) (rR FW ?_);rfl
  refine rR ey ?_;rw[FO,Ml];rw[Xk];refine iU (pD ?_);refine iU (isTrue_plain (O1 Z rfl (wpAny_truthy_list ⟨_,x2.fst _ hm,rfl,_,rfl⟩ ?_ ?_) rfl rfl (by decide)))
  ·have:=js _ (uT Y);rw[pz];omega
  have H:=x2.keep (tk:=s.toks+1+1+1) λz z e=>e;induction hi:ls[k].items with
  |nil=>exact s_again prog w A _ _ _ _ _ rfl (ih (cT hk) _ _ _ H)|cons y ys=>
   refine rR (if_pos (show _=true from rfl) ..) (rR (Xk ..) (rR (exec_Expr _ _ _ rfl rfl ..) ?_));refine iU (pD ?_);refine rR (FO ..) (rR (Ml ..) (rR (arm_eval_YieldFrom ..) ?_));refine iU (O1 Z rfl ?_ rfl rfl (by decide));refine iU (pD ?_);refine iU (uS ⟨_,H.fst _ hm,rfl⟩ ?_);refine iU (fW (wpAny_pyIter_list ⟨_,H.fst _ hm,rfl,_,rfl⟩ ?_));refine s_call prog w A _ _ _ _ _ none false _ _ λp=>rL hi ?_;have J:=Z.lt;have x4:=H.keep (h':=h2.push { cls:= .type "list_iterator",data:= .fields #[.ref ls[k].a, .int 0 0] }) (tk:=s.toks+1+1+1) λz z e=>cZ _ e;have li:(h2.push { cls:= .type "list_iterator",data:= .fields #[.ref ls[k].a, .int 0 0] }).IsListIter h2.objs.size ls[k].a 0:=⟨_,gZ _ rfl,rfl,rfl⟩
   refine aD5 hm ?_ ?_ ?_ ?_ ls[k].items.length 0 (Mo _) _ ak bg _ x4 li (cT (iI x.tH J)) (jd J) (jd (aO H.vD λo J j=>dJ J)) H.so.own;·exact λz=>hh
   ·rfl
   ·rfl
   ·intro ak bg s x;exact s_again prog w A _ _ _ _ _ rfl (ih (cT hk) _ _ _ x)
end
end
section
open PySem PySem.W PySem.W.X PyProof.Rows
def Ac(M:fV)(A:aD)(lim:Nat)(ck:Led)(ys:List ag)(bg:Led)(J:FP):Prop:=∀H,xG (bg++ck) H.heap->HQ M A J H (xH M A lim ck ys bg H)
section
variable {a:af}{qn:Str}{mr:ag}{ls:List LS}
theorem aD7{Y:ar}{m:Str->Option ag}(Z:Rw.foot=7)(hh:A.handled=none)(js:∀l∈ls,l.items.length<=1000)(aD9:∀p∈ng ds dep ls,p.1< lim)(hC:lim<=C)(nh:∃J ep,Y.data= .dict J ep/\StrKeys J/\∀name,LW J name=m name)(h1:m "ns_stack"=some (.ref ds))(h2:m "_reversed"=some (.type "reversed")):Ac (av w) A lim (ng ds dep ls) (lK ls.reverse) [(C,Y)] (.fresh (.func OV (Dd qn C a mr))):=by
 intro s ha;refine aD0 (rR (Xj ..) (rR (FO ..) (rR (Ml ..) ?_)));refine rR (Xk ..) (rR (exec_For ..) ?_);refine iU (pD ?_);refine hO λci aY=>lq nh λJ ep hd hk hf=>aY ?_;have ns:s.heap.Ns C m:=⟨Y,J,ep,(ha _ ay),hd,hk,hf⟩
 have F:Fr {} C s.heap m:=⟨ns,λb o e=>(by simp[Heap.get?]at e),f4 _⟩
 refine iU (aDz Z w _ _ C qn a mr m [] s _ ds _ _ F ⟨_,(ha _ (aB ay)),rfl,_,rfl⟩ h1 h2 ?_);refine iU (je rfl ?_);refine iU (pD ?_);have J:(((ls.map λl=>aN l.a).length:Nat):Int) - 1=(ls.length:Int) - 1:=by simp
 refine rR J ?_;have H:(s.heap.push (revObj ds _)).IsRevIter s.heap.objs.size ds ((ls.length:Int) - 1):=⟨_,gZ _ rfl,rfl,rfl⟩
 refine iU (fW (wpAny_pyIter_revIter H ?_));refine s_call Rw.prog w A _ _ _ _ _ none false _ _ λp=>?_;have Z:∀b o,s.heap.get? b=some o->(s.heap.push (revObj ds ((ls.length:Int) - 1))).get? b=some o:=λb o e=>cZ _ e;have J:=ns.lt;have cur:jR lim _ C s.heap.objs.size ds _ [(C,Y)] s { s with heap:=s.heap.push _ }:=⟨kI.refl.keep Z,⟨m,ns.keeps Z⟩,H,λp H=>Z _ _ (ha p (aB H)),aD9,hC,cT (iI hC J),dw J, .inl ⟨_,ay,rfl⟩,kI.refl.own⟩
 refine rR (show lK ls.reverse=lK (ls.take ls.length).reverse from rR BV rfl) (aD6 hh js (λs P h=>?_) ls.length (a8 _) s _ _ cur);exact s_end Rw.prog w A _ P s _ _ rfl h
end
end
section
open PySem PySem.W PySem.W.X PyProof.Rows
theorem O5{c:bB}{t:cb lm}{P:mV->am->Prop}(x:SegX M A c t fs s P):SegX M A c t fs s (λe s'=>e.quiet=true/\P e s'):=λΓ p H J=>by exact lq (x Γ p H J) λe s' Y H J=>⟨e,s',Y,H,H,J⟩
theorem O6(s:am)(g:Nat)(x y:FP):(s.gens.setIfInBounds g x).setIfInBounds g y=s.gens.setIfInBounds g y:=by simp
def HW(M:fV)(A:aD)(lim:Nat)(ck bg:Led)(g:Nat)(Q:Option ag->am->Prop)(s:am):List ag->Prop
 |[]=>∀h' tk,(∀b o,s.heap.get? b=some o->(∀p∈bg,p.1≠b)->h'.get? b=some o)->Q none { s with heap:=h',toks:=tk,gens:=s.gens.setIfInBounds g .finished }|y::ys=>∀h' tk J H,(∀b o,s.heap.get? b=some o->(∀p∈bg,p.1≠b)->h'.get? b=some o)->(∀p∈J,lim<=p.1/\Own bg s p.1/\h'.get? p.1=some p.2)->H.bare=true->Ac M A lim ck ys J H->Q (some y) { s with heap:=h',toks:=tk,gens:=s.gens.setIfInBounds g H }
section
variable {g:Nat}{gs:FP}{ys:List ag}
theorem aEa{k:Xl->cb α}{Q:α->am->Prop}(Z:s.gens[g]?=some gs)(H:Ac (aR prog w) A lim ck ys bg gs)(ei:xG (bg++ck) s.heap)(h:HW (aR prog w) A lim ck bg g (λo s'=>aG (aR prog w) A (k (match o with|none=>(Xm (.ok (.ret .none))).result|some y=> .yielded y)) Q E s') s ys):aG (aR prog w) A (.resume g (.send .none) [] k) Q E s:=by
 have z:=H (s.setGen g .running) ei;have post:∀(e:mV)Y,e.quiet=true/\xH (aR prog w) A lim ck ys bg (s.setGen g .running) e Y->∀Γ p,Γ.In A->Mh (aR prog w) Γ (k e.result) (λa j s'=>Q a s') (λe j s'=>E e s') p (Y.setGen g e.genState):=by
  rintro e Y ⟨hq,he⟩ Γ p fL;induction ys using px with
  |nil=>refine hO λH aY=>hO λH d5=>?_;obtain⟨rfl,h',tk,rfl,J,v⟩:=he;refine d5 (aY ?_);have:=h h' tk J Γ p fL;rw[<-O6 s g .running .finished]at this;exact this
  |cons y ys=>obtain⟨hr,jr,⟨h',tk,rfl,J,hp⟩,hs⟩:=he;have:=h h' tk jr e.genState J hp (End.bare_of_quiet hq) hs Γ p fL;rw[<-O6 s g .running e.genState]at this;exact hr▸this
 induction gs with
 |fresh c=>exact wake_any _ prog w Z (.inl ⟨rfl,rfl,rfl,rfl⟩) _ (λj h=>h) ((O5 z).mono post)|suspended ot tJ qe ou Dg cl=>exact wake_any _ prog w Z (.inr ⟨ot,tJ,ou,cl,rfl,rfl⟩) _ (λj h=>h) ((O5 z).mono post)|running=>exact z.elim|finished=>exact z.elim
theorem aEb{Q:Option ag->am->Prop}(hh:A.handled=none)(hl:s.heap.NoLimit)(xb:A.depth< bk)(J:s.heap.IsGen ga g)(tI:s.gens[g]?=some gs)(H:Ac (aR prog w) A.in1 lim ck ys bg gs)(Z:xG (bg++ck) s.heap)(h:HW (aR prog w) A.in1 lim ck bg g Q s ys):aG (aR prog w) A (y3 (.ref ga)) Q E s:=by
 refine au (uN (wT J.typeIs slot_gen_next
  (qz slot_gen_next J.typeIs entry_gen_next ?_ (args_gen_next _))));show aG _ A.in1 (aY8 _ (.send .none)) ..;refine au (fW (wpAny_genNumber J (au (wpAny_genState tI ?_))));have key:∀(k:Xl->cb lm)(Q':lm->am->Prop)J,HW _ A.in1 lim ck bg g _ s ys->aG _ A.in1 (.resume g _ [] k) Q' J s:=λk Q' J x=>aEa tI H Z x;induction gs with
 |running=>exact(H _ Z).elim|finished=>exact(H _ Z).elim|_=>
  refine au (wpAny_roomToWake hl xb ?_);refine key _ _ _ ?_;induction ys with
  |nil=>intro h' tk Y;show aG _ A.in1 (newExc _ [] >>=_) ..;refine au (au (kd ?_ (by size_fits)));refine au (je (a:=ag.none) (by first|rfl|(rfl)) ?_);refine kd ?_ (by size_fits);refine au (au (FQ ?_));refine rR (show A.in1.handled=none from hh) (FS ?_);refine au (mU ⟨_,gZ _ rfl,rfl⟩ FV ?_);exact aH (h _ _ λb o e n=>cZ _ (cZ _ (Y b o e n)))|cons y ys=>intro h' tk jr vH Y hp hb hs;exact aH ⟨y,rfl,aH (h h' tk jr vH Y hp hb hs)⟩
end
end
section
open PySem PySem.W PySem.W.X PyProof.Rows PySem.Calls
abbrev HX:Str:=nc ("C14NWriterTarget._iter_namespaces")
abbrev gEn(C:af):Env:=Dd HX C 75 (.ref 74)
abbrev O7(g:Nat)(t1 t2:ab):Obj:={ cls:= .type "generator",data:= .fields #[.int g 0, .str (gD "_iter_namespaces") t1, .str HX t2] }
theorem aEc(p:ph):(K p).lookup 75=some MJ.1:=by kernel_rfl
theorem aEd(p:ph):LU (K p) (.ref 74) HX=true:=by kernel_rfl
theorem aEe(p:ph):(K p).lookup 68=some ⟨.type "tuple",none, .seq #[.type "reversed"] 0,#[]⟩:=by kernel_rfl
def aEf(o:ar)(m:Str->Option ag):Prop:=∃H ep,o.data= .dict H ep/\StrKeys H/\∀name,LW H name=m name
section
variable {tg:af}
theorem aEg(Z:A.depth< bk)(J:aK w s.heap)(NL:s.heap.NoLimit)(Y:∀h' tL ga H t1 t2,(∀b o,s.heap.get? b=some o->h'.get? b=some o)->h'.get? ga=some (O7 s.gens.size t1 t2)->h'.get? s.heap.objs.size=some H->s.heap.objs.size< ga->aEf H (λy=>([("self", .ref tg),("ns_stack", .ref ds),("_reversed", .type "reversed")]:List (Str×ag)).reverse.lookup y)->R (.ok (.ret (.ref ga))) { s with heap:=h',toks:=tL,gens:=s.gens.push (.fresh (.func OV (gEn s.heap.objs.size))) }):eH (av w) A (gG 75 [.ref tg, .ref ds]) R s:=by refine codeAny_call_generator Z (J _ _ (aEc _)) rfl rfl rfl rfl (BJ J (aEd _)) ((binds_K J rfl (aEe _) rfl rfl rfl) _ _ _ _ ?_);refine wpAny_newFunctionEnv (by decide) (locs rfl) (λaq J Z=>⟨NL.fresh _ Z,?_⟩);refine hO λci aY=>B7 J λH es ep J hd hk hf=>aY (Y _ _ _ H _ _ (λb o e=>cZ _ (Z.extBut b o (dw (dJ e)) (cZ _ e))) (gZ _ rfl) (cZ _ J) (dJ J) ⟨es,ep,hd,hk,hf⟩)
end
end
section
end
section
open PySem PySem.W PySem.W.X PyProof.Rows PySem.Calls
section
theorem aEi{Z:Expr}{es:List Expr}{p:d6}(ht:Z= .Tuple es n p){v:ag}{Q:Unit->am->Prop}(h:s.TypeIs (.ref ga) "generator")(J:Q () s):aG (aR prog w) A (uU Z (.ref ga) v) Q E s:=by
 refine aO h λo ho hc=>?_;obtain⟨Z,Z,Y,Z⟩:=o;subst hc;have H:∀a:af,aG (aR prog w) A (do
   let o <-load ga
   match o.cls,o.data with
   | .type n, .fields vs=>
    if ["enumerate","zip","dict_itemiterator","dict_reverseitemiterator","odict_iterator","itertools.zip_longest","itertools.pairwise"].contains n && vs[0]?==some (eJ a)then do
     rule "for.unpacks-the-owned-tuple"
     updateField ga 0 .none
    else pure ()
   |_,_=>pure ()) Q E s:=by
  intro a;refine au (yU ho ?_);induction Y with
  |fields vs=>dsimp only;exact aH J|_=>exact aH J
 subst ht;induction v with
 |ref a=>exact H a|_=>exact aH J
end
end
section
open PySem PySem.W PySem.W.X PyProof.Rows
structure NE where
 t:Nat
 u:Str
 tu:ab
 p:Str
 tp:ab
abbrev fB(e:NE):Obj:=nc (⟨.type "tuple",none, .seq #[.str e.u e.tu, .str e.p e.tp] 0,#[]⟩)
abbrev ia(e:NE):Value:=nc (.ref e.t)
def KK(ks:List af)(h h':aw):Prop:=∀b o,h.get? b=some o->b ∉ ks->h'.get? b=some o
def GenAt(w:aj)(A:aD)(aq:aw)(ks:List af)(ck:Led)(ys:List ag)(ga:af)(s:am):Prop:=∃(lim:Nat)(g:Nat)(H:FP)(bg:Led)(t1 t2:ab),s.gens[g]?=some H/\Ac (av w) A lim ck ys bg H/\xG bg s.heap/\s.heap.get? ga=some (O7 g t1 t2)/\(∀p∈bg,aq.get? p.1=none/\p.1 ∉ ks/\p.1≠ga)/\aq.get? ga=none/\ga ∉ ks
theorem GenAt.keep{ks:List af}{ys:List ag}(G:GenAt w A aq ks ck ys ga s)(J:s'.gens=s.gens)(H:∀b o,s.heap.get? b=some o->b ∉ ks->s'.heap.get? b=some o):GenAt w A aq ks ck ys ga s':=by refine hO λci Z=>?_;obtain⟨lim,g,Y,bg,t1,t2,a,b,c,d,e,f,k⟩:=G;exact Z ⟨lim,g,Y,bg,t1,t2,J▸a,b,λp J=>H _ _ (c p J) (e p J).2.1,H _ _ d k,e,f,k⟩
theorem aEj{a:Array α}{g:Nat}{x y:α}(h:a[g]?=some y):(a.setIfInBounds g x)[g]?=some x:=by refine BK (Array.getElem?_eq_some_iff.mp h) λh z=>?_;exact rR (Array.getElem?_setIfInBounds_self) (rR (if_pos h) rfl)
theorem O8{P:α->Prop}{a:Array α}{g:Nat}{x:α}(h:∀y∈a,P y)(J:P x):∀y∈a.setIfInBounds g x,P y:=λy H=>by
 rcases Array.mem_or_eq_of_mem_setIfInBounds H with q|q
 ·exact h y q
 ·exact q▸J
theorem aEk{P:α->Prop}{a:Array α}{x:α}(h:∀y∈a,P y)(J:P x):∀y∈a.push x,P y:=λy H=>by
 rcases Array.mem_push.mp H with q|q
 ·exact h y q
 ·exact q▸J
section
variable {ks:List af}{led:Led}
theorem aEl{ys:List ag}{Q:Option ag->am->Prop}(hA:A.handled=none)(NL:aq.NoLimit)(J:A.depth< bk)(H:ax True aq ak led s)(hk:led.map (·.1)=ks)(hs:∀p∈ck,p∈led)(G:GenAt w A.in1 aq ks ck ys ga s)(h0:ys=[]->∀s',ax True aq ak led s'->Q none s')(h1:∀y zs,ys=y::zs->∀s',ax True aq ak led s'->GenAt w A.in1 aq ks ck zs ga s'->Q (some y) s'):aG (av w) A (y3 (.ref ga)) Q E s:=by
 refine hO λci aY=>?_;obtain⟨lim,g,gs,bg,t1,t2,tI,hS,hp,vI,Z,hg0,hgk⟩:=G;refine aY ?_;have inl:∀p∈led,p.1∈ks:=λp q=>hk▸b7 q;have hb:=H.gens True.intro;have kp:∀Y:aw,(∀b o,s.heap.get? b=some o->(∀p∈bg,p.1≠b)->Y.get? b=some o)->f5 aq led Y:=λY k=>
  ⟨λp q=>k _ _ (H.h.at_ p q) λr J e=>(Z r J).2.1 (e▸inl p q),H.h.nd,λb o e=>k _ _ (H.h.keep b o e) λr J q=>(by have:=(Z r J).1;replace this:=e▸(q▸this);injection this),H.h.off⟩;refine aEb hA (NL.keeps H.h.keep) J ⟨_,_,_,vI,rfl,rfl,rfl⟩ tI hS (λp q=>by
  rcases cr.mp q with q|q
  ·exact hp p q
  ·exact H.h.at_ p (hs p q)) ?_;induction ys with
 |nil=>exact λY tk k=>h0 rfl _ ⟨kp Y k,H.os,λj=>O8 hb rfl, .inl True.intro⟩|cons y ys=>
  intro Y tk jr vH k iM f6 mB;refine h1 y ys rfl _ ⟨kp Y k,H.os,λj=>O8 hb f6, .inl True.intro⟩ ⟨lim,g,vH,jr,t1,t2,aEj tI,mB,λp q=>(iM p q).2.2,k _ _ vI λp q=>(Z p q).2.2,λp q=>?_,hg0,hgk⟩;rcases (iM p q).2.1 with ⟨r,J,e⟩|e
  ·exact e▸Z r J
  ·have no:∀o,s.heap.get? p.1≠some o:=λo z=>by replace z:=e▸z;injection z
   refine⟨?_,λz=>?_,λz=>no _ (z▸vI)⟩
   ·induction z:aq.get? p.1 with
    |none=>rfl|some o=>exact absurd (H.h.keep _ _ z) (no o)
   ·rw[<-hk]at z;exact aO (bq.mp z) λr J z=>no _ (z▸H.h.at_ r J)
theorem aEm{xK H:cY}(U:Str)(ents:List NE)(Y:List NE->Led->Prop)(ks:List af)(ck:Led)(hA:A.handled=none)(NL:aq.NoLimit)(hr:A.depth< bk)(hk:∀d l,Y d l->l.map (·.1)=ks)(hs:∀d l,Y d l->∀p∈ck,p∈l)(aEn:∀x,Mp H env x=pure x){Z:List cY}{tn:Nat}{tp:d6}(ht:xK= .Tuple Z tn tp)(Z:aG (av w) A (fy H env) (λxv ba=>∃ga l,xv= .ref ga/\Y [] l/\ax True aq ak l ba/\GenAt w A.in1 aq ks ck (ents.map ia) ga ba) E s)(vG:(∀e∈ents,e.u≠U)->∀l s',Y ents l->ax True aq ak l s'->Q .next s')(turn:∀(E:ag->am->Prop)d e r l s'(R:am->Prop),ents=d++e::r->(∀x∈d,x.u≠U)->Y d l->ax True aq ak l s'->(e.u≠U->∀l' J,Y (d++[e]) l'->ax True aq ak l' J->J.gens=s'.gens->KK ks s'.heap J.heap->R J)->aG (av w) A (pF xK env (ia e)) (λ_ J=>aG (av w) A (aV body env) (Mq Q R) E J) E s'):aG (av w) A (exec (.For xK H body [] pos) env) Q E s:=by
 refine Xn (pA Z (λxv ba h=>?_) λj j z=>z) aEn;refine hO λH aY=>hO λkB d5=>Gl h λga l eq1 S0 SR G=>?_;subst eq1;obtain⟨v,v,v,v,v,v,v,v,v,vI,v⟩:=id G;refine d5 (aY ?_);refine wpAny_pyIter_gen ⟨_,_,_,vI,rfl,rfl,rfl⟩ (Xo (λn s'=>∃d r l,n=r.length/\ents=d++r/\(∀e∈d,e.u≠U)/\Y d l/\ax True aq ak l s'/\GenAt w A.in1 aq ks ck (r.map ia) ga s') ?_ _ ⟨[],ents,l,rfl,rfl,(λj h=>nomatch h),S0,SR,G⟩);rintro n H ⟨d,r,l,rfl,he,hd,S1,vJ,G1⟩;refine aEl hA NL hr vJ (hk _ _ S1) (hs _ _ S1) G1 (λhn J Ad=>?_) λy H hy J Ad G2=>?_
 ·obtain rfl:=BR.mp hn;rw[dR]at he;subst he;exact qC (vG hd l J S1 Ad)
 ·refine lq (List.map_eq_cons_iff.mp hy) λe r' eq2 eq3 eq4=>?_;subst eq2;subst eq3;subst eq4;refine hO λkB d5=>?_;obtain⟨v,v,v,v,v,v,v,v,v,aEo,v⟩:=id G2;refine d5 (aEi ht ⟨_,aEo,rfl⟩ ?_);refine pA (turn _ d e r' l J (λs3=>∃m,m<(e::r').length/\∃d r l,m=r.length/\ents=d++r/\(∀e∈d,e.u≠U)/\Y d l/\ax True aq ak l s3/\GenAt w A.in1 aq ks ck (r.map ia) ga s3) he hd S1 Ad λhu l' s3 S3 SR3 hg hdk=>⟨r'.length,wW _,d++[e],r',l',rfl,by simp only[he,bH];rfl,λx hx=>?_,S3,SR3,G2.keep hg hdk⟩) (λj s3 H=>pA H (λf H h4=>?_) λj j z=>z) λj j z=>z
  ·rcases cr.mp hx with hx|hx
   ·exact hd x hx
   ·exact rR (bI.mp hx) hu
  ·induction f<;>exact h4
end
end
abbrev tM(x y z:Str)(t u v:ab):Obj:=nc (⟨.type "tuple",none, .seq #[.str x t, .str y u, .str z v] 0,#[]⟩)
theorem aEp{cU:List LS}{aX:List ag}:lK (cU++[(⟨ta,aQ,aX⟩:LS)]).reverse=aX++lK cU.reverse:=by simp[lK]
abbrev iv(x:Nat):Str:=nc (⟨#[123,117,114,110,58,x,125,99]⟩)
abbrev bv(x:Nat):Str:=nc (⟨#[117,114,110,58,x]⟩)
abbrev cS:Str:=nc (⟨#[99]⟩)
noncomputable def dS:List Nat:=[114,121,103,99,98,109]
structure TG where
 tg:Nat
 td:Nat
 dl:Nat
 ds:Nat
 ns:Nat
 pm:Nat
 ps:Nat
 wr:ag
 b:Bool
 rs:Bool
 rn:Bool
 ti:ab
 ep:Nat
 kt:_root_.Fin 17->ab
 cU:List LS
 dep:Nat
 aL:List LS
 ej:Nat
 ents:List NE
 ni:List NE
structure TG.Ok(G:TG)(ta:Nat)(aX:List ag):Prop where
 hy:aX++lK G.cU.reverse=G.ents.map ia
 js:∀l∈G.cU,l.items.length<=1000
 jS:G.ents.length<=1000
 mF:(G.ents.map (·.p)).Nodup
 oA:(G.ents.any λe=>e.p=="")=false
 hz:aX.length<=1000
 tN:G.td< G.tg/\G.tg< G.ds/\G.ds< ta
 ra:∀e∈G.ents,e.u≠""
 rb:lK G.aL.reverse=G.ni.map ia
 rf:∀l∈G.aL,l.items.length<=1000
 rh:G.cU.length<=1000
structure TG.Tag(G:TG)(x:Nat):Prop where
 hx:x∈dS
 nj:∀e∈G.ents,e.u=bv x->e.p=⟨#[x]⟩
 fX:∀e∈G.ni,e.u=bv x->e.p=⟨#[x]⟩
 hex:∃e∈G.ni,e.u=bv x
abbrev iw(x:Nat):Str:=pG++⟨#[x]⟩++":"++cS
structure HS where
 hu:UInt64
 lg:UInt64
 pu:UInt64
 th:ab
 tl:ab
 tp:ab
 kh:ab
 kl:ab
 kp:ab
 tag:Str
 tt:ab
 kt:ab
 col:Str
 tc:ab
 kc:ab
abbrev HS.cl(H:HS)(w:aj)(c:Nat):List DictEntry:=nc (match c with
 |0=>[]|_=>[⟨aS w.params "colour", .str "colour" H.kc, .str H.col H.tc⟩])
abbrev TF.oB(T:TF)(w:aj)(D:DS)(H:HS)(f c:Nat):Obj:=nc (match f with
 |1=>⟨.type "frame",none, .dict (cF (T.base w D++([⟨aS w.params "key", .str "key" D.tj, .str ⟨D.ky.toArray⟩ D.ty⟩,⟨aS w.params "hue", .str "hue" H.kh, .float H.hu H.th⟩,⟨aS w.params "light", .str "light" H.kl, .float H.lg H.tl⟩,⟨aS w.params "pure", .str "pure" H.kp, .float H.pu H.tp⟩,⟨aS w.params "tag", .str "tag" H.kt, .str H.tag H.tt⟩]++H.cl w c))) (12+c),#[]⟩|_=>⟨.type "frame",none, .dict (cF (T.base w D++([⟨aS w.params "key", .str "key" D.tj, .str ⟨D.ky.toArray⟩ D.ty⟩,⟨aS w.params "figure", .str "figure" D.kf, .int D.fg D.tf⟩,⟨aS w.params "hue", .str "hue" D.kh, .float H.hu H.th⟩,⟨aS w.params "share", .str "share" D.ks, .float D.sh D.ts⟩,⟨aS w.params "value", .str "value" D.kv, .float D.va D.tv⟩,⟨aS w.params "light", .str "light" H.kl, .float H.lg H.tl⟩,⟨aS w.params "pure", .str "pure" H.kp, .float H.pu H.tp⟩,⟨aS w.params "tag", .str "tag" H.kt, .str H.tag H.tt⟩]++H.cl w c))) (15+c),#[]⟩)
def iy:List Stmt:=bodyOf sy.1
def HY:List Nat:=(dN 62 0x5f294a5294a528421104200802108821004010844108020084220840100420083e10844008420)
def O9:List Nat:=HY++(dN 18 0xa500000100020000011400)
abbrev aEq(D:DS):Code:=nc (.call (.ref 175) ⟨[.float D.r D.tr, .float D.g D.tg, .float D.b D.tb],[]⟩)
def Ae(D:DS)(h l p m:UInt64)(k:Int)(x c:Nat):aF:=xy (aEq D) h l p λy=>n7 "float.__ne__" p 0 (match c with
  |0=>false|_=>true) (y 5) (y 1+5) λH=>match c with
 |0=> .nil|_=>lw "float.__mul__" h 4618441417868443648 m (y 3) (H 1+2) λJ=>zz m k (J 2) λJ=>cM "str.__getitem__" [.str "rygcbm" (H 1+1), .int k (J 2)] (λk=> .str ⟨#[x]⟩ k) λ_=> .nil
def xL(h l p:UInt64)(x c:Nat)(H:Xs):HS:=⟨h,l,p,H 0 3,H 0 4,H 0 5,H 0 1,H 0 1+1,H 0 1+2,(match c with
 |0=>"c"|_=>iv x),(match c with
 |0=>H 0 1+3|_=>H 4 1+2),H 0 1+4,"",0,0⟩
section
variable (w:aj)(T:TF)(D:DS)(h l p m:UInt64)(k:Int)(x:Nat)(sz tk:Nat)(σ:Xs)
theorem aEr(f:Nat)(H:f=1\/f=2):Ends [4] ((aI w 8 0 none 900).S [] σ ⟨[(T.L,T.aJ w D f)],sz,tk,HY,Ae D h l p m k x 0⟩ (aV ((iy.drop 2).take 3) (kC T.L)) fin) (.ok .next,[some (T.L,T.oB w D (xL h l p x 0 σ) f 0)],σ 1 0,σ 1 1):=by rcases H with rfl|rfl<;>kernel_rfl
theorem aEs(f:Nat)(H:f=1\/f=2):Ends [4] ((aI w 8 0 none 900).S [] σ ⟨[(T.L,T.aJ w D f)],sz,tk,O9,Ae D h l p m k x 1⟩ (aV ((iy.drop 2).take 3) (kC T.L)) fin) (.ok .next,[some (T.L,T.oB w D (xL h l p x 1 σ) f 0)],σ 4 0,σ 4 1+4):=by rcases H with rfl|rfl<;>kernel_rfl
end
structure SI where
 r:UInt64
 i:Int
 s:Str
abbrev vK(x:UInt64)(t:ab)(k:Int)(H:ab)(V:SI)(next:aM):aF:=cM "float.__mul__" [.float x t, .int k H] (λk=> .float V.r k) λm=>zz V.r V.i (m 2) λn=>cM "int.__repr__" [.int V.i (n 2)] (λk=> .str V.s k) next
def Pa(b:Bool):List Nat:=[1,1,1,1,1,777,0,1,0,1,0]++((match b with
 |true=>[]|false=>[3,3,777,0,3,0,3])++(dN 140 0x39c4318c231906300c03008420080000be0000000000200000104000002118c831806018042100400005f000000000010000008200000108c6418c0300c021080200002f8000000000080000041000000846320c6018060))
def HZ(D:DS)(U V W:SI)(J:Str)(sz tk:Nat):aF:=vK D.r D.tr 2097152 (tk+2) U λa=>vK D.g D.tg 2097152 (a 1+1) V λb=>vK D.b D.tb 2097152 (b 1+1) W λc=>
 .cons (some 0) (bC "str.join" [.str " " tk, .ref (sz+2)]) [3] [(sz+2,listOf [ag.str U.s (a 2), .str V.s (b 2), .str W.s (c 2)].toArray 3)] (λx=>⟨.ok (.ret (.str J (x 2))),[(sz+2,listOf [ag.str U.s (a 2), .str V.s (b 2), .str W.s (c 2)].toArray 3)],[],x 0,x 1⟩) λ_=> .nil
theorem aEt(w:aj)(T:TF)(D:DS)(H:HS)(U V W:SI)(J:Str)(sz tk:Nat)(Y:Xs)(f:Nat)(Z:f=1\/f=2):Ends [6] ((aI w 8 0 none 900).S [] Y ⟨[(T.L,T.oB w D H f 0)],sz,tk,Pa (w.params.followText "comprehension-iter-twice"),HZ D U V W J sz tk⟩ (aV ((iy.drop 5).take 1) (kC T.L)) fin) (.ok .next,[some (T.L,T.oB w D { H with col:=J,tc:=Y 9 2,kc:=Y 9 1 } f 1)],Y 9 0,Y 9 1+1):=by rcases Z with rfl|rfl<;>(revert w;refine byRow2 "comprehension-iter-twice" (λw=>?_) (λw=>?_)<;>kernel_rfl)
abbrev fC:List Stmt:=bodyOf u6.1
structure AT where
 at_:Nat
 ep:Nat
 n:Str
 c:Str
 s:Str
 l:Str
 h:Str
 tn:ab
 tc:ab
 ts:ab
 tl:ab
 th:ab
 kn:ab
 kc:ab
 ks:ab
 kl:ab
 kh:ab
abbrev fY(H:af):Obj:=nc (⟨.type "builtin_function_or_method",none, .fields #[.builtin "list.append", .ref H],#[]⟩)
structure SX where
 wm:Nat
 wl:Nat
 we:Nat
 wv:List ag
 dD:Nat
 cw:List ag
 fe:List ag
 t0:ab
abbrev Dh(G:TG)(a:AT)(ta:Nat)(tag:Str)(t:ab):Args:=nc (⟨[.ref G.tg, .str tag t, .ref a.at_, .ref ta],[]⟩)
abbrev jT(L:af):Env:={ mD u6.1 126 L with cells:=[("parse_qname",L+1+1),("self",L+1)] }
abbrev tO(w:aj)(a ta:af)(tag:Str)(t:ab)(tk:Nat)(xs:List Xp)(e:Nat):Obj:=nc (⟨.type "frame",none, .dict (cF ([⟨aS w.params "tag", .str "tag" tk, .str tag t⟩,⟨aS w.params "attrs", .str "attrs" (tk+1), .ref a⟩,⟨aS w.params "new_namespaces", .str "new_namespaces" (tk+2), .ref ta⟩,⟨aS w.params "qname_text", .str "qname_text" (tk+3), .none⟩]++xs)) e,#[]⟩)
abbrev np(v:Option ag):Obj:=nc (⟨.type "cell",none, .cell v,#[]⟩)
abbrev aEu(w:aj)(a ta:af)(tag:Str)(t:ab)(tg:af)(L tk:Nat):List (af×ar):=[(L+1+1,np none),(L+1,np (some (.ref tg))),(L,tO w a ta tag t tk [] 4)]
def Inv(M:fV)(Γ:Ctx)(p:d6)(t:cb Fin)(s:am)(e:mV)(s':am):List qD->Prop
 |[]=>@Ww lm (λj=>Prop) t
  (λf=>@PySem.Fin.casesOn (λj=>Prop) f (λf=>e= .ret (.ok f)/\s'=s) λc=>eM M (Γ.goto c) p (M.den c) [] s e s')
  (λx=>e= .ret (.error x)/\s'=s) (λj=>True) (λj=>True)
  (λj k=>eM M Γ p (k ()) [] s e s')
  (λH k=>eM M Γ H (k ()) [] s e s')
  (λa j k=>∃o,s.heap.get? a=some o/\eM M Γ p (k o) [] s e s')
  (λa j f k=>eM M Γ p (k ()) [] { s with heap:=s.heap.update a f } e s')
  (λo k=>eM M Γ p (k s.heap.objs.size) [] { s with heap:=s.heap.push o } e s')
  (λa k=>eM M Γ p (k (s.heap.get? a)) [] s e s')
  (λj k=>eM M Γ p (k ()) [] s e s') (λj k=>True)
  (λk=>eM M Γ p (k s.toks) [] { s with toks:=s.toks+1 } e s')
  (λk=>eM M Γ p (k ⟨M.prog,M.w.params⟩) [] s e s')
  (λH n k=>eM M Γ p (k (M.w.draws H (s.drawn.get H) % n)) [] { s with drawn:=s.drawn.bump H } e s')
  (λq j k=>eM M Γ p (k (Os.step s.os q).2) [] { s with os:=(Os.step s.os q).1 } e s')
  (λc h g l k=>(∃r H,eM M (Γ.enter c h p) p (M.den c) [] s (.ret r) H/\eM M Γ p (k r) [] H e s')\/∃v Y J ot qe Z fs,eM M (Γ.enter c h p) p (M.den c) [] s (.susp v Y J ot qe Z fs) s'/\e= .susp v Y J ot qe Z (fs++[.ret k h g l Γ.code p []]))
  (λown k=>eM M Γ p (k (if own then Γ.own else Γ.handled)) [] s e s')
  (λc k=>eM M Γ p (k s.gens.size) [] { s with gens:=s.gens.push (.fresh c) } e s')
  (λg k=>∃st,s.gens[g]?=some st/\eM M Γ p (k st.seen) [] s e s')
  (λg r j k=>∃res H,iL M Γ p g r s res H/\eM M Γ p (k res) [] H e s')
  (λv g l k=>e= .susp v g l k Γ.code p []/\s'=s)
  (λk=>eM M Γ p (k ((Γ.code,p)::Γ.below)) [] s e s') (λj k=>True)
  (λk=>eM M Γ p (k 0) [] s e s') (λj j j j j=>True)
 |F::fs=>(∃r H,eM M (Γ.over (F::fs)) p t [] s (.ret r) H/\(match F with
   | .ret k _ _ _ qd q9 _=>eM M (Γ.goto qd) q9 (k r) fs H e s'| .gen g k _ qd q9=>eM M (Γ.goto qd) q9 (k (Xm r).result) fs (H.setGen g .finished) e s'))\/∃v Y J ot qe Z Dg H,eM M (Γ.over (F::fs)) p t [] s (.susp v Y J ot qe Z Dg) H/\(match Xf (F::fs)with
   |none=>e= .susp v Y J ot qe Z (Dg++F::fs)/\s'=H|some (pre,(g,k,qd,q9),rest)=>eM M (Γ.goto qd) q9 (k (.yielded v)) rest (H.setGen g (End.susp v Y J ot qe Z (Dg++pre)).genState) e s')
theorem aEv{p:d6}{g:Nat}{c:bB}{v:ag}(H:s.gens[g]?=some (.fresh c))(n:v≠ .none):iL M Γ p g (.send v) s .justStarted s:=by
 unfold iL;refine rR H ?_;induction v with
 |none=>exact absurd rfl n|_=>exact⟨rfl,rfl⟩
theorem gM{p:d6}{t:cb Fin}{fs:List qD}{e:mV}(h:eM M Γ p t fs s e s'):Inv M Γ p t s e s' fs:=by
 induction h using Runs.casesOn with
 |done=>exact⟨rfl,rfl⟩|raise=>exact⟨rfl,rfl⟩|yield=>exact⟨rfl,rfl⟩|again _ h=>exact h|update _ h=>exact h|choose _ h=>exact h|load a h=>exact⟨_,a,h⟩|genState a h=>exact⟨_,a,h⟩|call a b=>exact .inl ⟨_,_,a,b⟩|callSusp a=>exact .inr ⟨_,_,_,_,_,_,_,a,rfl⟩|resumeFresh g a q b=>exact⟨_,_,by unfold iL;refine rR g ?_;exact⟨_,_,a,q,rfl,rfl⟩,b⟩|resumeSuspended g a q b=>exact⟨_,_,by unfold iL;refine rR g ?_;exact⟨_,_,a,q,rfl,rfl⟩,b⟩|resumeJustStarted g n b=>exact⟨_,_,aEv g n,b⟩|resumeThrowFresh g b=>exact⟨_,_,by unfold iL;refine rR g ?_;exact⟨rfl,rfl⟩,b⟩|resumeRunning g b=>exact⟨_,_,by unfold iL;refine rR g ?_;exact⟨rfl,rfl⟩,b⟩|resumeFinished g b=>exact⟨_,_,by unfold iL;refine rR g ?_;exact⟨rfl,rfl⟩,b⟩|segRet a b=>exact .inl ⟨_,_,a,b⟩|segGen a b=>exact .inl ⟨_,_,a,b⟩|segSuspOut g a=>exact .inr ⟨_,_,_,_,_,_,_,_,a,rR g ⟨rfl,rfl⟩⟩|segSuspGen g a q b=>exact .inr ⟨_,_,_,_,_,_,_,_,a,rR g b⟩|rule h=>exact h|«at» h=>exact h|loadIfAlive h=>exact h|point h=>exact h|alloc h=>exact h|fresh h=>exact h|ask h=>exact h|os h=>exact h|handled h=>exact h|stack h=>exact h|thread h=>exact h|newGen h=>exact h
theorem Pb{x:Option α}{o:α}{P:α->Prop}(H:x=some o)(h:∃o,x=some o/\P o):P o:=by refine aO h λJ e h=>?_;exact dH (e.symm.trans H)▸h
section
variable {A:mV->am->Prop}{r:cz}{s1 s2:am}{Q:cz->am->Prop}{v:ag}{g:Bool}{l:List ag}{k:qG->cb Fin}{c:bB}{p:d6}{fs:List qD}
theorem Pc{H:cz}(h:Xm H= .ret r/\s'=s1)(q:Q H s'):Q r s1:=h.2▸End.ret.inj h.1▸q
theorem aEw{Z:ag->Bool->List ag->(qG->cb Fin)->bB->d6->List qD->Prop}(d:∀{e s},A e s->e= .ret r/\s=s1)(h:(∃r s,A (.ret r) s/\Q r s)\/∃v g l k c p fs,A (.susp v g l k c p fs) s2/\Z v g l k c p fs):Q r s1:=by
 rcases h with ⟨r,s,a,b⟩|⟨v,g,l,k,c,p,fs,a,z⟩
 ·exact Pc (d a) b
 ·have h:=(d a).1;injection h
theorem Pd{Z:ag->Bool->List ag->(qG->cb Fin)->bB->d6->List qD->am->Prop}(d:∀{e s},A e s->e= .ret r/\s=s1)(h:(∃r s,A (.ret r) s/\Q r s)\/∃v g l k c p fs s,A (.susp v g l k c p fs) s/\Z v g l k c p fs s):Q r s1:=by
 rcases h with ⟨r,s,a,b⟩|⟨v,g,l,k,c,p,fs,s,a,z⟩
 ·exact Pc (d a) b
 ·have h:=(d a).1;injection h
theorem Pe{Z:ag->Bool->List ag->(qG->cb Fin)->bB->d6->List qD->Prop}{H:ag}{g':Bool}{l':List ag}{k':qG->cb Fin}{Y:bB}{J:d6}{Pf:List qD}(h:End.susp H g' l' k' Y J Pf= .susp v g l k c p fs)(z:Z H g' l' k' Y J Pf):Z v g l k c p fs:=Eq.mp (congrArg (λe=>@End.casesOn _ e (λj=>True) Z) h) z
theorem aEx{Z:ag->Bool->List ag->(qG->cb Fin)->bB->d6->List qD->Prop}(d:∀{e s},A e s->e= .susp v g l k c p fs/\s=s1)(h:(∃r s,A (.ret r) s/\Q r s)\/∃v g l k c p fs,A (.susp v g l k c p fs) s2/\Z v g l k c p fs):Z v g l k c p fs/\s2=s1:=by
 rcases h with ⟨r,s,a,b⟩|⟨v,g,l,k,c,p,fs,a,z⟩
 ·have h:=(d a).1;injection h
 ·exact⟨Pe (d a).1 z,(d a).2⟩
theorem Pg{Z:ag->Bool->List ag->(qG->cb Fin)->bB->d6->List qD->am->Prop}(d:∀{e s},A e s->e= .susp v g l k c p fs/\s=s1)(h:(∃r s,A (.ret r) s/\Q r s)\/∃v g l k c p fs s,A (.susp v g l k c p fs) s/\Z v g l k c p fs s):Z v g l k c p fs s1:=by
 rcases h with ⟨r,s,a,b⟩|⟨v,g,l,k,c,p,fs,s,a,z⟩
 ·have h:=(d a).1;injection h
 ·exact Pe (Z:=λv g l k c p fs=>Z v g l k c p fs s1) (d a).1 ((d a).2▸z)
end
section
variable {p:d6}{g:Nat}{s2:am}{Q:Xl->am->Prop}
theorem aEy{c:bB}{e:mV}(Z:s.gens[g]?=some (.fresh c))(d:∀{e2 s2},eM M (Γ.wake c p) p (M.den c) [] (s.setGen g .running) e2 s2->e2=e/\s2=s')(h:∃H J,iL M Γ p g (.send .none) s H J/\Q H J):Q e.result (s'.setGen g e.genState):=by refine c7 h λH J Y b=>?_;unfold iL at Y;rw[Z]at Y;obtain⟨z,z,a,z,rfl,rfl⟩:=Y;obtain⟨rfl,rfl⟩:=d a;exact b
theorem aEz{Z:qG->cb Fin}{l:List ag}{H:bB}{J:d6}{fs:List qD}{cl:Bool}{r:qG}{e:mV}(ho:s.gens[g]?=some (.suspended Z l H J fs cl))(d:∀{e2 s2},eM M (Γ.wake H p) J (Z r) fs (s.setGen g .running) e2 s2->e2=e/\s2=s')(h:∃H J,iL M Γ p g r s H J/\Q H J):Q e.result (s'.setGen g e.genState):=by refine c7 h λH J Y b=>?_;unfold iL at Y;rw[ho]at Y;obtain⟨z,z,a,z,rfl,rfl⟩:=Y;obtain⟨rfl,rfl⟩:=d a;exact b
theorem aE0{c:bB}{v:ag}(Z:s.gens[g]?=some (.fresh c))(n:v≠ .none)(h:∃H Y,iL M Γ p g (.send v) s H Y/\Q H Y):Q .justStarted s:=by
 refine c7 h λH Y J b=>?_;unfold iL at J;rw[Z]at J;have J:H= .justStarted/\Y=s:=by
  induction v with
  |none=>exact absurd rfl n|_=>exact J
 obtain⟨rfl,rfl⟩:=J;exact b
theorem aE1{c:bB}{x:ag}(Z:s.gens[g]?=some (.fresh c))(h:∃H J,iL M Γ p g (.throw x) s H J/\Q H J):Q (.raised x) (s.setGen g .finished):=by refine c7 h λH J Y b=>?_;unfold iL at Y;rw[Z]at Y;obtain⟨rfl,rfl⟩:=Y;exact b
theorem aE2{r:qG}(Z:s.gens[g]?=some .running)(h:∃H J,iL M Γ p g r s H J/\Q H J):Q .running s:=by refine c7 h λH J Y b=>?_;unfold iL at Y;rw[Z]at Y;obtain⟨rfl,rfl⟩:=Y;exact b
theorem aE3{r:qG}(Z:s.gens[g]?=some .finished)(h:∃H J,iL M Γ p g r s H J/\Q H J):Q .finished s:=by refine c7 h λH J Y b=>?_;unfold iL at Y;rw[Z]at Y;obtain⟨rfl,rfl⟩:=Y;exact b
end
theorem aE4{p:d6}{t:cb Fin}{fs:List qD}{e:mV}(h:eM M Γ p t fs s e s'):∀{e2:mV}{J:am},eM M Γ p t fs s e2 J->e2=e/\J=s':=by
 induction h with
 |load ho _ H=>intro e2 J h;have h:=Pb ho (gM h);exact H h|genState ho _ H=>intro e2 J h;have h:=Pb ho (gM h);exact H h|call _ _ iz kJ=>exact λh=>kJ (aEw iz (gM h))|callSusp _ iz=>intro e2 J h;exact aEx iz (gM h)|resumeFresh ho _ _ _ iz kJ=>exact λh=>kJ (aEy ho iz (gM h))|resumeSuspended ho _ _ _ iz kJ=>exact λh=>kJ (aEz ho iz (gM h))|resumeJustStarted ho n _ H=>exact λh=>H (aE0 ho n (gM h))|resumeThrowFresh ho _ H=>exact λh=>H (aE1 ho (gM h))|resumeRunning ho _ H=>exact λh=>H (aE2 ho (gM h))|resumeFinished ho _ H=>exact λh=>H (aE3 ho (gM h))|segRet _ _ iz kJ=>exact λh=>kJ (Pd iz (gM h))|segGen _ _ iz kJ=>exact λh=>kJ (Pd iz (gM h))|segSuspOut hs _ iz=>intro e2 J h;have b:=Pg iz (gM h);rw[hs]at b;exact b|segSuspGen hs _ _ _ iz kJ=>intro e2 J h;have b:=Pg iz (gM h);simp only[hs]at b;exact kJ b|done=>exact λh=>gM h|raise=>exact λh=>gM h|yield=>exact λh=>gM h|again _ _ H=>exact λh=>H (gM h)|update _ _ H=>exact λh=>H (gM h)|choose _ _ H=>exact λh=>H (gM h)|_=>rename_i H;exact λh=>H (gM h)
theorem aE5{c:bB}{J H:cz->am->Prop}(Z:eH M A c J s)(Y:eH M A c H s):eH M A c (λr s'=>J r s'/\H r s') s:=λΓ p J H=>by
 refine hO λci aY=>c7 (Z Γ p J H) λr s' a b=>c7 (Y Γ p J H) λr2 H a2 b2=>?_;obtain⟨x,rfl⟩:=aE4 a a2;refine aY ?_;injection x with x;subst x
 exact⟨_,_,a,b,b2⟩
section
open PySem PySem.W PySem.W.X PyProof.Rows PySem.Calls
set_option maxHeartbeats 4000000
theorem aE6{t:pH}(n:Nat)(h:t.plain=false):(t.orStandIn n).plain=false:=by
 unfold SetTable.orStandIn;split;·exact h
 ·rfl
theorem aE7{t:pH}(H:Array (Int×ag))(i:Int)(x:ag)(h:t.plain=false):(layNew t H i x).2.1.plain=false:=by
 unfold layNew;split;·exact aE6 _ h
 ·rfl
theorem aE8{t t':pH}{J:Array Int}{o:Array Nat}(e:t.relaid J n=some (t',o)):t'.plain=t.plain:=by
 unfold aVv Xq at e;induction H:Xr _ J with
 |none=>replace e:=H▸e;injection e|some ow=>rw[H]at e;simp only[aVw,Mf,pure,FX,se]at e;exact rL e.1 rfl
theorem aE9{t:pH}(H:Array (Int×ag))(n:Nat)(h:t.plain=false):(BW t H n).2.1.plain=false:=by
 unfold BW;split
 ·rename_i H H e;dsimp only;split;·exact(aE8 e).trans h
  ·rfl
 ·rfl
def tQ(w:aj)(e:Int×ag)(k:Str):Prop:=e.1=wX w k/\∃t,e.2= .str k t
inductive F2(w:aj):List (Int×ag)->List Str->Prop
 |nil:F2 w [] []
 |cons {e k l ks:_}:tQ w e k->F2 w l ks->F2 w (e::l) (k::ks)
def f9(w:aj)(ks:List Str)(o:ar):Prop:=o.ExactSet/\∃H ep t J,o.data= .set H ep t/\cH J ks/\F2 w H.toList J/\t.fits H.size=true/\(ks≠[]->t.plain=false)
theorem Ph{l l':List (Int×ag)}(p:cH l' l):∀{ks:List Str},F2 w l ks->∃H,cH H ks/\F2 w l' H:=by
 induction p with
 |nil=>intro ks h;cases h;exact⟨[], .refl _, .nil⟩|cons x p ih=>
  intro ks h;cases h with
  |cons a b=>exact aO (ih b) λH q f=>⟨_::H,q.cons _, .cons a f⟩
 |swap x y l=>
  intro ks h;cases h with
  |cons a b=>cases b with
   |cons c d=>exact⟨_, .swap .., .cons c (.cons a d)⟩
 |trans p q iz kJ=>intro ks h;exact aO (kJ h) λH Y H=>aO (iz H) λJ Z H=>⟨J,Z.trans Y,H⟩
theorem Pi{l:List (Int×ag)}(h:F2 w l ks){e:Int×ag}(he:e∈l):∃k∈ks,tQ w e k:=by
 induction h with
 |nil=>contradiction|cons a b ih=>
  rcases a9.mp he with rfl|he
  ·exact⟨_,ay,a⟩
  ·exact aO (ih he) λk H x=>⟨k,aB H,x⟩
theorem Af{l:List (Int×ag)}(h:F2 w l ks):l.length=ks.length:=by
 induction h with
 |nil=>rfl|cons a b ih=>simp only[eI,eI,ih]
theorem aFa{l:List (Int×ag)}(h:F2 w l ks){e:Int×ag}{k:Str}(x:tQ w e k):F2 w (l++[e]) (ks++[k]):=by
 induction h with
 |nil=>exact .cons x .nil|cons a b ih=>exact .cons a ih
section
theorem tQ.elems{l:List (Int×ag)}(h:F2 w l ks):Xu (lp prog w) l:=λe J=>by
 obtain⟨k,z,Y,t,H⟩:=Pi h J;refine⟨⟨k,?_,Y⟩,?_⟩;·exact rR H (ml ..)
 ·refine rR H ?_;rfl
theorem tQ.absent{l:List (Int×ag)}(h:F2 w l ks){k:Str}(J:k ∉ ks):l.findIdx? (λe=>(lp prog w).is k e.2)=none:=by
 refine aVx.mpr λe Y=>?_;obtain⟨k',jt,z,t,Z⟩:=Pi h Y;induction hb:(lp prog w).is k e.2 with
 |false=>rfl|true=>
  exfalso;obtain⟨Y,H⟩:=FY hb;rw[Z]at H;injection H with H
  exact J (H▸jt)
theorem f9.store{Y:List Str}{a:af}{o:ar}{es H:Array (Int×ag)}{t t':pH}{h:aw}(ho:h.get? a=some o)(Z:o.ExactSet)(hd:o.data= .set es ep t)(hp:cH Y ks)(hf:F2 w H.toList Y)(J:t'.fits H.size=true)(ju:t'.plain=false):(h.update a (Mr H t')).get? a=some { o with data:= .set H (ep+1) t' }/\f9 w ks { o with data:= .set H (ep+1) t' }:=by
 have hg:(h.update a (Mr H t')).get? a=some { o with data:= .set H (ep+1) t' }:=by have:=nN (Mr H t') ho (by refine rR (putSet_of H t' hd) ?_;rfl);rw[putSet_of H t' hd]at this;exact this
 exact⟨hg,Z,H,ep+1,t',Y,rfl,hp,hf,J,λz=>ju⟩
set_option maxHeartbeats 8000000 in
theorem Pj{a:af}{k:Str}{tk:ab}{o:ar}{Q:Bool->am->Prop}(ho:s.heap.get? a=some o)(hS:f9 w ks o)(hk:k ∉ ks)(hn:ks.length< 100)(h:∀h' o',lc a s.heap h'->h'.get? a=some o'->f9 w (ks++[k]) o'->Q true { s with heap:=h' }):
  aG (aR prog w) A (setAddHashed a (.str k tk) (wX w k)) Q E s:=by
 refine hO λci aY=>?_;obtain⟨hex,Y,ep,t,ff,hd,hp,iV,hf,ju⟩:=hS;refine aY ?_;have jS:Xu (lp prog w) Y.toList:=tQ.elems iV;have fN:Y.size=ks.length:=by rw[<-nQ,Af iV,hp.length_eq]
 refine fW (au (pI ho hd hf ?_));dsimp only;refine rR (byScan_of rfl (aT [lL Y1 100,eQ Y0 Y1] (lL Y0 4096) rfl hn fN) jS) (au ?_);refine au (qy ?_);refine au (aVy (ml ..) ho hd hf jS ?_);refine rR (tQ.absent iV (λm=>hk (hp.mem_iff.mp m))) ?_;have Pk:∀(b:Bool){ba:am}{Q':Unit->am->Prop},Q' () ba->aG (aR prog w) A (match b with|true=>rule "set.scan.the-table-gave-way"|false=>pure ()) Q' E ba:=
  λb ba Q' hq=>by induction b<;>first|exact aH hq|exact qy hq
 have ri:=layNew_perm t Y (wX w k) (.str k tk);have H3:=layNew_fits t Y (wX w k) (.str k tk);have aFc:=λz=>aE7 (t:=t) Y (wX w k) (.str k tk) z;generalize hL:layNew t Y _ _=L at ri H3 aFc ⊢;obtain⟨H,t1,aFd,Y⟩:=L;simp only[aVz]at ri;refine aO (Ph ri (aFa iV ⟨rfl,tk,rfl⟩)) λY Y Ag=>?_;have H4:=Y.trans (hp.append_right _);refine au (Pk _ ?_);have Y:H.size=ks.length+1:=by refine rL nQ (rR (Af Ag) (rR H4.length_eq (rR bQ ?_)));rfl
 have Pl:=aT [lL Y1 100,eQ Y0 (Y1+1)] (lE Y0 16777216) rfl hn Y;have J:∀t2:pH,t2.fits H.size=true->t2.plain=false->
   aG (aR prog w) A (do
    storeSet a H t2
    if(!aFd && t2.tooFull)=true then do
      (match (BW t2 H (BX H.size)).2.2 with|true=>rule "set.scan.the-table-gave-way"|false=>pure ())
      storeSet a (BW t2 H (BX H.size)).1 (BW t2 H (BX H.size)).2.1
      pure (some true)
     else pure (some true)) (λr s'=>r=some true/\Q true s') E s:=by
  intro t2 Y fX;refine d8 (f9.store ho hex hd H4 Ag Y fX) λAh oF=>?_;have Di:=ib s.heap a (Mr H t2);refine au (Xv ho hd ?_ Pl);split
  ·have oz:=relayAll_perm t2 H (BX H.size);have jp:=relayAll_fits t2 H (BX H.size);have Pm:=aE9 H (BX H.size) fX;generalize BW t2 H _=Rl at oz jp Pm ⊢;refine aO (Ph oz Ag) λH Y H=>au (Pk _ ?_);refine au (Xv Ah rfl ?_ (rL nQ (rR oz.length_eq (rR nQ Pl))));exact d8 (f9.store Ah hex rfl (Y.trans H4) H jp Pm) λhg2 kM=>aH ⟨rfl,h _ _ (Di.trans (ib ..)) hg2 kM⟩
  ·exact aH ⟨rfl,h _ _ Di Ah oF⟩
 have Z:∀(r:Option Bool)(s':am),(r=some true/\Q true s')->aG (aR prog w) A (match r with|some added=>pure added|none=>setAddHashedIn a (.str k tk) (wX w k) 99999) Q E s':=by rintro r s' ⟨rfl,hq⟩;exact aH hq
 induction Ai:t1.plain with
 |true=>refine au (aH ?_);exact pA (J _ (SetTable.fits_plain_off H3) rfl) (λr s' H=>Z r s' H) λj j e=>e|false=>refine au (aH ?_);exact pA (J _ H3 Ai) (λr s' H=>Z r s' H) λj j e=>e
noncomputable def gN(ks:List Str)(k:Str):List Str:=if k∈ks then ks else ks++[k]
theorem F2.met{l:List (Int×ag)}(h:F2 w l ks){k:Str}(hk:k∈ks):∃j,l.findIdx? (λe=>(lp prog w).is k e.2)=some j:=by
 induction H:l.findIdx? _ with
 |some j=>exact⟨j,rfl⟩|none=>
  have J:=aVx.mp H;clear H;induction h with
  |nil=>cases hk|cons a b ih=>
   rcases a9.mp hk with rfl|hk
   ·obtain⟨z,t,e⟩:=a;have:=J _ ay;simp only[e,ml]at this;injection this
   ·exact ih hk λx H=>J x (aB H)
theorem Pn{a:af}{k:Str}{tk:ab}{o:ar}{Q:Bool->am->Prop}(J:s.heap.get? a=some o)(hS:f9 w ks o)(hn:ks.length< 100)(h:∀b h' Y,lc a s.heap h'->h'.get? a=some Y->f9 w (gN ks k) Y->Q b { s with heap:=h' }):aG (aR prog w) A (setAddHashed a (.str k tk) (wX w k)) Q E s:=by
 by_cases H:k∈ks
 ·have Z:gN ks k=ks:=by unfold gN;rw[if_pos H]
  replace h:=Z▸h;have hS0:=hS;refine hO λci aY=>?_;obtain⟨hex,es,ep,t,ff,hd,hp,iV,hf,ju⟩:=hS;refine aY ?_;have jS:Xu (lp prog w) es.toList:=tQ.elems iV;have fN:es.size=ks.length:=by rw[<-nQ,Af iV,hp.length_eq]
  obtain⟨j,hj⟩:=F2.met iV (hp.mem_iff.mpr H);refine fW (au (pI J hd hf ?_));dsimp only;refine rR (byScan_of rfl (aT [lL Y1 100,eQ Y0 Y1] (lL Y0 4096) rfl hn fN) jS) (au ?_);refine au (qy ?_);refine au (aVy (ml ..) J hd hf jS ?_);exact hj▸aH (aH (h false s.heap o (aV0 _ _) J hS0))
 ·have Z:gN ks k=ks++[k]:=by unfold gN;rw[if_neg H]
  replace h:=Z▸h;exact Pj J hS H hn λh' Y J Z H=>h true h' Y J Z H
end
end
section
open PySem PySem.W PySem.W.X PyProof.Rows PySem.Calls
set_option maxHeartbeats 4000000
theorem aFh(h:Nat):Xw 15 (Xx 16 (none:Option Nat)) (SetTable.turns 15) (h % 16) h=some (h % 16):=by
 have H:h % 16< 16:=uM _ (by decide);generalize h % 16=i at H ⊢;show Xw 15 _ (29+1) _ _=_;unfold Xw;have J:fI (FZ 15 i+1 - i)=0::(fI (FZ 15 i - i)).map Nat.succ:=by
  have:FZ 15 i+1 - i=(FZ 15 i - i)+1:=by unfold FZ;split;exact Wl (fG ..);exact Wl (a8 _)
  simp only[this,List.range_succ_eq_map]
 refine rR J (rR (List.find?_cons_of_pos (by simp[Array.getD,H])) ?_);rfl
theorem aFi:∀i:_root_.Fin 16,((fI 16).filterMap λj=>((((Xx 16 (none:Option Nat)).setIfInBounds i.val (some 0)).getD j none).map λx=>(j,x)))=[(i.val,0)]:=by decide+kernel
theorem aFj(f H:Nat)(led J:Bool)(h:Int):Xq 15 f H led J #[h]=some ({ mask:=15,place:=#[BY h % 16],dummies:=#[],finger:=f,led:=led,moves:=H,plain:=J },#[0]):=by
 have H:Xr 15 #[h]=some ((Xx 16 none).setIfInBounds (BY h % 16) (some 0)):=by unfold Xr;simp[aFh]
 unfold Xq;refine rR H ?_;have H:BY h % 16< 16:=uM _ (by decide);have:=aFi ⟨_,H⟩;simp only[aVw,Mf];refine rR this ?_;rfl
theorem aFk:∀l:List α,l.length=1->∃x,l=[x]
 |[x],_=>⟨x,rfl⟩
section
theorem aFl{a:af}{k:Str}{o:ar}{Q:Unit->am->Prop}(Y:s.heap.get? a=some o)(hS:f9 w [k] o)(h:∀h' o',lc a s.heap h'->h'.get? a=some o'->f9 w [k] o'->Q () { s with heap:=h' }):aG (aR prog w) A (setRoomFor a 5) Q E s:=by
 refine hO λci aY=>?_;obtain⟨hex,J,ep,t,ff,Z,hp,iV,hf,ju⟩:=id hS;refine aY ?_;have hl:J.size=1:=by refine rL nQ (rR (Af iV) (rR hp.length_eq ?_));rfl
 obtain⟨x,hx⟩:∃x,J=#[x]:=by obtain⟨l⟩:=J;obtain⟨x,rfl⟩:=aFk l hl;exact⟨x,rfl⟩
 refine au (pI Y Z hf ?_);dsimp only;have H6:t.place.size=1:=by rw[SetTable.fits,gy,beq_iff_eq]at hf;rw[hf.1,hl]
 unfold SetTable.roomFor;split
 ·rename_i wanted H;split at H
  ·injection H with H
   rw[H6]at H;subst H;refine au (pI Y Z hf ?_);dsimp only;have hm:J.map (·.1)=#[x.1]:=by rw[hx];simp
   have hr:t.relaid (J.map (·.1)) ((1+5)*2)=some ({ mask:=15,place:=#[BY x.1 % 16],dummies:=#[],finger:=t.finger,led:=t.led,moves:=t.movedTo 15,plain:=t.plain },#[0]):=by unfold aVv;exact rR hm (rR (show SetTable.sizeAbove _ - 1=15 from by decide+kernel) (aFj ..))
   refine rR hr (au (je (a:=(J,({ mask:=15,place:=#[BY x.1 % 16],dummies:=#[],finger:=t.finger,led:=t.led,moves:=t.movedTo 15,plain:=t.plain }:pH))) (by subst hx;rfl) ?_));refine Xv Y Z ?_ (rR nP (rR hl (dG ..)));obtain⟨Ah,oF⟩:=f9.store (t':={ mask:=15,place:=#[BY x.1 % 16],dummies:=#[],finger:=t.finger,led:=t.led,moves:=t.movedTo 15,plain:=t.plain }) Y hex Z hp iV (by refine rR hl ?_;rfl) (ju (by simp));exact h _ _ (ib ..) Ah oF
  ·injection H
 ·exact aH (h _ _ (aV0 _ _) Y hS)
end
end
section
open PySem PySem.W PySem.W.X PyProof.Rows PySem.Calls
set_option maxHeartbeats 4000000
section
theorem take_snoc{l:List Str}{i:Nat}{x:Str}(h:l[i]?=some x):l.take (i+1)=l.take i++[x]:=by refine rR List.take_add_one (rR h ?_);rfl
theorem Po{l:List Str}{i:Nat}{x:Str}(h:l[i]?=some x):(l.take (i+1)).foldl gN [k0]=gN ((l.take i).foldl gN [k0]) x:=by refine rR (take_snoc h) (rR Xy ?_);rfl
theorem aFm(ks:List Str)(k:Str):(gN ks k).length<=ks.length+1:=by
 unfold gN;split;·exact fG ..
 ·simp
theorem H7:∀(l ks:List Str),(l.foldl gN ks).length<=ks.length+l.length
 |[],_=>a8 _|x::l,ks=>by have:=H7 l (gN ks x);exact qN [lE Y0 (Y3+Y2),lE Y3 (Y1+1)] (lE Y0 (Y1+(Y2+1))) rfl this (aFm ks x)
theorem aFn{d:af}{H:List (Str×ag)}(hh:A.handled=none)(Pp:d≠I)(Pq:S ∉ [I,d])(hl:H.length< 90):∀(k i:Nat)(s:am)(o:ar),H.length - i=k->i<=H.length->s.heap.IsKeyIter I d i H.length ep->s.heap.DictAt (lp prog w) d H ep->s.heap.get? S=some o->f9 w (((H.map (·.1)).take i).foldl gN [k0]) o->(∀h' tk o',(∀b J,b ∉ [S,I]->s.heap.get? b=some J->h'.get? b=some J)->h'.get? S=some o'->f9 w ((H.map (·.1)).foldl gN [k0]) o'->R (.ok (.ret .none)) { s with heap:=h',toks:=tk })->eH (aR prog w) A (.builtin "set.update.loop" ⟨[.ref S, .ref I],[]⟩) R s:=by
 intro k;have H8:S≠I:=λe=>Pq (by simp[e]);induction k with
 |zero=>intro i s o hk Z aZ ei ho hS hR;have vL:=c8 (Z) (cA [eQ Y2 0,eQ (Y2+Y1) Y0] (lE Y0 Y1) [1,-1] 1 rfl hk (bY (Z)));subst vL;refine qw aV1 (au ((aV2 (by trivial) I d Pp H ep).done s _ _ ⟨aZ,ei⟩ λh' tk jt=>?_));refine aH (hR h' tk o (λb J hb e=>jt b J (λY=>hb (by simp[Y])) e) (jt S o (λY=>H8 (by simpa using Y)) ho) ?_);rw[Mc (by simp)]at hS;exact hS|succ k ih=>
  intro i s o hk Z aZ ei ho hS hR;have bp:=lr [eQ Y2 (Y3+1),eQ (Y2+Y0) Y1] (lL Y0 Y1) [-1,1] 1 rfl hk (bY (Z));refine qw aV1 (au ((aV2 (by trivial) I d Pp H ep).item i s _ _ bp ⟨aZ,ei⟩ λv h' tk hP Ps jt=>?_));refine c7 hP λx xv hx Dj=>?_;obtain⟨t,rfl⟩:=FY Dj;have H9:(H.map (·.1))[i]?=some x:=by refine rR (dP) (rR hx ?_);rfl
  refine au (fW ?_);refine fW (au ((lp prog w).pyHash Dj ?_));refine Pn (s:={ s with heap:=h',toks:=tk+1 }) (jt S o (λY=>H8 (by simpa using Y)) ho) hS ?_ λbb h2 o2 gu tR kM=>?_
  ·have:=H7 ((H.map (·.1)).take i) [k0];simp only[eI,wY,dB,BZ]at this;exact qN [lL Y1 90,lE Y2 Y1,lE Y0 (0+1+Y3),eQ Y3 Y2] (lL Y0 100) rfl hl Z this (rZ (Z))
  rw[<-Po H9]at kM;refine aH ⟨FM aY9 _,ih (i+1) _ o2 (congrArg Nat.pred hk) (aT [lL Y0 Y1] (lE (Y0+1) Y1) rfl bp) (Ps.1.at λo' e=>(gu.2 I (λH=>H8 H.symm)).trans e) (Ps.2.at' λo' e=>(gu.2 d (λH=>(λe=>Pq (by simp[e])) H.symm)).trans e) tR kM λh3 vM o3 hk3 Z hS3=>?_⟩;refine hR h3 vM o3 (λb J hb e=>hk3 b J hb ?_) Z hS3;exact(gu.2 b (λH=>hb (by simp[H]))).trans (jt b J (λY=>hb (by simp[Y])) e)
theorem aFo{d:af}{J:List (Str×ag)}{o:ar}{Q:Unit->am->Prop}(hh:A.handled=none)(vN:(d==ie)=false)(ei:s.heap.DictAt (lp prog w) d J ep)(ho:s.heap.get? S=some o)(hS:f9 w [k0] o)(hl:J.length=5)(cB:S≠d)(h:∀h' tk H,(∀b ob,b≠S->s.heap.get? b=some ob->h'.get? b=some ob)->h'.get? S=some H->f9 w ((J.map (·.1)).foldl gN [k0]) H->Q () { s with heap:=h',toks:=tk }):
  aG (aR prog w) A (aV3 S (.ref d)) Q E s:=by
 refine hO λci aY=>YB (id ei) λod es xN z7 Dk Ia oz mF=>aY ?_;have hT:=ei.dictOf.typeIs;have fN:es.size=5:=by refine rL hl (rL oz.length ?_);rfl
 have road:aG (aR prog w) A (do let _ <-runValue (.builtin "set.update.loop" ⟨[.ref S,<-Ms (.ref d)],[]⟩)) Q E s:=by refine au (wpAny_pyIter_dict vN ei ?_);refine au (aV4 ?_);refine aFn hh (dw (dJ xN)) (by simp[dw (dJ ho),cB]) (bu [eQ Y0 5] (lL Y0 90) rfl hl) J.length 0 _ o (rfl) (f4 _) ⟨_,gZ _ rfl,rfl,rfl⟩ (ei.push _) (cZ _ ho) hS λh' tk H jt lG Z=>?_;refine aH (h h' tk H (λb ob hb e=>jt b ob ?_ (cZ _ e)) lG Z);simp only[a9,bI,bi,or_false,not_or];exact⟨hb,dw (dJ e)⟩
 unfold aV3;refine au (mU hT F.sub_dict_set ?_);refine au (mU hT F.sub_dict_frozenset ?_);refine au (wZ ?_);induction hb:(aR prog w).w.params.followText "set-display-star-reads-storage" with
 |true=>exact road|false=>
  refine au (uS hT ?_);refine au (qy ?_);refine rR (if_neg (vN▸FN)) (au (aV5 xN Dk ?_));refine au (aV6 xN Dk ?_);refine rR fN (au (aFl ho hS λh1 o1 Di vO oF=>?_));refine au (rR (aZa ..) ?_);refine aV7 _
   (λrest z s'=>∃h' i H,s'={ s with heap:=h' }/\rest=Mt i (5 - i)/\i<=5/\h'.get? S=some H/\f9 w (((J.map (·.1)).take i).foldl gN [k0]) H/\lc S s.heap h')
   _ ?_ ?_ _ _ ⟨h1,0,o1,rfl,by rfl,f4 _,vO,oF,Di⟩
  ·rintro x rest b s' ⟨h',i,H,rfl,Y,hi,lG,Z,mB⟩;have bp:i< 5:=by
    rcases WM i 5 with h|h
    ·exact h
    ·rw[BM h]at Y;simp at Y
   obtain⟨rfl,aFp⟩:x=i/\rest=Mt _ _:=by
    have e:=s1 (Fv bp);rw[e,aV8]at Y;injection Y with h1 h2
    exact⟨h1,h2⟩
   have Ic:=fN▸bp;have Pt:=hl▸bp;have Pu:=(mB.2 d (λe=>cB e.symm)).trans xN;obtain⟨k,hk⟩:∃k,J[x]?=some k:=⟨J[x],by simp[Pt]⟩
   have oG:=(oz.get? (e:=es[x]) (by simp[Ic]) hk).1;refine aO (Ia es[x] (Array.getElem_mem Ic)) λk' jt Pv=>?_;simp only[((lp prog w).inj _ _ _ jt oG)]at Pv;obtain⟨t,Dj⟩:=FY oG;have H9:(J.map (·.1))[x]?=some k.1:=by rw[dP,hk];rfl
   refine au (aV6 Pu Dk ?_);refine rR (yT Ic) ?_;refine au (fW (au ?_));refine rR Dj (rR (show es[x].hash=wX w k.1 from Pv) ?_);refine Pn lG Z (by have:=H7 ((J.map (·.1)).take x) [k0];simp only[eI,wY,dB,BZ]at this;exact b8 [lE Y1 5,lE Y0 (0+1+Y2),eQ Y2 Y1] (lL Y0 100) rfl hi this (rZ (cT Pt))) λJ h2 J Pw tR kM=>?_;rw[<-Po H9]at kM;refine aH (au (aV5 ((Pw.2 d (λe=>cB e.symm)).trans Pu) Dk ?_));exact rR (if_neg (by simp)) (aH ⟨h2,x+1,J,rfl,aFp,aE bp (by decide),tR,kM,mB.trans Pw⟩)
  ·rintro b s' ⟨h',i,H,rfl,Y,hi,lG,Z,mB⟩;have h5:i=5:=by
    rcases WM i 5 with h|h
    ·rw[show 5 - i=_+1 from s1 (Fv h),aV8]at Y;simp at Y
    ·exact c8 (aE hi (by decide)) (bu [lE 5 Y0] (lE 5 Y0) rfl h)
   subst h5;rw[Mc (by simp[hl])]at Z;refine aH (h h' s.toks H (λb ob hb e=>(mB.2 b hb).trans e) lG Z)
end
end
section
open PySem PySem.W PySem.W.X PyProof.Rows PySem.Calls
set_option maxHeartbeats 4000000
section
variable {m:Str->Option ag}
theorem aFq(led:Bool):f9 w [] { cls:= .type "set",dict:=none,data:= .set #[] 0 (.fresh 0 0 led) }:=⟨⟨rfl,rfl,rfl⟩,#[],0, .fresh ..,[],rfl, .refl _, .nil,rfl,λh=>absurd rfl h⟩
end
end
section
open PySem PySem.W PySem.W.X PyProof.Rows PySem.Calls
set_option maxHeartbeats 4000000
theorem Px:Manifest.owners.lookup (String.ofList ['r','o','t','a','r','e','t','i','_','t','e','s'].reverse)=some Manifest.sig_set_iterator:=by kernel_rfl
theorem vP:yQ "set_iterator" "__next__" "set_iterator.__next__":= .of (owner:="set_iterator") (n:="__next__") (by kernel_rfl) (by decide+kernel) (by decide+kernel) (by decide+kernel)
  (by first|exact .inl (by decide+kernel)|exact .inr _) (by kernel_rfl)
theorem Py:yQ "set_iterator" "__iter__" "set_iterator.__iter__":= .of (owner:="set_iterator") (n:="__iter__") (by kernel_rfl) (by decide+kernel) (by decide+kernel) (by decide+kernel)
  (by first|exact .inl (by decide+kernel)|exact .inr _) (by kernel_rfl)
theorem Pz:mf gz "set_iterator.__next__"=some Builtin.«set_iterator.__next__»:=aV9 (by kernel_rfl)
theorem aFr:mf gz "set_iterator.__iter__"=some Builtin.«dict_keyiterator.__iter__»:=aWa (id':="dict_keyiterator.__iter__") (by kernel_rfl) rfl (by decide+kernel) (by kernel_rfl)
theorem PA(a:ag):lf "set_iterator.__next__" ⟨[a],[]⟩:=by unfold lf;refine rR (signature?_of (n:=['_','_','t','x','e','n','_','_']) (by kernel_rfl) Px) ?_;kernel_rfl
theorem aFs(a:ag):lf "set_iterator.__iter__" ⟨[a],[]⟩:=by unfold lf;refine rR (signature?_of (n:=['_','_','r','e','t','i','_','_']) (by kernel_rfl) Px) ?_;kernel_rfl
theorem aFt:mf gz "set.__iter__"=some Builtin.«frozenset.__iter__»:=aWa (id':="frozenset.__iter__") (by kernel_rfl) rfl (by decide+kernel) (by kernel_rfl)
end
section
open PySem PySem.W PySem.W.X PyProof.Rows PySem.Calls
set_option maxHeartbeats 4000000
theorem Ie:∀{l:List α}{i:Nat}(h:i< l.length),cH (l[i]'h::l.eraseIdx i) l
 |x::l,0,_=> .refl _|x::l,i+1,h=>by exact(jL ..).trans ((Ie (by simpa using h)).cons x)
theorem aFu(f:Nat->Nat):∀(n k:Nat)(l:List α)(out:Array α),n=l.length->cH (Xz f n k l out).toList (out.toList++l):=by
 intro n;induction n with
 |zero=>intro k l out h;induction l with
  |nil=>unfold Xz;simp|cons=>injection h
 |succ n ih=>intro k l out h;have H:f k % l.length< l.length:=uM _ (aT [eQ (Y1+1) Y0] (lL 0 Y0) rfl h);unfold Xz;refine rR (gF H) ?_;refine(ih _ _ _ (aWb H▸c8 (cA [eQ (Y0+1) Y2,eQ (Y1+1) Y2] (lE Y0 Y1) [1,-1] 1 rfl h (bY (aT [eQ (Y1+1) Y0] (lE 1 Y0) rfl h))) (cA [eQ (Y1+1) Y2,eQ (Y0+1) Y2] (lE Y0 Y1) [-1,1] 1 rfl h (bY (aT [eQ (Y1+1) Y0] (lE 1 Y0) rfl h))))).trans ?_;rw[aVz,bH];exact List.Perm.append_left _ (Ie H)
theorem PB(f:Nat->Nat)(xs:Array α):cH (Mu f xs).toList xs.toList:=by refine(aFu f _ 0 _ _ rfl).trans (by rfl)
section
theorem aFv{H:Source}{Q:Nat->am->Prop}(hn:n≠0)(h:∀i dr,i< n->Q i { s with drawn:=dr }):aG (aR prog w) A (choose H n) Q E s:=by intro Γ p H;exact⟨hn,h _ _ (uM _ (L8 hn))⟩
theorem aFw(n:Nat):∀(xs:List α)(s:am)(Q:List α->am->Prop),n=xs.length->(∀l dr,cH l xs->Q l { s with drawn:=dr })->aG (aR prog w) A (XA n xs) Q E s:=by
 induction n with
 |zero=>intro xs s Q H h;have:xs=[]:=XC.mp H.symm;subst this;exact aH (h [] s.drawn (.refl _))|succ n ih=>
  intro xs s Q H h;have J:XA (n+1) xs=(do
    let i <-choose .order xs.length
    match xs[i]? with
    |some x=>return x::(<-XA n (xs.eraseIdx i))|none=>Xe "internal:drawOrder"):=by induction xs with|nil=>cases H|cons=>rfl
  refine rR J (au (aFv (jd (aT [eQ (Y1+1) Y0] (lL 0 Y0) rfl H)) λi dr J=>?_));refine rR (gF J) ?_;refine au (ih _ _ _ (aWb J▸c8 (cA [eQ (Y0+1) Y2,eQ (Y1+1) Y2] (lE Y0 Y1) [1,-1] 1 rfl H (bY (aT [eQ (Y1+1) Y0] (lE 1 Y0) rfl H))) (cA [eQ (Y1+1) Y2,eQ (Y0+1) Y2] (lE Y0 Y1) [-1,1] 1 rfl H (bY (aT [eQ (Y1+1) Y0] (lE 1 Y0) rfl H)))) λl H Y=>?_);exact aH (h _ H ((Y.cons _).trans (Ie J)))
abbrev PE(S:af)(first:ag)(i n ep:Nat):Obj:=nc (⟨.type "set_iterator",none, .fields #[first, .int i 0, .ref S, .int n 0, .int ep 0],#[]⟩)
def Aj(w:aj):Bool:=nc (w.params.followText "set-order")
def Ak(w:aj)(S I T:af)(so:ar)(H:Array (Int×ag))(ep:Nat)(t:pH)(l:List ag)(J:List Nat)(i:Nat)(h:aw):Prop:=h.get? S=some so/\((Aj w=true/\h.get? I=some (PE S (.int 0 0) i H.size ep))\/(Aj w=false/\h.get? I=some (PE S (.ref T) i H.size ep)/\∃H n,h.get? T=some H/\H.data= .seq (J.map λ(p:Nat)=>eJ p).toArray n))
structure Dl(w:aj)(S I T:af)(so:ar)(es:Array (Int×ag))(ep:Nat)(t:pH)(l:List ag)(pl:List Nat):Prop where
 data:so.data= .set es ep t
 fit:t.fits es.size=true
 len:l.length=es.size
 SI:S≠I
 TI:T≠I
 yes:Aj w=true->l=(Mu (w.params.setOrder S ep) es).toList.map wQ
 no:Aj w=false->pl.length=es.size/\∀(j p:Nat),pl[j]?=some p->∃e:Int×ag,es[p]?=some e/\l[j]?=some e.2
theorem aFx{T:af}{so:ar}{es:Array (Int×ag)}{t:pH}{l:List ag}{Z:List Nat}(H:Dl w S I T so es ep t l Z){i:Nat}{Q:Option ag->am->Prop}(hi:i< l.length)(st:Ak w S I T so es ep t l Z i s.heap)(h:∀h',lc I s.heap h'->Ak w S I T so es ep t l Z (i+1) h'->Q (l[i]?) { s with heap:=h' }):aG (aR prog w) A (y3 (.ref I)) Q E s:=by
 refine d8 st λhS st=>?_;have hT:s.TypeIs (.ref I) "set_iterator":=by rcases st with ⟨z,a⟩|⟨z,a,z⟩<;>exact⟨_,a,rfl⟩
 refine au (uN (wT hT vP
  (qz vP hT Pz ?_ (PA _))));refine au (aH ?_);rcases st with ⟨J,Y⟩|⟨J,Y,to,n,Dm,Dn⟩
 ·refine au (Mv Y rfl ?_);refine au (F6 hS H.data H.fit ?_);refine rR (if_neg (by simp)) (au (au (pI hS H.data H.fit ?_)));refine au (au (wZ (aH ?_)));refine rR (if_pos (show(aR prog w).w.params.followText "set-order"=true from J)) (rR (if_neg (by simp)) ?_);refine au (au (pI hS H.data H.fit ?_));refine au (au (wZ (aH ?_)));refine rR (if_pos (show(aR prog w).w.params.followText "set-order"=true from J)) (au (wZ (aH ?_)));refine aH ?_;obtain⟨v,hv⟩:∃v,l[i]?=some v:=⟨_,gF hi⟩
  have Hz:=hv;rw[(H.yes J),dP,BS,Option.map_eq_some_iff]at Hz;refine aO Hz λe he he2=>?_;refine rR (wV ..) (rR (he ..) ?_);refine au (sn Y rfl (by simp) ?_);have xO:=nN (qA (·.setIfInBounds 0 (eJ 0))) Y rfl;refine au (sn xO rfl (by simp) ?_);have hI3:=nN (qA (·.setIfInBounds 1 (eJ ((i:Int)+1)))) xO rfl;have gu:=(ib s.heap I (qA (·.setIfInBounds 0 (eJ 0)))).trans (ib _ I (qA (·.setIfInBounds 1 (eJ ((i:Int)+1)))));have hh:=h _ gu ⟨(gu.2 S H.SI).trans hS, .inl ⟨J,hI3⟩⟩;rw[hv,<-he2]at hh;exact aH ⟨_,rfl,aH hh⟩
 ·obtain⟨ju,Do⟩:=H.no J;refine au (Mv Y rfl ?_);dsimp only;refine au (F6 hS H.data H.fit ?_);refine rR (if_neg (by simp)) ?_;have PF:i< Z.length:=rR ju (rL H.len hi);refine aO (Do i Z[i] (gF PF)) λe he hle=>?_;refine au (au (yU Dm ?_));refine rR Dn (aH ?_);dsimp only;have Ai:((Z.map λ(p:Nat)=>eJ p).toArray)[(i:Int).toNat]?=some (eJ (Z[i]:Nat)):=by simp[PF]
  refine rR Ai (au (au (pI hS H.data H.fit ?_)));dsimp only;refine rR (if_neg (by simp) ..) (rR (wV ..) (rR (he ..) ?_));refine aH (au (sn Y rfl (by simp) ?_));have xO:=nN (qA (·.setIfInBounds 1 (eJ ((i:Int)+1)))) Y rfl;have gu:=ib s.heap I (qA (·.setIfInBounds 1 (eJ ((i:Int)+1))));have hh:=h _ gu ⟨(gu.2 S H.SI).trans hS, .inr ⟨J,xO,to,n,(gu.2 T H.TI).trans Dm,Dn⟩⟩;rw[hle]at hh;exact aH ⟨_,rfl,aH hh⟩
theorem PG{Q:Option ag->am->Prop}(J:A.handled=none)(h:∀Y H,Q none { s with heap:=(s.heap.push Y).push H }):
  aG (aR prog w) A.in1 (newExc (.type "StopIteration") [] >>=λe=>(raiseNew e:cb lm)) (λH s'=>∃v,H=Fin.done (Flow.ret v)/\aG (aR prog w) A (pure (some v)) Q E s')
   (λe s'=>aG (aR prog w) A (do if <-Mw e (FU "StopIteration")then pure none else throw e) Q E s') s:=by
 refine au (au (kd ?_ (by size_fits)));refine au (je (a:=ag.none) (by first|rfl|(rfl)) ?_);refine kd ?_ (by size_fits);refine au (FQ ?_);refine rR (show A.in1.handled=none from J) (au (aH (FS ?_)));refine au (mU ⟨_,gZ _ rfl,rfl⟩ FV ?_);exact aH (h _ _)
theorem aFy{T:af}{so:ar}{Z:Array (Int×ag)}{t:pH}{l:List ag}{pl:List Nat}(hh:A.handled=none)(H:Dl w S I T so Z ep t l pl){Q:Option ag->am->Prop}(st:Ak w S I T so Z ep t l pl l.length s.heap)(h:∀h',yZ I s.heap h'->Q none { s with heap:=h' }):aG (aR prog w) A (y3 (.ref I)) Q E s:=by
 refine d8 st λhS st=>?_;have hT:s.TypeIs (.ref I) "set_iterator":=by rcases st with ⟨z,a⟩|⟨z,a,z⟩<;>exact⟨_,a,rfl⟩
 refine au (uN (wT hT vP
  (qz vP hT Pz ?_ (PA _))));refine au (aH ?_);rcases st with ⟨Y,J⟩|⟨Y,J,to,n,Dm,Dn⟩
 ·refine au (Mv J rfl ?_);dsimp only;refine au (F6 hS H.data H.fit ?_);refine rR (if_neg (by simp)) (au (au (pI hS H.data H.fit ?_)));refine au (au (wZ (aH ?_)));refine rR (if_pos (show(aR prog w).w.params.followText "set-order"=true from Y)) (rR (if_neg (by simp)) ?_);refine au (au (pI hS H.data H.fit ?_));refine au (au (wZ (aH ?_)));refine rR (if_pos (show(aR prog w).w.params.followText "set-order"=true from Y)) (au (wZ (aH ?_)));refine aH ?_;have fN:(Mu (w.params.setOrder S ep) Z)[l.length]?=none:=by
   refine WQ ?_;have h1:(Mu (w.params.setOrder S ep) Z).size=l.length:=by rw[<-nQ,<-dB,<-(H.yes Y)]
   exact qu h1
  refine rR (wV ..) (rR (fN ..) ?_);refine au (sn J rfl (by simp) ?_);exact PG hh λo1 o2=>h _ (((ib ..).extBut.push _).push _)
 ·obtain⟨ju,Z⟩:=H.no Y;refine au (Mv J rfl ?_);dsimp only;refine au (F6 hS H.data H.fit ?_);refine rR (if_neg (by simp)) (au (au (yU Dm ?_)));refine rR Dn (aH ?_);dsimp only;have Y:((pl.map λ(p:Nat)=>eJ p).toArray)[(l.length:Int).toNat]?=none:=by simp[ju,H.len]
  refine rR Y (au (sn J rfl (by simp) ?_));have H:=nN (qA (·.setIfInBounds 0 (eJ 0))) J rfl;refine au (sn H rfl (by simp) ?_);exact PG hh λo1 o2=>h _ ((((ib ..).trans (ib ..)).extBut.push _).push _)
end
end
section
open PySem PySem.W PySem.W.X PyProof.Rows PySem.Calls
set_option maxHeartbeats 4000000
inductive SV:List ag->List Str->Prop
 |nil:SV [] []
 |cons {k t vs ks:_}:SV vs ks->SV (.str k t::vs) (k::ks)
theorem SV.perm{l l':List ag}(p:cH l' l):∀{ks:List Str},SV l ks->∃H,cH H ks/\SV l' H:=by
 induction p with
 |nil=>intro ks h;cases h;exact⟨[], .refl _, .nil⟩|cons x p ih=>
  intro ks h;cases h with
  |cons b=>exact aO (ih b) λH q f=>⟨_::H,q.cons _, .cons f⟩
 |swap x y l=>
  intro ks h;cases h with
  |cons b=>cases b with
   |cons d=>exact⟨_, .swap .., .cons (.cons d)⟩
 |trans p q iz kJ=>intro ks h;exact aO (kJ h) λH Y H=>aO (iz H) λJ Z H=>⟨J,Z.trans Y,H⟩
theorem SV.PH{l:List (Int×ag)}(h:F2 w l ks):SV (l.map wQ) ks:=by
 induction h with
 |nil=>exact .nil|@cons e k l ks a b ih=>obtain⟨z,t,H⟩:=a;exact rR iK (rR H (.cons ih))
theorem SV.len{l:List ag}(h:SV l ks):l.length=ks.length:=by
 induction h with
 |nil=>rfl|cons _ ih=>simp only[eI,eI,ih]
section
theorem aFz{H:Array (Int×ag)}:(fI H.size).map (λp=>((H[p]?).map wQ).getD .none)=H.toList.map Prod.snd:=by
 apply jH;intro i;simp only[dP,dP,BS];by_cases J:i< H.size;·simp[J]
 ·rw[uQ (by simpa using J),WQ (by exact aT [lE Y0 Y1] (lE Y0 Y1) rfl (dA.mp J))];rfl
theorem Ii{c:Bool}(H:c=true){a b:cb α}{Q:α->am->Prop}(h:aG M A a Q E s):aG M A (if c=true then a else b) Q E s:=if_pos H▸h
theorem Dp(h:aw)(o:ar):h.objs.size<(h.push o).objs.size:=rR (qv ..) (a8 _)
theorem aF0{o:ar}{Q:ag->am->Prop}(Z:s.heap.get? S=some o)(hS:f9 w ks o)(h2:2<=ks.length)(Dq:ks.length< 100)(h:∀I T l J H ep t h' dr,Dl w S I T o H ep t l J->Ak w S I T o H ep t l J 0 h'->(∃ff,cH ff ks/\SV l ff)->(∀b ob,s.heap.get? b=some ob->h'.get? b=some ob)->s.heap.objs.size<=I->(T=S\/s.heap.objs.size<=T)->I< h'.objs.size->T< h'.objs.size->Q (.ref I) { s with heap:=h',drawn:=dr }):aG (aR prog w) A (Ms (.ref S)) Q E s:=by
 refine hO λci aY=>?_;obtain⟨hex,H,ep,t,ff,hd,hp,iV,hf,ju⟩:=id hS;refine aY ?_;have hT:s.TypeIs (.ref S) "set":=⟨o,Z,hex.1⟩
 have Y:H.size=ks.length:=by rw[<-nQ,Af iV,hp.length_eq]
 have bp:=dJ Z;refine aWc hT aWd (qz aWd hT aFt ?_ (F.args_set_iter_1 _));refine au (aH ?_);refine au (au (F6 Z hd hf (aH ?_)));refine au (au (pI Z hd hf ?_));refine au (au (wZ (aH ?_)));refine aH ?_;induction hb:Aj w with
 |true=>
  refine rR (if_neg (by rw[show(aR prog w).w.params.followText "set-order"=true from hb];simp)) (au (aH ?_));refine au (au (pI Z hd hf (aH ?_)));refine au (kd (aH ?_));refine⟨_,rfl,"set_iterator",_,⟨_,gZ _ rfl,rfl⟩,vP.lookup,?_⟩;have cB:=dw bp;refine h s.heap.objs.size S _ [] H ep t _ s.drawn ⟨hd,hf,?_,cB,cB,λz=>rfl,λx=>by replace x:=hb▸x;injection x⟩ ⟨cZ _ Z, .inl ⟨hb,gZ _ rfl⟩⟩ ?_ (λb ob e=>cZ _ e) (a8 _) (.inl rfl) (Dp _ _) (y4 bp (Dp _ _));·rw[dB,(PB _ _).length_eq,nQ]
  ·obtain⟨k2,q,f⟩:=SV.perm ((PB _ H).map wQ) (SV.PH iV);exact⟨k2,q.trans hp,f⟩
 |false=>
  have aF1:=ju (by intro e;rw[e]at h2;simp at h2);have hdr:(!((⟨(aR prog w).prog,(aR prog w).w.params⟩:BF).params.followText "set-order") && (!t.plain && decide (H.size>1)))=true:=by rw[show(⟨(aR prog w).prog,(aR prog w).w.params⟩:BF).params.followText "set-order"=false from hb,aF1,Y];simp;exact bu [lE 2 Y0] (lL 1 Y0) rfl h2
  refine Ii hdr (au (aFw _ _ _ _ (by simp) λJ dr lF=>?_));have Ij:J.length=H.size:=by simp only[lF.length_eq,WX]
  refine au (kd ?_ (by show(J.map _).toArray.size<=gA;simp only[pz,dB,Ij,Y,nP];exact bu [lL Y0 100] (lE Y0 16777216) rfl Dq));have tR:(s.heap.push { cls:= .type "tuple",data:= .seq (J.map λ(p:Nat)=>eJ p).toArray }).get? S=some o:=cZ _ Z;refine au (au (pI tR hd hf (aH ?_)));refine au (kd (aH ?_));refine⟨_,rfl,"set_iterator",_,⟨_,gZ _ rfl,rfl⟩,vP.lookup,?_⟩;have fN:(s.heap.push { cls:= .type "tuple",data:= .seq (J.map λ(p:Nat)=>eJ p).toArray }).objs.size=s.heap.objs.size+1:=by rw[qv]
  refine h (s.heap.push { cls:= .type "tuple",data:= .seq (J.map λ(p:Nat)=>eJ p).toArray }).objs.size s.heap.objs.size (J.map (λp=>((H[p]?).map wQ).getD .none)) J H ep t
   _ dr
   ⟨hd,hf,rR (dB ..) (rR (Ij ..) rfl),(dw (fN▸aWe bp)),(dw (fN▸wW _)),(λx=>by replace x:=hb▸x;injection x),λz=>⟨Ij,λj p hj=>?_⟩⟩
   ⟨cZ _ tR, .inr ⟨hb,gZ _ rfl,_,_,cZ _ (gZ _ rfl),rfl⟩⟩ ?_
   (λb ob e=>cZ _ (cZ _ e)) (fN▸fG ..) (.inr (a8 _)) (Dp _ _) (y4 (fN▸a8 _) (Dp _ _))
  ·have J:p< H.size:=by have:=lF.mem_iff.mp (jb hj);simpa using this
   refine⟨H[p],yT J,?_⟩;simp only[dP,hj];simp[J]
  ·exact aO (SV.perm (aFz▸lF.map _) (SV.PH iV)) λk2 q f=>⟨k2,q.trans hp,f⟩
theorem aF2{T:af}{so:ar}{es:Array (Int×ag)}{t:pH}{l:List ag}{Y:List Nat}(hh:A.handled=none)(ok:Dl w S I T so es ep t l Y):WalksS prog w A I [I,S,T] [I] (λa b=>b=a) l.length (λi v=>l[i]?=some v) (λi s=>Ak w S I T so es ep t l Y i s.heap) where
 sub:=λb J=>by simp at J;simp[J]
 grefl:=λz=>rfl
 gtrans:=λz z z a b=>b.trans a
 frame:=λi s h' tk H z Y=>⟨Y S (by simp) _ H.1,H.2.imp (λa=>⟨a.1,Y I (by simp) _ a.2⟩) λa=>⟨a.1,Y I (by simp) _ a.2.1,let ⟨to,n,x,y⟩:=a.2.2;⟨to,n,Y T (by simp) _ x,y⟩⟩⟩
 item:=λi s Q E Y H Z=>aFx ok Y H λh' gu cK=>by exact rR (gF Y) (Z _ _ (gF Y) cK ⟨λb o J e=>(gu.2 b (λx=>J (by simp[x]))).trans e,rfl,rfl,rfl,a8 _⟩)
 done:=λs Q E H Z=>aFy hh ok H λh' Y=>Z _ ⟨λb o J e=>Y b o (λx=>J (by simp[x])) e,rfl,rfl,rfl,a8 _⟩
 self:=λi s Q E H h=>by
  have hT:s.TypeIs (.ref I) "set_iterator":=by rcases H.2 with ⟨j,a⟩|⟨j,a,j⟩<;>exact⟨_,a,rfl⟩
  refine aWc hT Py (qz Py hT aFr ?_ (aFs _));exact aH ⟨_,rfl,"set_iterator",_,hT,vP.lookup,h⟩
theorem aF3{l:List ag}{H:Array ag}(h:ItemsOf (λi v=>l[i]?=some v) H l.length):H.toList=l:=by
 apply jH;intro i;by_cases J:i< H.size;·simp only[BS,yT J,h.2 i _ (yT J)]
 ·rw[uQ (by simpa using J),uQ (h.1▸aT [lE Y0 Y1] (lE Y0 Y1) rfl (dA.mp J))]
theorem aF4{o:ar}{Q:List ag->am->Prop}(hh:A.handled=none)(ho:s.heap.get? S=some o)(hS:f9 w ks o)(h2:2<=ks.length)(Dq:ks.length< 100)(h:∀vs h' tk dr,(∃ff,cH ff ks/\SV vs ff)->(∀b H,s.heap.get? b=some H->h'.get? b=some H)->Q vs { s with heap:=h',toks:=tk,drawn:=dr }):aG (aR prog w) A (collect (.ref S)) Q E s:=by
 have PI:=dJ ho;refine au (aV4 (qw PySem.F.entry_proto_collect ?_));refine au (kd ?_);refine aH ⟨FM PySem.F.plain_list_iadd _,qw PySem.F.entry_list_iadd ?_⟩;show aG _ A.in1 (aZb ..) ..;have oF:(s.heap.push { cls:= .type "list",data:= .seq ([]:List ag).toArray }).get? S=some o:=cZ _ ho;have Y:∀s':am,s'.heap.get? S=some o->s'.TypeIs (.ref S) "set":=λs' e=>⟨o,e,hS.1.1⟩;refine au (uS (Y { s with heap:=_ } oF) ?_);have h1:aWf (.ref s.heap.objs.size) (.ref S)=false:=by simp[aWf,jd PI]
 refine rR (if_neg (by rw[h1];decide)) (au (aF0 oF hS h2 Dq λI T l pl es ep t hI dr ok st hl hk lI lT ltI ltT=>?_));have kM:=hk _ _ oF;rw[qv]at lI lT;refine au (fW ?_);refine au (Xa (Y _ kM) F.slot_set_len.lookup ?_);(generalize CG:("set.__len__":String)=id0;(fail_if_success (clear CG id0));wp_delta;subst CG);refine au (mU (b:=true) (Y _ kM) (by kernel_rfl) ?_);refine rR (if_neg (by decide)) (Ii (by first|rfl|decide+kernel) ?_);refine au (uS (Y _ kM) ?_);refine aH (Ii (by first|rfl|decide+kernel) ?_);refine au (qy ?_);have Al:=hk _ _ (gZ _ rfl);refine au (au (FB Al rfl ?_));have Y:=nN (mT (·.push ag.none)) Al rfl;refine FB Y rfl ?_;have Ds:=nN (mT (·.pop)) Y rfl;have xP:∀b o,b≠s.heap.objs.size->hI.get? b=some o->((hI.update s.heap.objs.size (mT (·.push ag.none))).update s.heap.objs.size (mT (·.pop))).get? b=some o:=λb o J e=>(XD _ _ (Ne.symm J)).trans ((XD _ _ (Ne.symm J)).trans e);have PK:=dw PI;have hTL:T≠s.heap.objs.size:=by
  rcases lT with rfl|lT
  ·exact PK
  ·exact jd lT
 have W:=aF2 (prog:=prog) (A:=A.in1) (by trivial) ok;have C3:s.heap.objs.size ∉ [I,S,T]:=by simp only[a9,bi,or_false,not_or];exact⟨(jd lI).symm,PK.symm,hTL.symm⟩
 have Y:l.length<=sizeLine:=by refine aO hl λk2 p2 sv=>?_;simp only[sv.len,p2.length_eq,nP];exact bu [lL Y0 100] (lE Y0 16777216) rfl Dq
 refine aH ⟨FM PySem.F.plain_extend_loop _,codeAny_extend_loopS W Y _ C3 _ l.length 0 _ _ _ (rfl) (f4 _) (W.frame 0 { s with heap:=hI,drawn:=dr } _ s.toks st (a8 _) λb J o e=>xP b o (λx=>C3 (x▸J)) e) Ds (ItemsOf.nil _) λs' J J hm J zT=>?_⟩;refine au (yU J ?_);obtain⟨h',g',d',tL,Z⟩:=s';have eg:g'=s.gens:=hm.gens;have eo:Z=s.os:=hm.os;subst eg;subst eo;refine aH ?_;rw[aF3 zT];refine h l h' tL d' hl λb H e=>?_;have J:=dw (dJ e);exact hm.heap b H (by simp only[a9,bi,or_false,not_or];exact⟨J,(dw (qr (dJ e) (nO lI)))⟩) (xP b H J (hk b H (cZ _ e)))
end
end
section
open PySem PySem.W PySem.W.X PyProof.Rows PySem.Calls
set_option maxHeartbeats 4000000
noncomputable def xQ(r:Nat->Nat)(n:Nat):KasT α->Option α
 | .ret a=>some a| .ask i j k=>if i< n/\j< n/\i≠j then xQ r n (k (decide (r i< r j)))else none
theorem PM{r:Nat->Nat}{H:Nat->Nat->(Bool->am->Prop)->am->Prop}{Q:α->am->Prop}(J:∀i j(C:Bool->am->Prop),i< n->j< n->i≠j->C (decide (r i< r j)) s->H i j C s):∀{t:KasT α}{a:α},xQ r n t=some a->Q a s->t.kasWp H Q s
 | .ret a,_,e,h=>by simp only[xQ,FX]at e;subst e;exact h
 | .ask i j k,_,e,h=>by
  unfold xQ at e;split at e
  ·rename_i H;exact J i j _ H.1 H.2.1 H.2.2 (PM J e h)
  ·injection e
noncomputable def ins(x:Nat):List Nat->List (List Nat)
 |[]=>[[x]]|y::l=>(x::y::l)::(ins x l).map (y::·)
def perms:List Nat->List (List Nat)
 |[]=>[[]]|x::l=>(perms l).flatMap (ins x)
theorem PN(x:Nat):∀(a b:List Nat),a++x::b∈ins x (a++b)
 |[],[]=>ay|[],y::b=>ay|y::a,b=>by exact XE _ (b7 (PN ..))
theorem Ik:∀(H l:List Nat),cH l H->l∈perms H
 |[],l,h=>rR h.eq_nil ay|x::H,l,h=>by refine ve (F7 (h.mem_iff.mpr ay)) λa b J=>?_;subst J;exact XF.mpr ⟨a++b,Ik H _ ((List.perm_cons x).mp ((lj.symm).trans h)),PN ..⟩
def sorts(n:Nat)(r:List Nat):Bool:=match xQ (λi=>r.getD i 0) n (kas_sort n)with
 |some p=>(p.toList.map λi=>r.getD i 0)==fI n && p.toList.all (· < n)|none=>false
theorem aF5:((perms [0,1,2,3,4,5]).all (sorts 6))=true:=by decide+kernel
theorem aF6:((perms [0,1,2,3,4]).all (sorts 5))=true:=by decide+kernel
theorem aF7(hn:n=5\/n=6){r:List Nat}(J:cH r (fI n)):∃p,xQ (λi=>r.getD i 0) n (kas_sort n)=some p/\(p.toList.map λi=>r.getD i 0)=fI n/\∀i∈p.toList,i< n:=by
 have H:sorts n r=true:=by
  rcases hn with rfl|rfl
  ·exact r5.mp aF6 r (Ik _ _ J)
  ·exact r5.mp aF5 r (Ik _ _ J)
 unfold sorts at H;split at H
 ·rename_i p e;rw[gy,beq_iff_eq,r5]at H;exact⟨p,e,H.1,λi J=>by simpa using H.2 i J⟩
 ·injection H
section
theorem aF8:mf gz "list.__eq__.loop"=some Builtin.«list.__eq__.loop»:=aV9 (by kernel_rfl)
theorem aF9:W5 "list.__eq__.loop"=true:=by decide+kernel
theorem aGa{x y:af}{J H:ar}{a b:Str}{ta:ab}{xs ys:Array ag}{Q:Bool->am->Prop}(Z:s.heap.get? x=some J)(cx:J.cls= .type "list")(dx:J.data= .seq xs n)(x0:xs[0]?=some (.str a ta))(Y:s.heap.get? y=some H)(cy:H.cls= .type "list")(dy:H.data= .seq ys k)(y0:ys[0]?=some (.str b tb))(cB:a≠b)(hu:A.units< dQ)(h:Q (decide (a.cps.toList< b.cps.toList)) s):aG (aR prog w) A (keyLt' oneType' (.ref x) (.ref y)) Q E s:=by
 have PO:s.TypeIs (.ref x) "list":=⟨J,Z,cx⟩
 refine au (XH hu ?_);refine au (wpAny_callSpecialIfBound?_slot PO XI ?_);refine wpAny_call (dK XI.plain PySem.F.entry_list_lt (XI.check _ _ _ _ _ _ _ _ PO (PySem.F.args_list_lt_2 _ _) ?_));show aG _ _ (Mw _ _>>=_) ..;refine au (mU (⟨H,Y,cy⟩) PySem.F.sub_list_list ?_);refine aH ⟨FM aF9 _,qw aF8 ?_⟩;refine au (Mx Z dx (au (Mx Y dy ?_)));show aG _ _ _ ..;refine rR x0 (rR y0 ?_);refine au (My ?_);refine rR (if_neg (show ¬decide _=true from by simp[cB])) (au (Mx Z dx (au (Mx Y dy ?_))));refine rR (show xs[Int.toNat 0]?=some _ from x0) (rR (show ys[Int.toNat 0]?=some _ from y0) ?_);refine au (lt_str ?_);exact aH (XJ h)
end
end
section
open PySem PySem.W PySem.W.X PyProof.Rows PySem.Calls
set_option maxHeartbeats 4000000
def An(hd:Str)(o:ar):Prop:=o.cls= .type "list"/\∃xs n t,o.data= .seq xs n/\xs[0]?=some (.str hd t)
inductive KL(pre:List (af×ar)):List ag->List Str->Prop
 |nil:KL pre [] []
 |snoc {vs hs y o hd:_}:KL pre vs hs->(y,o)∈pre->An hd o->KL pre (vs++[.ref y]) (hs++[hd])
theorem KL.mono{H:List (af×ar)}(J:∀p∈pre,p∈H){vs hs}(h:KL pre vs hs):KL H vs hs:=by
 induction h with
 |nil=>exact .nil|snoc a b c ih=>exact .snoc ih (J _ b) c
theorem KL.len{vs hs}(h:KL pre vs hs):vs.length=hs.length:=by
 induction h with
 |nil=>rfl|snoc a b c ih=>simp only[bQ,bQ,ih];rfl
theorem KL.at{vs hs}(h:KL pre vs hs):∀{i:Nat}{hd:Str},hs[i]?=some hd->∃y o,vs.getD i .none= .ref y/\(y,o)∈pre/\An hd o:=by
 induction h with
 |nil=>intro i hd e;injection e|@snoc vs hs y o oq a b c ih=>
  intro i hd e;have J:=a.len;rw[List.getElem?_append]at e;split at e
  ·rename_i H;refine hO λci aY=>c7 (ih e) λy' o' e1 e2=>aY ⟨y',o',?_,e2⟩;exact rR (uV) (rR (aWg (cA [eQ Y1 Y2,lL Y0 Y2] (lL Y0 Y1) [-1,1] 1 rfl J H)) (rL (uV) e1))
  ·rename_i H;have Z:i - hs.length=0:=by
    rcases Nat.eq_zero_or_pos _ with h0|h0
    ·exact h0
    ·rw[uQ (show 1<=i - hs.length from h0)]at e;injection e
   have Y:i=vs.length:=c8 (lr [eQ Y1 Y2,eQ Y3 0,eQ (Y3+Y2) Y0] (lE Y0 Y1) [-1,1,-1] 1 rfl J Z (bY ((dA.mp H)))) (b8 [eQ Y0 Y2,lE Y2 Y1] (lE Y0 Y1) rfl J (dA.mp H));rw[Z]at e;simp only[XM,FX]at e;subst e;refine⟨y,o,?_,b,c⟩;refine rR (uV) (rR Y (rR (aWh (a8 _)) ?_));simp
section
variable {kS:af}{m:Str->Option ag}{base:List (af×ar)}
def Io(prog:c9)(w:aj)(A:aD)(aa:aw)(L:af)(m:Str->Option ag)(base:List (af×ar))(hd:Str->Str)(sk:List Str)(f:ag):Prop:=∀(k:Str)(t:ab)(H:List (af×ar))(s':am)(Q:ag->am->Prop),k∈sk->Fr aa L s'.heap m->py aa L s'.heap H->(∀p∈base,p∈H)->(∀y o h' tk,Fr aa L h' m->py aa L h' ((y,o)::H)->(∀p∈H,p.1≠y)->An (hd k) o->Q (.ref y) { s' with heap:=h',toks:=tk })->aG (aR prog w) A (call f [.str k t]) Q (λ_ _=>False) s'
theorem Dt{o:ar}:∀(pre:List (af×ar)),(∀p∈pre++base,p.1≠kS)->UpdF kS o (pre++(kS,o)::base) (λH=>pre++(kS,H)::base)
 |[],h=> .head λp H=>h p H|q::pre,h=> .tail (h q ay) (Dt pre λp H=>h p (aB H))
def Apart(kS:af)(pre base:List (af×ar)):Prop:=(∀q∈base,q.1≠kS)/\∀p∈pre,p.1≠kS/\∀q∈base,p.1≠q.1
theorem Apart.all{base:List (af×ar)}(h:Apart kS pre base):∀p∈pre++base,p.1≠kS:=λp hp=>by
 rcases cr.mp hp with hp|hp
 ·exact(h.2 p hp).1
 ·exact h.1 p hp
theorem aGb{hd:Str->Str}{sk:List Str}{f:ag}{Z:List ag->Nat->am->Prop}(hf:Io prog w A aa L m base hd sk f):∀{vs:List ag}{rest:List Str},SV vs rest->(∀k∈rest,k∈sk)->∀(ks:List ag)(hs:List Str)(pre:List (af×ar))(e:Nat)(s:am),Fr aa L s.heap m->py aa L s.heap (pre++(kS,sr "list" (cF ks) e)::base)->KL pre ks hs->Apart kS pre base->(∀Y J e' h' tk,Fr aa L h' m->py aa L h' (J++(kS,sr "list" (cF Y) e')::base)->KL J Y (hs++rest.map hd)->Apart kS J base->Z Y e' { s with heap:=h',toks:=tk })->KatKeys prog w A aa L m kS f Z vs ks e s:=by
 intro vs rest sv;induction sv with
 |nil=>intro z ks hs pre e s F N kl cB H;exact KatKeys.nil (by have:=H ks pre e s.heap s.toks F N (by simpa using kl) cB;exact this)|@cons k t vs rest sv ih=>
  intro Du ks hs pre e s F N kl cB H;refine KatKeys.cons (hf k t _ s _ (Du k ay) F N (λp hp=>bD _ (aB hp)) λy o h' tk F' N' hy ko=>?_);have PP:Apart kS ((y,o)::pre) base:=⟨cB.1,λp hp=>by
   rcases a9.mp hp with rfl|hp
   ·exact⟨(λe=>hy _ (bD _ ay) e.symm),λq Z e=>hy q (bD _ (aB Z)) e.symm⟩
   ·exact cB.2 p hp⟩
  refine KatBack.intro F' N' (Dt _ PP.all) λh2 c F2 Z=>?z;refine ih (λk' jt=>Du k' (aB jt)) _ _ _ c { s with heap:=h2,toks:=tk } F2 Z (.snoc (kl.mono λp hp=>aB hp) ay ko) PP λY J e' h3 vM F3 N3 Z Dw=>H Y J e' h3 vM F3 N3 ?_ Dw;exact rR iK (rR (List.append_cons ..) Z)
theorem PQ:∀{out:List ag}{sk:List Str},out.length=sk.length->(∀(i:Nat)(k:Str),sk[i]?=some k->∃t,out[i]?=some (ag.str k t))->SV out sk
 |[],[],_,_=> .nil|v::out,k::sk,hl,h=>by obtain⟨t,e⟩:=h 0 k rfl;simp only[XM,FX]at e;subst e;exact .cons (PQ (by simpa using hl) λi J H=>h (i+1) J H)
theorem aGc(h:SV vs ks):∀{i:Nat}{k:Str},ks[i]?=some k->∃t,vs.getD i .none= .str k t:=by
 induction h with
 |nil=>intro i k e;injection e|cons sv ih=>
  intro i k e;induction i with
  |zero=>simp only[XM,FX]at e;subst e;exact⟨_,rfl⟩|succ i=>exact ih e
structure Dx(hd:Str->Str)(sk:List Str)(n:Nat):Prop where
 len:sk.length=n
 Ap:n=5\/n=6
 nodup:sk.Nodup
 inj:∀k∈sk,∀k'∈sk,k≠k'->hd k≠hd k'
 mono:∀k∈sk,∀k'∈sk,decide ((hd k).cps.toList<(hd k').cps.toList)=decide (sk.idxOf k< sk.idxOf k')
theorem aGd{sk:List Str}(hn:sk.Nodup):sk.map (λk=>sk.idxOf k)=fI sk.length:=by
 apply aWi;·simp
 ·intro i H H;simp only[List.getElem_map,List.getElem_range];exact hn.idxOf_getElem i _
theorem PS{b:Builtin}{args:List ag}{J:List (Str×ag)}(hk:builtinKind id=none)(hp:W5 id=true)(hb:mf gz id=some b)(ha:lf id ⟨args,J⟩)(hc:aG (aR prog w) A.in1 (b ⟨args,J⟩) (λH s'=>∃v,H= .done (.ret v)/\R (.ok (.ret v)) s') (λe s'=>R (.error e) s') s):eH (aR prog w) A (.call (.builtin id) ⟨args,J⟩) R s:=by
 refine dK hp hb ?_;have Z:=pA hc (Q':=λH s'=>match H with
   | .done f=>R (.ok f) s'| .again c'=>c'.quiet=true/\eH (aR prog w) A c' R s')
  (λH s' h'=>by refine aO h' λv Y hv=>?_;subst Y;exact hv) λz z h'=>h';simp only[aVi,hk];induction HF:aVj id with
 |none=>exact aH Z|some sig=>
  have H:aVk id sig ⟨args,J⟩=pure ():=by simpa only[lf,HF]using ha
  simp only[H];exact aH Z
theorem aGe{o:ar}{sk:List Str}{hd:Str->Str}{f:ag}{kw:List (Str×ag)}(F:Fr aa L s.heap m)(N:py aa L s.heap base)(hh:A.handled=none)(hu:A.units+3< dQ)(hSm:(S,o)∈base)(hS:f9 w ks o)(H:Dx hd sk n)(ri:cH ks sk)(ha1:lf "sorted" ⟨[.ref S],kw⟩)(Hr:∀x,lf "list.sort" ⟨[.ref x],kw⟩)(ht:∀x,Builtin.«list.sort» ⟨[.ref x],kw⟩=ksk_tree x f false)(hf:Io prog w A.in1.in1 aa L m base hd sk f)(h:∀D e h' tk dr out,SV out sk->Fr aa L h' m->py aa L h' ((D,listOf (cF out) e)::base)->(∀p∈base,p.1< D)->R (.ok (.ret (.ref D))) { s with heap:=h',toks:=tk,drawn:=dr }):eH (aR prog w) A (.call (.builtin "sorted") ⟨[.ref S],kw⟩) R s:=by
 have Aq:ks.length=n:=by rw[ri.length_eq,H.len]
 have Ip:2<=ks.length:=Aq▸H.Ap.elim (λe=>e▸by decide) λe=>e▸by decide
 refine PS kind_sorted plain_sorted entry_sorted ha1 (au (aH ?_));refine au (aF4 (by simp[hh]) (N _ hSm).1 hS Ip (Aq▸H.Ap.elim (λe=>e▸by decide) λe=>e▸by decide) λvs Z tk1 PU Ar zF=>?_);refine aO Ar λJ fX sv=>?_;have sL:vs.length=n:=by rw[sv.len,fX.length_eq,Aq]
 refine au (wpAny_newList ?_ (rR sL (rR nP (H.Ap.elim (λe=>e▸by decide) λe=>e▸by decide))));have PV:(Z.push _).get? Z.objs.size=some (sr "list" vs.toArray 0):=gZ _ rfl;have keep:∀b ob,s.heap.get? b=some ob->(Z.push (sr "list" vs.toArray 0)).get? b=some ob:=λb ob q=>cZ _ (zF b ob q);have Dy:L< Z.objs.size:=by exact mY F.ns λoL es ep x _=>dJ (zF _ _ x)
 have Iq:∀p∈base,p.1< Z.objs.size:=λp hp=>dJ (zF _ _ (N p hp).1);refine au (fW (wpAny_call_entry_kw slot_list_sort ⟨_,PV,rfl⟩ entry_list_sort ?body (Hr _)));case body=>
  refine rR (ht Z.objs.size) (kat_keyed (s:={ s with heap:=Z.push (sr "list" vs.toArray 0),toks:=tk1,drawn:=PU })
   (F.kept keep) (N.grown keep) PV (jd Dy) (wP (aE F.above (cT Dy)))
   (λp hp=>dw (Iq p hp)) (rR sL (rL Aq Ip)) (sL▸H.Ap.elim (λe=>e▸by decide) λe=>e▸by decide) λkS e1 h' F' N' l0 l1=>?_)
  have aGf:∀p∈(Z.objs.size,sr "list" #[] e1)::base,p.1≠kS:=λp hp=>by
   rcases a9.mp hp with rfl|hp
   ·exact dw l0
   ·exact dw (l1 p hp)
  refine aGb (λk t sU s' Q a1 a2 a3 a4=>hf k t sU s' Q a1 a2 a3 λp hp=>a4 p (aB hp)) sv (λk hk=>ri.mem_iff.mp (fX.mem_iff.mp hk)) [] [] [] 0 _ F' N' .nil ⟨aGf,λ_ h=>nomatch h⟩ λkl pre e' h3 vM F3 N3 K3 Dw=>?_
  rw[uP]at K3
  have oG:=fX.trans ri
  have As:J.length=n:=by rw[oG.length_eq,H.len]
  have hr:cH (J.map λk=>sk.idxOf k) (fI n):=by have:=oG.map (λk=>sk.idxOf k);rw[aGd H.nodup,H.len]at this;exact this
  refine ii (aF7 H.Ap hr) λp aGg PX aGh=>?_
  have PY:kl.length=n:=by rw[K3.len,dB,As]
  have ei:∀i< n,∃y o,kl.getD i .none= .ref y/\h3.get? y=some o/\An _ o:=λi Y=>by have xR:i< J.length:=cA [eQ Y1 Y2,lL Y0 Y2] (lL Y0 Y1) [-1,1] 1 rfl As Y;obtain⟨y,o,e,hm,ko⟩:=K3.at (hd:=hd (J.getD i "")) (by refine rR (dP) (rR (gF xR) (rR (uV) (rR (gF xR) ?_)));rfl);exact⟨y,o,e,(N3 _ (bL _ hm)).1,ko⟩
  refine kas_kind (T:= .type "list") (rR PY (rL Aq Ip)) (λv hv=>?_) rfl rfl ?_
  ·obtain⟨i,Y,e⟩:=List.mem_iff_getElem.mp hv
   refine lq (ei i (b8 [eQ Y2 Y1,lL Y0 Y2] (lL Y0 Y1) rfl PY Y)) λy o e1 ho ko=>?_
   have e2:v= .ref y:=rL e1 (rR (uV) (rR (gF Y) e.symm))
   subst e2
   exact λA Q E s k q=>uS ⟨o,k _ _ ho,ko.1⟩ q
  refine PM (λi j C Y hj Am hC=>?_) (rR sL aGg) ?_
  ·obtain⟨y,o,e1,ho,c1,xs,m1,t1,d1,x1⟩:=ei i Y
   obtain⟨y',o',Au,lG,c1',It,m1',t1',d1',x1'⟩:=ei j hj
   show aG _ _ _ ..
   refine rR e1 (rR Au ?_)
   have xR:i< J.length:=cA [eQ Y1 Y2,lL Y0 Y2] (lL Y0 Y1) [-1,1] 1 rfl As Y
   have Av:j< J.length:=cA [eQ Y1 Y2,lL Y0 Y2] (lL Y0 Y1) [-1,1] 1 rfl As hj
   have gi:J.getD i ""=J[i]:=by rw[uV,gF xR];rfl
   have gj:J.getD j ""=J[j]:=by rw[uV,gF Av];rfl
   have mi:=oG.mem_iff.mp (uT xR)
   have mj:=oG.mem_iff.mp (uT Av)
   refine aGa ho c1 d1 x1 lG c1' d1' x1' (rR gi (rR gj (H.inj _ mi _ mj (λe=>Am ((List.getElem_inj (oG.nodup_iff.mpr H.nodup)).mp e))))) ?_ ?_
   ·exact iI (by simp[aVt]) hu
   ·refine rR gi (rR gj (rR (H.mono _ mi _ mj) ?_))
    have PZ:=hC
    simp only[uV,dP,gF xR,gF Av,F8,Option.getD_some]at PZ
    exact PZ
  ·refine KatFin.intro F3 N3 (Dt pre Dw.all) λh4 c4 F4 N4=>?_
   rw[show pre++_::_::base=(pre++[(kS,sr "list" #[] c4)])++(Z.objs.size,sr "list" #[] e1)::base by simp]at N4
   refine KasFin.intro F4 N4 (Dt _ λq hq=>?_) λh5 c5 F5 N5=>?_
   ·rcases cr.mp hq with hq|hq
    ·rcases cr.mp hq with hq|hq
     ·exact(Dw.2 q hq).2 _ ay
     ·exact rR (bI.mp hq) (jd l0)
    ·exact dw (Iq q hq)
   refine⟨_,rfl,aH ⟨_,rfl,h Z.objs.size c5 h5 vM PU _ ?_ F5 (λq hq=>N5 q (bD _ hq)) Iq⟩⟩
   show SV (p.toList.map λi=>vs.getD i .none) sk
   have Z:p.toList.length=n:=by have:=congrArg Mz PX;simpa using this
   refine PQ (by rw[dB,Z,H.len]) λi k hk=>?_
   have Y:i< n:=rL H.len ((r9.mp hk).1)
   have Iu:i< p.toList.length:=cA [eQ Y1 Y2,lL Y0 Y2] (lL Y0 Y1) [-1,1] 1 rfl Z Y
   have Iv:p.toList[i]< J.length:=cA [eQ Y1 Y2,lL Y0 Y2] (lL Y0 Y1) [-1,1] 1 rfl As (aGh _ (uT Iu))
   have Z:(J.map λk=>sk.idxOf k).getD p.toList[i] 0=i:=by have:=congrArg (λl=>l[i]?) PX;simp only[dP,gF Iu,F8,WW Y]at this;exact dH this
   rw[uV,dP,gF Iv]at Z
   have zG:J[p.toList[i]]=k:=by have H:=gF (List.idxOf_lt_length_of_mem (oG.mem_iff.mp (uT Iv)));rw[List.getElem_idxOf]at H;have Y:sk.idxOf J[p.toList[i]]=i:=Z;rw[Y,hk]at H;exact(dH H).symm
   obtain⟨t,e⟩:=aGc sv (rR (gF Iv) (rR zG rfl))
   exact⟨t,rR (dP) (rR (gF Iu) (congrArg some e))⟩
end
end
section
open PySem PySem.W PySem.W.X PyProof.Rows PySem.Calls
set_option maxHeartbeats 4000000
def oH(k:Str):Str:=nc ((aWj k "}" 1).headD k)
def Dz(x:Nat):List Str:=[⟨#[99]⟩,⟨#[104]⟩,⟨#[108]⟩,⟨#[110]⟩,⟨#[115]⟩,iv x]
def DA:List Str:=nc ([⟨#[99]⟩,⟨#[104]⟩,⟨#[108]⟩,⟨#[110]⟩,⟨#[115]⟩])
def qf(sk:List Str):Bool:=sk.all (λk=>(!(aWj k "}" 1).isEmpty) && decide (k.length<=1000)) && decide sk.Nodup && sk.all (λk=>sk.all λH=>(decide (k=H)||decide (oH k≠oH H)) && (decide ((oH k).cps.toList<(oH H).cps.toList)==decide (sk.idxOf k< sk.idxOf H)))
theorem P3:qf DA=true:=by decide+kernel
theorem Ix{x:Nat}(h:x∈dS):qf (Dz x)=true:=by unfold dS at h;simp only[a9,bi,or_false]at h;rcases h with rfl|rfl|rfl|rfl|rfl|rfl<;>decide+kernel
theorem qf.sort{sk:List Str}(h:qf sk=true)(H:sk.length=n)(hn:n=5\/n=6):Dx oH sk n:=by
 unfold qf at h;simp only[gy,r5,decide_eq_true_eq]at h;obtain⟨⟨Y,J⟩,Z⟩:=h;refine⟨H,hn,J,λk H Y J cB=>?_,λk H Y J=>?_⟩
 ·have:=(Z k H Y J).1;simp only[MA,decide_eq_true_eq]at this;exact this.resolve_left cB
 ·have:=(Z k H Y J).2;exact beq_iff_eq.mp this
theorem Iy{x:Nat}(h:x∈dS):cH ((["n","c","s","l","h"]:List Str).foldl gN [iv x]) (Dz x):=by unfold dS at h;simp only[a9,bi,or_false]at h;rcases h with rfl|rfl|rfl|rfl|rfl|rfl<;>exact aWk.mp (by decide+kernel)
theorem P5:cH ((["n","c","s","l","h"]:List Str).foldl gN [cS]) DA:=aWk.mp (by decide+kernel)
end
def IA:PySem.Expr:=xE (xE (pE fC[6]? 0) 3) 2
def aGi:Arguments:=(eL IA).1
def aGj:PySem.Expr:=(eL IA).2.1
def aGk:Scope:=(eL IA).2.2
abbrev P6:Str:=nc ("C14NWriterTarget._start.<locals>.<lambda>")
def tW(c:af):Obj:=⟨.type "function",none, .func { name:="<lambda>",qualname:=P6,params:=aGi,body:= .expr aGj,scope:=aGk,globals:=3,closure:=[],defaults:= .none,kwdefaults:= .none,pyModule:= .str "law_sc0109_01" 652,code:= .ref c },#[]⟩
def lM(s t:Nat):Obj:=⟨.type "code",none, .fields (cF [.str "<lambda>" t, .str P6 (t+1), .str "/claim/cut.py" (t+2), .int 139 0, .int 1 0, .int 0 0, .int 0 0, .int 19 0, .ref s, .bool true, .int 276 0, .ref (s+1), .none, .ref (s+2), .ref (s+3), .ref (s+4), .int (t+4) 0, .int 139 0, .str "/claim/cut.py" (t+5)]),#[]⟩
abbrev iC(c:af):Obj:=nc (jJ #[.int 139 0, .int 71 0, .ref c])
theorem aGl{H:af}{so:ar}{S:Str->Bool}(Z:so.SetObjOf (strKind Rw.prog w) S n)(Y:n< XN)(k:Str)(t:ab):Told ao (av w) A U fr aa (bC "set.__contains__" [.ref H, .str k t]) [(H,so)] (λx=>⟨.ok (.ret (.bool (S k))),[(H,so)],[],x 0,x 1⟩):=by
 intro u s ak R H H j hR;have J:=Z.setOf (H.h.at_ _ ay) Y;refine dK aWl.plain entry_set_contains (aWl.check _ _ _ _ _ _ _ _ J.typeIs (F.args_set_contains_2 _ _) ?_);unfold Builtin.«frozenset.__contains__» aZc;simp only[List.isEmpty_nil,bind_assoc];refine au (aH ?_);refine au (aH ?_);try dsimp only
 refine au (wpAny_tryCatch ?_);refine fW (au ((strKind Rw.prog w).pyHash (ml ..) ?_));refine au (wpAny_setFind_of (ml ..) rfl J λr J=>?_);exact aH (rR J (aH (hR (λi=>bif bZ i 0 then s.heap.objs.size else s.toks+1) { s with toks:=s.toks+1 } rfl rfl rfl (λz J=>absurd J bi) ⟨H.h,H.os,H.gens,H.same⟩ λb o H J=>H)))
theorem DB{T:String}{B:Builtin}{rest:List ag}{o:Nat->ar}(H:yQ T name id)(J:mf gz id=some B)(args:lf id ⟨self::rest,[]⟩)(g:Meets (B ⟨self::rest,[]⟩) (λ_ R s=>R (.ok (.ret (.ref s.heap.objs.size))) { s with toks:=s.toks+n,heap:=s.heap.push (o s.toks) }))(Z:∀s:am,s.TypeIs self T)(ho:∀t,(o t).isFreed=false):Told ao (av w) A U fr aa (.call (.builtin id) ⟨self::rest,[]⟩) [] (λx=>⟨.ok (.ret (.ref (x 0))),[],[(x 0,o (x 1))],x 0+1,x 1+n⟩):=by intro u s ak R Y Y z hR;refine dK H.plain J (H.check _ _ _ _ _ _ _ _ (Z s) args (g _ _ _ _ s ?_));have H:s.heap.get? s.heap.objs.size=none:=wP (a8 _);refine hR (λi=>bif bZ i 0 then s.heap.objs.size else s.toks) _ (qv _ _) rfl rfl (λp Z=>?_) ⟨Y.h.alloc (ho _),Y.os,Y.gens,Y.same⟩ λb J J Y=>cZ _ J;exact rR (bI.mp Z) H
open PySem.Builtin.Str in
theorem aGm{x:Str}{v:ab}(J:(occurrences x "}" 0 x.length (w4 x 1)).isEmpty=true):Told ao (av w) A U fr aa (bC "str.split" [.str x t, .str "}" u, .int 1 v]) [] (λe=>⟨.ok (.ret (.ref (e 0))),[],[(e 0,listOf [ag.str x t].toArray 0)],e 0+1,e 1+0⟩):=by
 cases H:(decide (x.length<(("}":Str)).length)||decide (strKind x< strKind "}"))
 ·exact DB (o:=λz=>listOf [ag.str x t].toArray 0) XO XP (XQ ..) (meets_str_split_max_not_found x "}" 1 t u v rfl H rfl J) (λs=>ic ..) λz=>rfl
 ·exact DB (o:=λz=>listOf [ag.str x t].toArray 0) XO XP (XQ ..) (meets_str_split_max_cannot_occur x "}" 1 t u v rfl H) (λs=>ic ..) λz=>rfl
open PySem.Builtin.Str in
theorem aGn{x a b:Str}{v:ab}(Y:(decide (x.length<(("}":Str)).length)||decide (strKind x< strKind "}"))=false)(J:(occurrences x "}" 0 x.length (w4 x 1)).isEmpty=false)(H:partsBetween x (occurrences x "}" 0 x.length (w4 x 1)) (("}":Str)).length=[a,b])(Z:x.length<=1000):Told ao (av w) A U fr aa (bC "str.split" [.str x t, .str "}" u, .int 1 v]) [] (λe=>⟨.ok (.ret (.ref (e 0))),[],[(e 0,listOf [ag.str a (e 1), .str b (e 1+1)].toArray 0)],e 0+1,e 1+2⟩):=by have g:=meets_str_split_sep_max x "}" 1 t u v rfl Y rfl J (aE Z (by decide)) (H▸dk rfl);replace g:=H▸g;exact DB (o:=λe=>listOf [ag.str a e, .str b _].toArray 0) XO XP (XQ ..) g (λs=>ic ..) λz=>rfl
abbrev aGo(x:Str)(t u v:ab)(next:aM):aF:= .cons (some 0) (bC "str.split" [.str x t, .str "}" u, .int 1 v]) [] [] (λe=>⟨.ok (.ret (.ref (e 0))),[],[(e 0,listOf [ag.str x t].toArray 0)],e 0+1,e 1+0⟩) next
abbrev aGp(x a b:Str)(t u v:ab)(next:aM):aF:= .cons (some 0) (bC "str.split" [.str x t, .str "}" u, .int 1 v]) [] [] (λe=>⟨.ok (.ret (.ref (e 0))),[],[(e 0,listOf [ag.str a (e 1), .str b (e 1+1)].toArray 0)],e 0+1,e 1+2⟩) next
def laR(w:aj)(f H Z:Nat)(k:Str)(u:ab)(J:aF)(sz tk:Nat)(Y:Xs):=(aI w 1 0 none 300).S [] Y ⟨[(f,tW (H+5)),(H+5,lM H Z)],sz,tk,[3,0,1,1,1,0,1,2],J⟩ (call (.ref f) [.str k u]) fin
abbrev DC(s:Str):Str:=nc (⟨(s.cps.toList.take 6).toArray⟩)
abbrev P7(b:Bool)(x:Str)(t u v:ab):aF:=match b with
 |false=>aGo x t u v λ_=> .nil|true=>aGp x (DC x) cS t u v λ_=> .nil
abbrev DD(b:Bool)(k:Str)(u:ab)(e:Nat):Obj:=match b with
 |false=>listOf [ag.str k u].toArray 0|true=>listOf [ag.str (DC k) e, .str cS (e+1)].toArray 0
theorem aGq(w:aj)(b:Bool)(f J Y:Nat)(k:Str)(u:ab)(sz tk:Nat)(H:Xs):Ends [0,2,3] (laR w f J Y k u (P7 b k u (tk+1) (tk+2)) sz tk H) (.ok (.ref (H 0 0)),[(H 0 0,DD b k u (H 0 1)),(f,tW (J+5)),(J+5,lM J Y)].map some,H 0 0+1,H 0 1+(match b with|false=>0|true=>2)):=by induction b<;>kernel_rfl
open PySem.Builtin.Str in
def rj(b:Bool)(k:Str):Bool:=match b with
 |false=>(occurrences k "}" 0 k.length (w4 k 1)).isEmpty && decide (oH k=k)|true=>!(decide (k.length<(("}":Str)).length)||decide (strKind k< strKind "}")) && !(occurrences k "}" 0 k.length (w4 k 1)).isEmpty && decide (partsBetween k (occurrences k "}" 0 k.length (w4 k 1)) (("}":Str)).length=[DC k,cS]) && decide (k.length<=1000) && decide (oH k=DC k)
def Aw(sk:List Str):Bool:=sk.all λk=>rj false k||rj true k
theorem P8:Aw DA=true:=by decide+kernel
theorem IB{x:Nat}(h:x∈dS):Aw (Dz x)=true:=by unfold dS at h;simp only[a9,bi,or_false]at h;rcases h with rfl|rfl|rfl|rfl|rfl|rfl<;>decide+kernel
theorem aGr{b:Bool}{k:Str}{v z:ab}(h:rj b k=true):(P7 b k u v z).Ok ao (av w) A U none aa lv:=by
 induction b with
 |false=>simp only[rj,gy]at h;exact⟨rfl,bN,λH j j=>aGm h.1,λj j j=>True.intro⟩|true=>simp only[rj,gy,Bool.not_eq_true',decide_eq_true_eq]at h;exact⟨rfl,bN,λH j j=>aGn h.1.1.1.1 h.1.1.1.2 h.1.1.2 h.1.2,λj j j=>True.intro⟩
theorem aGs{b:Bool}{k:Str}{e:Nat}(h:rj b k=true):An (oH k) (DD b k u e):=by
 induction b with
 |false=>simp only[rj,gy,decide_eq_true_eq]at h;exact rR h.2 ⟨rfl,_,_,_,rfl,rfl⟩|true=>rw[rj,gy,decide_eq_true_eq]at h;exact rR h.2 ⟨rfl,_,_,_,rfl,rfl⟩
theorem aGt{m:Str->Option ag}{J:List (af×ar)}(X:aK w aa)(NL:aa.NoLimit)(hA:A.handled=none)(hd:A.depth+1<=bk){s0 t0:Nat}(m1:(f,tW (s0+5))∈J)(m2:(s0+5,lM s0 t0)∈J)(cB:f≠s0+5){sk:List Str}(hk:Aw sk=true):Io Rw.prog w A aa L m J oH sk (.ref f):=by
 intro k u J s' Q hks F N Hy aGu;obtain⟨b,hb⟩:∃b,rj b k=true:=by
  have:=r5.mp hk k hks;rcases (MA _ _).mp this with h|h
  ·exact⟨false,h⟩
  ·exact⟨true,h⟩
 have n1:=N _ (Hy _ m1);have n2:=N _ (Hy _ m2);refine wp_run ⟨⟨λp hp=>?_,?_,F.keep,λp hp=>?_⟩,rfl,aWm, .inr ⟨rfl,rfl⟩⟩ X hA 1 0 300 [3,0,1,1,1,0,1,2] [0,2,3] _ (λz=>aGr hb) (λz=>⟨NL,hd⟩) (a8 _) (by decide)
  _ (λσ=>[(σ 0 0,DD ..),(f,tW _),(s0+5,lM s0 t0)]) _ _ (λσ=>aGq ..) λσ Z bU J J G=>?_
 ·rcases a9.mp hp with rfl|hp
  ·exact n1.1
  ·exact rR (bI.mp hp) n2.1
 ·exact cj.mpr ⟨λh=>cB (bI.mp h),cj.mpr ⟨bi,bN⟩⟩
 ·rcases a9.mp hp with rfl|hp
  ·exact n1.2.2
  ·exact rR (bI.mp hp) n2.2.2
 ·have es:Z={ s' with heap:=Z.heap,toks:=Z.toks }:=by refine d8 (bU.same.resolve_left id) λg1 g2=>?_;obtain⟨j,j,j,j,j⟩:=Z;have J:=bU.os;simp only at g1 g2 J ⊢;simp only[g1,g2,J]
  have H:s'.heap.get? (σ 0 0)=none:=by
   rcases G.new _ ay with h|⟨q,hq,e⟩
   ·exact h
   ·have:=bU.h.nd;have J:=b7 (f:=(·.1)) hq;rw[e]at J;exact absurd J (cj.mp this).1
  have Y:∀c o,s'.heap.get? c=some o->Z.heap.get? c=some o:=λc o e=>by
   by_cases q1:f=c;·subst q1;replace e:=n1.1▸e;injection e with e;subst e;exact bU.h.at_ _ (aB ay)
   by_cases q2:s0+5=c;·subst q2;replace e:=n2.1▸e;injection e with e;subst e;exact bU.h.at_ _ (aB (aB ay))
   refine G.keep c o e λp hp=>?_;rcases a9.mp hp with rfl|hp
   ·exact q1
   ·exact rR (bI.mp hp) q2
  refine rR es (aGu _ (DD b k u (σ 0 1)) Z.heap Z.toks (F.keeps Y) (λp hp=>?_) (λp hp e=>?_) (aGs hb))
  ·rcases a9.mp hp with rfl|hp
   ·refine⟨bU.h.at_ _ ay,λe=>?_,bU.h.off _ ay⟩;refine mY F.ns λJ j j hL j=>?_;simp only[<-e,H]at hL;injection hL
   ·exact⟨Y _ _ (N p hp).1,(N p hp).2⟩
  ·have:=(N p hp).1;simp only[e,H]at this;injection this
theorem aGv{h:aw}{R:af}{m:Str->Option ag}{X Y:List (af×ar)}(Z:∀b o,aa.get? b=some o->h.get? b=some o)(n1:aa.get? L=none)(n2:aa.get? R=none)(H:L≠R)(F:Fr aa L h' m)(N:py aa L h' (X++others h aa L []))(J:py aa R h' (Y++others h aa R [])):∀b o,h.get? b=some o->h'.get? b=some o:=λb o e=>by
 induction z:aa.get? b with
 |some o'=>
  have:=Z _ _ z;replace this:=e▸this;injection this with this;subst this
  exact F.keep _ _ z
 |none=>
  by_cases q:b=L;·exact(J (b,o) (bD _ (vi.mpr ⟨e,λr=>H (q.symm.trans r),bi,z⟩))).1
  ·exact(N (b,o) (bD _ (vi.mpr ⟨e,q,bi,z⟩))).1
abbrev eD:Obj:=nc (⟨.type "dict",none, .dict #[] 0,#[]⟩)
abbrev IC(S f:Nat):Code:=nc (.call (.builtin "sorted") ⟨[.ref S],[("key", .ref f)]⟩)
def P9(sk:List Str)(pre:List (af×ar)):(Nat->Nat)->Out:=nc (λx=>⟨.ok (.ret (.ref (x 2))),pre,[(x 2,listOf (cF (sk.mapIdx λi k=>ag.str k (x (i+4)))) (x 3))],x 0,x 1⟩)
theorem Qa:∀{out:List ag}{sk:List Str},SV out sk->∃g:Nat->Nat,out=sk.mapIdx λi k=>ag.str k (g i):=by
 intro out sk h;induction h with
 |nil=>exact⟨λz=>0,rfl⟩|@cons k t vs ks sv ih=>obtain⟨g,rfl⟩:=ih;refine⟨λi=>match i with|0=>t|i+1=>g i,?_⟩;exact rR aWn rfl
theorem aGw{k:KX}(ok:k.Ok w)(hL:k.aa.objs.size<=k.L)(hd:k.dp+1<=bk)(hU:U+3< dQ)(aZ:∀b o,k.aa.get? b=some o->aq.get? b=some o){S R s0 t0:Nat}{oS:ar}{sk:List Str}(hS:f9 w ks oS)(ri:ks.Perm sk)(nf:Dx oH sk n)(Du:Aw sk=true)(hR:k.aa.objs.size<=R):Told True (av w) k.bE U (some k.L) aq (IC S f) [(S,oS),(f,tW (s0+5)),(s0+5,lM s0 t0),(R,eD)] (P9 sk [(S,oS),(f,tW (s0+5)),(s0+5,lM s0 t0),(R,eD)]):=by
 intro u s ak Rr hu Z jp hRr;obtain⟨⟨m,hm⟩,cB⟩:=jp k.L rfl;have ID:∀b o,k.aa.get? b=some o->s.heap.get? b=some o:=λb o e=>Z.h.keep _ _ (aZ b o e);have Qc:∀p∈[(S,oS),_,_,_],k.aa.get? p.1=none:=λp hp=>by
  have:=Z.h.off p hp;induction z:k.aa.get? p.1 with
  |none=>rfl|some o=>replace this:=(aZ _ _ z)▸this;cases this
 have aGx:=wP hL;obtain⟨m2,vQ⟩:=Ng (Z.h.at_ _ (aB (aB (aB ay)))) (by simp[nsOk]);have Qe:=(cB _ (aB (aB (aB ay)))).symm;have sub:∀p∈[(S,oS),_,_],p∈[(S,oS),(f,tW (s0+5)),(s0+5,lM s0 t0),_]:=λp hp=>bL [(R,eD)] hp;have nd:=Z.h.nd;simp only[iK,wR,cj,a9,bi,or_false,not_or]at nd;have mem:∀J,(∀p∈[(S,oS),_,_],p.1≠J)->∀p∈[(S,oS),_,_],p∈others s.heap k.aa J []:=λJ hl p hp=>
  vi.mpr ⟨Z.h.at_ p (sub p hp),hl p hp,bi,Qc p (sub p hp)⟩;have news:∀J,py k.aa J s.heap (others s.heap k.aa J []):=λJ p hp=>by
  have:=vi.mp hp;exact⟨this.1,this.2.1,this.2.2.2⟩
 let A':={ k.bE with units:=u }
 have key:∀J m',_->Fr k.aa J s.heap m'->eH (av w) A' (IC S f)
   (λr s'=>∃D e h' tk dr out,SV out sk/\Fr k.aa J h' m'/\py k.aa J h' ((D,listOf (cF out) e)::others s.heap k.aa J [])/\(∀p∈others s.heap k.aa J [],p.1< D)/\r= .ok (.ret (.ref D))/\s'={ s with heap:=h',toks:=tk,drawn:=dr }) s:=λJ m' hl F=>by
  refine aGe F (news J) rfl (b8 [lL (Y2+3) Y1,lE Y0 Y2] (lL (Y0+3) Y1) rfl hU hu) (mem J hl _ ay) hS nf ri (ksk_s1 _ _) (λx=>ksk_l1 _ _) (λx=>rfl) ?_ λD e h' tk dr out sv F' N' bp=>⟨D,e,h',tk,dr,out,sv,F',N',bp,rfl,rfl⟩;exact aGt ok.X ok.T.nolimit rfl (hd) (mem J hl _ (aB ay)) (mem J hl _ (aB (aB ay))) nd.2.1.1 Du
 have k2:=key R m2 (by simp only[a9,bi,or_false];rintro p (rfl|rfl|rfl);exact nd.1.2.2;exact nd.2.1.2;exact nd.2.2.1) (⟨vQ,ID,hR⟩);refine Ma (aE5 (key k.L m (λp hp=>cB p (sub p hp)) (⟨hm,ID,hL⟩)) k2) ?_;rintro r s' ⟨⟨D,e,h',tk,dr,out,sv,F',N',bp,rfl,rfl⟩,D2,e2,h2,J,J,J,J,J,N2',aGy,er,es⟩;obtain rfl:D=D2:=by simpa using er
 have eh:h2=h':=(congrArg Shared.heap es).symm;subst eh;have keep:=aGv ID aGx (Qc _ (aB (aB (aB ay)))) Qe F' (X:=[(D,listOf _ e)]) (N') (Y:=[(D,listOf _ e2)]) (N2');have ND:=N' _ ay;have H:s.heap.get? D=none:=by
  induction z:s.heap.get? D with
  |none=>rfl|some o=>
   by_cases q:D=k.L;·exact absurd (aGy (D,o) (vi.mpr ⟨z,λr=>Qe (q.symm.trans r),bi,ND.2.2⟩)) (jI _)
   ·exact absurd (bp (D,o) (vi.mpr ⟨z,q,bi,ND.2.2⟩)) (jI _)
 obtain⟨g,rfl⟩:=Qa sv;refine hRr (λi=>match i with|0=>h2.objs.size|1=>tk|2=>D|3=>e|i+4=>g i) { s with heap:=h2,toks:=tk,drawn:=dr } rfl rfl rfl (λp hp=>?_) ⟨⟨λp hp=>?_,?_,λb o J=>keep b o (Z.h.keep b o J),λp hp=>?_⟩,Z.os,Z.gens, .inl True.intro⟩ λb o J j=>keep b o J;·exact rR (bI.mp hp) H
 ·rcases a9.mp hp with rfl|hp
  ·exact ND.1
  ·exact keep _ _ (Z.h.at_ p hp)
 ·refine cj.mpr ⟨λhm=>?_,Z.h.nd⟩;refine aO (bq.mp hm) λp hp ep=>?_;have:=Z.h.at_ p hp;simp only[ep]at this;exact absurd (this.symm.trans H) (by simp)
 ·rcases a9.mp hp with rfl|hp
  ·induction z:aq.get? D with
   |none=>rfl|some o=>replace H:=(Z.h.keep _ _ z)▸H;cases H
  ·exact Z.h.off p hp
structure DE where
 k:Str
 t:ab
 v:ag
noncomputable abbrev DE.e(w:aj)(d:DE):DictEntry:=⟨aS w.params d.k, .str d.k d.t,d.v⟩
abbrev cE(w:aj)(l:List DE)(ep:Nat):Obj:=LZ (l.map (DE.e w)) ep
noncomputable abbrev fZ(l:List DE):List (Str×ag):=l.map λd=>(d.k,d.v)
theorem Qf(w:aj):∀(l:List DE),Pairs (lp Rw.prog w) (l.map (DE.e w)) (fZ l)
 |[]=> .nil|d::l=> .cons (ml ..) rfl (Qf w l)
theorem vW(w:aj)(l:List DE)(ep:Nat)(J:(l.map (·.k)).Nodup):(cE w l ep).IsDictOf (lp Rw.prog w) (fZ l):=by refine⟨_,_,⟨rfl,rfl,rfl⟩,rfl,λe Y=>?_,by simpa using Qf w l,by simp only[fZ,BH];exact J⟩;refine aO (bq.mp (F9.mp Y)) λd z H=>?_;subst H;exact⟨d.k,ml ..,rfl⟩
section
theorem aGz{l:List DE}{k:Str}{v:ag}(Y:(l.map (·.k)).Nodup)(Z:g7 (fZ l) k=some v):Told ao (av w) A U fr aa (bC "dict.__getitem__" [.ref D, .str k u]) [(D,cE w l ep)] (λx=>⟨.ok (.ret v),[(D,cE w l ep)],[],x 0,x 1+1⟩):=by intro u s ak R H H z hR;have J:=y5.mpr ⟨_,H.h.at_ _ ay,vW w l ep Y⟩;refine dK aWo.plain entry_dict_getitem (aWo.check _ _ _ _ _ _ _ _ J.typeIs (args_dict_getitem _ _) (meets_dict_getitem _ D (ml ..) _ R s ⟨_,v,J.mapOf,Z,?_⟩));exact hR (λi=>bif bZ i 0 then s.heap.objs.size else s.toks) _ rfl rfl rfl (λp J=>absurd J bi) ⟨H.h,H.os,H.gens,H.same⟩ λb o H J=>H
abbrev vX(i:Nat)(w:aj)(D:af)(l:List DE)(ep:Nat)(k:Str)(u:ab)(v:ag)(next:aM):aF:= .cons (some 0) (bC "dict.__getitem__" [.ref D, .str k u]) [i] [(D,cE w l ep)] (λx=>⟨.ok (.ret v),[(D,cE w l ep)],[],x 0,x 1+1⟩) next
theorem xS{i:Nat}{l:List DE}{k:Str}{v:ag}{next:aM}(H:(l.map (·.k)).Nodup)(J:g7 (fZ l) k=some v)(h:∀x lv,(next x).Ok ao (av w) A U fr aa lv):(vX i w D l ep k u v next).Ok ao (av w) A U fr aa lv:=⟨rfl,cj.mpr ⟨bi,bN⟩,λY z z=>aGz H J,λx z z=>h x _⟩
abbrev IE(d:af):Obj:=nc (⟨.type "dict_items",none, .fields #[.ref d],#[]⟩)
end
noncomputable abbrev AT.es(a:AT):List DE:=[⟨"n",a.kn, .str a.n a.tn⟩,⟨"c",a.kc, .str a.c a.tc⟩,⟨"s",a.ks, .str a.s a.ts⟩,⟨"l",a.kl, .str a.l a.tl⟩,⟨"h",a.kh, .str a.h a.th⟩]
abbrev lN(k:Str)(t:ab)(v:ag):Obj:=nc (⟨.type "tuple",none, .seq (cF [.str k t,v]) 0,#[]⟩)
abbrev xT(a:AT)(x:Nat->Nat):List (af×ar):=[(x 3,lN "n" (x 8) (.str a.n a.tn)),(x 4,lN "c" (x 9) (.str a.c a.tc)),(x 5,lN "s" (x 10) (.str a.s a.ts)),(x 6,lN "l" (x 11) (.str a.l a.tl)),(x 7,lN "h" (x 12) (.str a.h a.th))]
def Qg:List Nat:=(dN 82 0x6318c00000a8000003a000000880000029c00000870000031c00000860000031400000a6000002150839cc6294840842108020)
def itR(w:aj)(a:AT)(B:Nat)(x:Nat->Nat)(sz tk:Nat)(H:Xs):=(aI w 0 0 none 400).S [] H ⟨(B,listOf (cF [.ref (x 3), .ref (x 4), .ref (x 5), .ref (x 6), .ref (x 7)]) 0)::xT a x,sz,tk,Qg, .nil⟩ (call (.builtin "list.sort") [.ref B]) fin
abbrev IF(x:Nat->Nat):Obj:=nc (listOf (cF [.ref (x 4), .ref (x 7), .ref (x 6), .ref (x 3), .ref (x 5)]) 2)
theorem aG0(w:aj)(a:AT)(B:Nat)(x:Nat->Nat)(sz tk:Nat)(H:Xs):Ends [2,3,4,5,6,7] (itR w a B x sz tk H) (.ok .none,((B,IF x)::xT a x).map some,sz+2,tk):=by revert w;refine bW (λw=>?_) (λw=>?_)<;>kernel_rfl
theorem Ay{J:List af}(h:J.length=n+1):∃a H,J=a::H/\H.length=n:=by
 induction J using px with
 |nil=>injection h|cons a H=>exact⟨a,H,rfl,Nat.succ.inj h⟩
theorem aG1{H:List af}(h:H.length=5):∃a b c d e,H=[a,b,c,d,e]:=by refine c7 (Ay h) λa H J h=>?_;refine c7 (Ay h) λb H Y h=>?_;refine c7 (Ay h) λc H H h=>?_;refine c7 (Ay h) λd ds Z h=>?_;refine c7 (Ay h) λe es ee h=>?_;exact⟨a,b,c,d,e,by rw[J,Y,H,Z,ee,List.eq_nil_of_length_eq_zero h]⟩
abbrev IG(w:aj)(a:AT)(V:Nat):List (af×ar):=[(V,IE a.at_),(a.at_,cE w a.es a.ep)]
abbrev Qh(V:Nat):Code:=nc (.call (.builtin "sorted") ⟨[.ref V],[]⟩)
def Qi(w:aj)(a:AT)(V:Nat):(Nat->Nat)->Out:=λx=>⟨.ok (.ret (.ref (x 2))),IG w a V,(x 2,IF x)::xT a x,x 0,x 1⟩
theorem aG2(X:aK w aq)(hA:A.handled=none)(a:AT)(V:Nat):Told True (av w) A U fr aq (Qh V) (IG w a V) (Qi w a V):=by
 intro u s ak R hu J n hR;have hd:=y5.mpr ⟨_,J.h.at_ _ (aB ay),vW w a.es a.ep (by simp only[qH];decide+kernel)⟩;obtain⟨ep',ei⟩:=hd.dictAt;refine PS kind_sorted plain_sorted entry_sorted (args_sorted1 _) (au (aH ?_));refine au (kdx_collect (hA) ⟨_,J.h.at_ _ ay,rfl,rfl⟩ ei (dk rfl) λh' tk as hk hl Y=>?_);refine hO λci aY=>YG (aG1 hl) λa1 a2 a3 a4 a5 eq1=>?_;subst eq1;refine aY ?_;have H:∀j b,[a1,a2,a3,a4,a5][j]?=some b->∀k v,_[j]?=some (k,v)->∃t,h'.get? b=some (lN ..):=λj b e k v e2=>by refine MS (Y.pairs j b e) λkey k' v' e3 e4 e5=>?_;replace e3:=e2▸e3;cases e3;obtain⟨t,rfl⟩:=FY e4;exact⟨t,e5⟩
 refine hO λkB d5=>?_;obtain⟨t1,g1⟩:=H 0 a1 rfl _ _ rfl;obtain⟨t2,g2⟩:=H 1 a2 rfl _ _ rfl;obtain⟨t3,g3⟩:=H 2 a3 rfl _ _ rfl;obtain⟨t4,g4⟩:=H 3 a4 rfl _ _ rfl;obtain⟨t5,g5⟩:=H 4 a5 rfl _ _ rfl;refine d5 (au (wpAny_newList ?_ (dk rfl)));let x:Nat->Nat:=λi=>match i with|2=>h'.objs.size|3=>a1|4=>a2|5=>a3|6=>a4|7=>a5|8=>t1|9=>t2|10=>t3|11=>t4|12=>t5|_=>0
 have Z:∀p∈xT a x,h'.get? p.1=some p.2/\s.heap.objs.size< p.1:=λp hp=>by
  simp only[a9,bi,or_false]at hp;rcases hp with rfl|rfl|rfl|rfl|rfl
  ·exact⟨g1,Y.above a1 ay⟩
  ·exact⟨g2,Y.above a2 (aB ay)⟩
  ·exact⟨g3,Y.above a3 (aB (aB ay))⟩
  ·exact⟨g4,Y.above a4 (aB (aB (aB ay)))⟩
  ·exact⟨g5,Y.above a5 (aB (aB (aB (aB ay))))⟩
 have k2:∀b o,s.heap.get? b=some o->(h'.push (sr "list" (cF ([a1,a2,a3,a4,a5].map aN)) 0)).get? b=some o:=λb o e=>cZ _ (hk b o e);have hB:=y4 (Z _ ay).2 (dJ (Z _ ay).1);have Qj:∀b,s.heap.objs.size<=b->aq.get? b=none:=λb hb=>by
  induction z:aq.get? b with
  |none=>rfl|some o=>exact absurd (dJ (J.h.keep _ _ z)) (dA.mpr hb)
 have Ad:ax True aq ak ((x 2,listOf (cF [.ref (x 3), .ref (x 4), .ref (x 5), .ref (x 6), .ref (x 7)]) 0)::xT a x) { s with heap:=h'.push (sr "list" (cF ([a1,a2,a3,a4,a5].map aN)) 0),toks:=tk }:=by
  refine⟨⟨λp hp=>?_,?_,λb o e=>k2 b o (J.h.keep b o e),λp hp=>?_⟩,J.os,J.gens, .inl True.intro⟩
  ·rcases a9.mp hp with rfl|hp
   ·exact gZ _ rfl
   ·exact cZ _ (Z p hp).1
  ·refine cj.mpr ⟨λH=>?_,?_⟩;·exact aO (bq.mp H) λp hp e=>absurd e (dw (dJ (Z p hp).1))
   ·exact Y.rise.imp λh=>dw h
  ·rcases a9.mp hp with rfl|hp
   ·exact Qj _ (cT hB)
   ·exact Qj _ (cT (Z p hp).2)
 refine au (fW ?_);refine wp_run Ad X (hA) 0 0 400 Qg [2,3,4,5,6,7] .nil (λm=>True.intro) nofun (a8 _) (by decide) _ _ _ _ (λH=>aG0 w a (x 2) ..) λH s' bU hz H G=>aH ⟨_,rfl,?_⟩
 have kp:∀b o,s.heap.get? b=some o->s'.heap.get? b=some o:=λb o e=>by
  refine G.keep b o (k2 b o e) λp hp q=>?_;have bp:=dJ e;rcases a9.mp hp with rfl|hp
  ·exact absurd q (jd (y4 bp hB))
  ·exact absurd q (jd (y4 bp (Z p hp).2))
 have low:∀p∈(x 2,IF x)::xT a x,s.heap.objs.size<=p.1:=λp hp=>by
  rcases a9.mp hp with rfl|hp
  ·exact cT hB
  ·exact cT (Z p hp).2
 refine hR (λi=>match i with|0=>s'.heap.objs.size|1=>s'.toks|i=>x i) s' rfl rfl rfl (λp hp=>wP (low p hp)) ⟨⟨λp hp=>?_,?_,bU.h.keep,λp hp=>?_⟩,bU.os,bU.gens, .inl True.intro⟩ λb o e m=>kp b o e
 ·rcases cr.mp hp with hp|hp
  ·exact bU.h.at_ p hp
  ·exact kp _ _ (J.h.at_ p hp)
 ·rw[bM,fj];refine⟨bU.h.nd,J.h.nd,λy H z hz e=>?_⟩;refine aO (bq.mp H) λp hp eq2=>?_;subst eq2;refine aO (bq.mp hz) λq hq eq3=>?_;subst eq3;exact absurd e (jd (qr (J.h.low q hq) (low p hp)))
 ·rcases cr.mp hp with hp|hp
  ·exact bU.h.off p hp
  ·exact J.h.off p hp
section
variable {l:List DE}{next:aM}
theorem aG3(Z:(l.map (·.k)).Nodup)(Y:(D==ie)=false):Told ao (av w) A U fr aa (bC "dict.items" [.ref D]) [(D,cE w l ep)] (λx=>⟨.ok (.ret (.ref (x 0))),[(D,cE w l ep)],[(x 0,IE D)],x 0+1,x 1⟩):=by intro u s ak R H H z hR;have J:=y5.mpr ⟨_,H.h.at_ _ ay,vW w l ep Z⟩;have Z:s.heap.get? s.heap.objs.size=none:=wP (a8 _);refine dK aWp.plain PySem.F.entry_dict_items (aWp.check _ _ _ _ _ _ _ _ J.typeIs (PySem.F.args_dict_items_1 _) (meets_dict_items _ D Y _ R s ⟨⟨_,J⟩,?_⟩));refine hR (λi=>bif bZ i 0 then s.heap.objs.size else s.toks) _ (qv _ _) rfl rfl (λp J=>?_) ⟨H.h.alloc rfl,H.os,H.gens,H.same⟩ λb o H Y=>cZ _ H;exact rR (bI.mp J) Z
abbrev Qk(i:Nat)(w:aj)(D:af)(l:List DE)(ep:Nat)(next:aM):aF:= .cons (some 0) (bC "dict.items" [.ref D]) [i] [(D,cE w l ep)] (λx=>⟨.ok (.ret (.ref (x 0))),[(D,cE w l ep)],[(x 0,IE D)],x 0+1,x 1⟩) next
theorem aG4{i:Nat}(H:(l.map (·.k)).Nodup)(J:(D==ie)=false)(h:∀x lv,(next x).Ok ao (av w) A U fr aa lv):(Qk i w D l ep next).Ok ao (av w) A U fr aa lv:=⟨rfl,cj.mpr ⟨bi,bN⟩,λY z z=>aG3 H J,λx z z=>h x _⟩
theorem aG5{k:Str}(Z:(l.map (·.k)).Nodup)(Y:(D==ie)=false):Told ao (av w) A U fr aa (bC "dict.get" [.ref D, .str k u]) [(D,cE w l ep)] (λx=>⟨.ok (.ret ((g7 (fZ l) k).getD .none)),[(D,cE w l ep)],[],x 0,x 1+1⟩):=by intro u s ak R H H z hR;have J:=y5.mpr ⟨_,H.h.at_ _ ay,vW w l ep Z⟩;refine dK MB.plain aWq (MB.check _ _ _ _ _ _ _ _ J.typeIs (PySem.F.args_dict_get_2 _ _) (meets_dict_get _ D (ml ..) Y _ R s ⟨_,J.mapOf,?_⟩));exact hR (λi=>bif bZ i 0 then s.heap.objs.size else s.toks) _ rfl rfl rfl (λp J=>absurd J bi) ⟨H.h,H.os,H.gens,H.same⟩ λb o H J=>H
abbrev Ql(i:Nat)(w:aj)(D:af)(l:List DE)(ep:Nat)(k:Str)(u:ab)(v:ag)(next:aM):aF:= .cons (some 0) (bC "dict.get" [.ref D, .str k u]) [i] [(D,cE w l ep)] (λx=>⟨.ok (.ret v),[(D,cE w l ep)],[],x 0,x 1+1⟩) next
theorem aG6{i:Nat}{k:Str}{v:ag}(H:(l.map (·.k)).Nodup)(Y:(D==ie)=false)(J:(g7 (fZ l) k).getD .none=v)(h:∀x lv,(next x).Ok ao (av w) A U fr aa lv):(Ql i w D l ep k u v next).Ok ao (av w) A U fr aa lv:=⟨rfl,cj.mpr ⟨bi,bN⟩,λZ z z=>J▸aG5 H Y,λx z z=>h x _⟩
theorem aG7(Z:(l.map (·.k)).Nodup)(Y:(D==ie)=false)(J:(fZ l).length=k)(hz:k<=1001):Told ao (av w) A U fr aa (.builtin "len" ⟨[.ref D],[]⟩) [(D,cE w l ep)] (λx=>⟨.ok (.ret (.int k (x 2))),[(D,cE w l ep)],[],x 0,x 1⟩):=by
 intro u s ak R hu H j hR;refine qw WE ?_;have bp:((fZ l).length:Int)< 2 ^ 63:=by exact rR J (iB [(k:Nat)] [lE Y0 1001] (lL Y0 9223372036854775808) rfl (bK.mpr hz))
 refine pA (PySem.wpAny_len_body_dict (Q:=λr s'=>r= .int k _/\s'={ s with toks:=s.toks+1+1 }) Y (y5.mpr ⟨_,H.h.at_ _ ay,vW w l ep Z⟩) bp ⟨rR J rfl,rfl⟩) (λJ s' h'=>?_) λz z e=>e;obtain⟨r,rfl,rfl,rfl⟩:=h';exact hR (λi=>bif bZ i 0 then s.heap.objs.size else bif bZ i 1 then s.toks+1+1 else s.toks+1) _ rfl rfl rfl (λp J=>nomatch J) ⟨H.h,H.os,H.gens,H.same⟩ λb o H J=>H
abbrev Qm(i:Nat)(w:aj)(D:af)(l:List DE)(ep k:Nat)(next:aM):aF:= .cons (some 0) (.builtin "len" ⟨[.ref D],[]⟩) [i] [(D,cE w l ep)] (λx=>⟨.ok (.ret (.int k (x 2))),[(D,cE w l ep)],[],x 0,x 1⟩) next
theorem aG8{i:Nat}(H:(l.map (·.k)).Nodup)(Y:(D==ie)=false)(J:(fZ l).length=k)(Z:k<=1001)(h:∀x lv,(next x).Ok ao (av w) A U fr aa lv):(Qm i w D l ep k next).Ok ao (av w) A U fr aa lv:=⟨rfl,cj.mpr ⟨bi,bN⟩,λA' z z=>aG7 H Y J Z,λx z z=>h x _⟩
end
def vY(e:cY):PySem.Expr:=xE (xE e 0) 0
def xU(e:cY):Pos:=(xE e 0).pos
def vZ(e:cY):List PySem.Expr:=(eE e).drop 1
def tX(e:cY):Pos:=nc (e.pos)
def exE(b:List cq):PySem.Expr:=pE b[0]? 0
noncomputable def DG(o:cY)(nm:Str)(ap pos:d6)(args:List cY)(env:lb):=do
 let ov <-attributeBase o nm env (fy o env)
 Ga ap.atName
 let (f,first) <-Gb [ov] (calleeOf (aWr (args.length+([]:List XR).length) (y6 pos (w5 args env)) (y7 pos (y8 [] env))) o env ov nm)
 let cp <-methodCallPos (aWr (args.length+([]:List XR).length) (y6 pos (w5 args env)) (y7 pos (y8 [] env))) o env ap pos
 let a <-Gb (f::first) (evalArgs f true (y6 pos (w5 args env)) (y7 pos (y8 [] env)))
 Ga cp
 let k <-keeperOf f
 pure (f,first++a.pos,a.kw,k)
def postC(pos:d6)(args:List cY)(env:lb)(q:ag×List ag×List (Str×ag)×Keeper):cb Value:=do
 let H:=(y6 pos (w5 args env)).any (·.1)||(y7 pos (y8 [] env)).any (·.1.isNone)
 let r <-match q.2.2.2,H with
  | .frame,true=>MC starredCall q.1 q.2.1 q.2.2.1| .frame,false=>if(y6 pos (w5 args env)).length+2*(y7 pos (y8 [] env)).length>30 then call q.1 q.2.1 q.2.2.1 else MC plainCall q.1 q.2.1 q.2.2.1| .boundFrame,false=>if(y6 pos (w5 args env)).length+2*(y7 pos (y8 [] env)).length>30 then call q.1 q.2.1 q.2.2.1 else MC callOfAMethodObject q.1 q.2.1 q.2.2.1| .machine,false=>call q.1 q.2.1 q.2.2.1|_,_=>operate (q.1::(if H then q.2.1.reverse else q.2.1)++q.2.2.1.map (·.2)) (call q.1 q.2.1 q.2.2.1)
 Gb [r] point
 pure r
theorem Qo(o:cY)(nm:Str)(ap pos:d6)(args:List cY)(env:lb):fy (.Call (.Attribute o nm ap) args [] pos) env=DG o nm ap pos args env>>=postC pos args env:=by simp only[arm_eval_Call];unfold methodCall callWith DG postC;simp only[bind_assoc,pure_bind];rfl
theorem Az(l:af)(vs:List ag)(y:ag)(e:Nat)(t:ab):Told ao (av w) A U fr aa (bC "list.__getitem__" [.ref l, .int (-1) t]) [(l,listOf (vs++[y]).toArray e)] (λx=>⟨.ok (.ret y),[(l,listOf (vs++[y]).toArray e)],[],x 0,x 1⟩):=by
 intro u s ak R hu H z Z;have J:=H.h.at_ _ ay;have Y:s.heap.IsList l (vs++[y]).toArray:=⟨_,J,rfl,e,rfl⟩
 refine dK BU.plain W7 (BU.check _ _ _ _ _ _ _ _ Y.typeIs (W8 _ _) ?_);show aG _ _ (W9 _>>=_) ..;refine au (aWs (fitsIndex_neg (by decide) (by decide)) ?_);refine au (au ?_);refine au (wS J rfl (aH (aH ?_)));have J:pC (-1) (vs++[y]).toArray.size=some vs.length:=by refine rR (PySem.seqIndex_neg (by decide) (by simp;exact iB [(vs.length:Nat)] [lE 0 Y0] (lE 1 (Y0+1)) rfl (bG _))) (rR pz (rR bQ ?_));congr 1;simp;exact rR (Int.add_comm _ 1 ..) (rR (Int.neg_add_cancel_left ..) (wV _))
 have Y:(vs++[y]).toArray[vs.length]?=some y:=by simp
 refine rR J (rR (Mf ..) (rR (Y ..) (rR (F8 ..) ?_)));exact aH (Z (λi=>bif bZ i 0 then s.heap.objs.size else s.toks) s rfl rfl rfl (λp J=>absurd J bi) ⟨H.h,H.os,H.gens,H.same⟩ λb o H J=>H)
abbrev xV(i:Nat)(l:af)(vs:List ag)(y:ag)(e:Nat)(t:ab)(next:aM):aF:= .cons (some 0) (bC "list.__getitem__" [.ref l, .int (-1) t]) [i] [(l,aA (vs++[y]) e)] (λx=>⟨.ok (.ret y),[(l,aA (vs++[y]) e)],[],x 0,x 1⟩) next
theorem aG9(l:af)(vs:List ag)(v:ag)(e:Nat)(Z:vs.length<=1000):Told ao (av w) A U fr aa (.builtin "list.append" ⟨[.ref l,v],[]⟩) [(l,listOf vs.toArray e)] (λx=>⟨.ok (.ret .none),[(l,listOf (vs++[v]).toArray (e+1))],[],x 0,x 1⟩):=by intro u s ak R J H j hR;refine qw aUi ?_;show aG _ _ (updateSeq l _>>=λz=>ret .none) ..;have ku:vs.toArray.size<=sizeLine:=aE Z (by decide);refine au (FB (H.h.at_ _ ay) rfl (aH ?_) ku (by rw[aUj];omega));have J:=H.h.update (i:=0) (f:=λo=>o.mapSeq (·.push v)) rfl rfl;have Y:lc l s.heap (s.heap.update l λo=>o.mapSeq (·.push v)):=ib ..;have e1:mT _ _=listOf (vs++[v]).toArray (e+1):=rL (aUk ..) (mapSeq_push ..);replace J:f5 aa [(l,mT _ _)] _:=J;rw[e1]at J;exact hR (λi=>bif bZ i 0 then s.heap.objs.size else s.toks) _ Y.1 rfl rfl (λp Z=>nomatch Z) ⟨J,H.os,H.gens,H.same⟩ λb o J H=>(Y.2 b (H _ ay).symm).trans J
abbrev rk(i:Nat)(l:af)(vs:List ag)(e:Nat)(v:ag)(next:aM):aF:= .cons (some 0) (.builtin "list.append" ⟨[.ref l,v],[]⟩) [i] [(l,aA vs e)] (λx=>⟨.ok (.ret .none),[(l,aA (vs++[v]) (e+1))],[],x 0,x 1⟩) next
theorem v5{i:Nat}{l:af}{e:Nat}{v:ag}{next:aM}(H:vs.length<=1000)(h:∀x lv,(next x).Ok ao (av w) A U fr aa lv):(rk i l vs e v next).Ok ao (av w) A U fr aa lv:=⟨rfl,cj.mpr ⟨bi,bN⟩,λJ J z=>aG9 l vs v e H,λx z z=>h x _⟩
abbrev qB:List Stmt:=bodyOf uY.1
abbrev qE(L:af):Env:=mD uY.1 90 L
def tY:FuncData:=match uY.1.data with
 | .func f=>f|_=>default
def Qp(s:Option cq):cY×cY×List cq×Pos:=(pE s 0,pE s 1,pB s 0,(oS s).pos)
def cI(j:Bool):cY×cY×List cq×Pos:=match j with
 |false=>Qp (qB[2]?)|true=>Qp (qB[5]?)
theorem Qr:qB=qB.take 2++ .For (cI false).1 (cI false).2.1 (cI false).2.2.1 [] (cI false).2.2.2::((qB.take 5).drop 3++ .For (cI true).1 (cI true).2.1 (cI true).2.2.1 [] (cI true).2.2.2::qB.drop 6):=by kernel_rfl
abbrev qIt(e:cY)(nm:Str):=aZd (.Attribute (vY e) nm (xU e)) (vZ e) [] (tX e)
theorem aHa(j:Bool):(cI j).2.1=qIt (cI j).2.1 "_iter_namespaces":=by induction j<;>kernel_rfl
abbrev DH:PySem.Expr:=exE ((cI false).2.2.1.drop 1)
abbrev TG.p1(G:TG)(w:aj)(ta:Nat)(aX:List ag)(aQ:Nat):List (af×ar):=[(ta,aA aX aQ),(G.tg,dX 150 G.td),(G.td,fp w G.wr G.b G.rs G.rn G.dl G.ds G.ns G.pm G.ps G.ti G.ep G.kt),(G.ds,aA ((G.cU.map λl=>aN l.a)++[aN ta]) G.dep),(G.ns,aA (G.aL.map λl=>aN l.a) G.ej)]
variable {p1:Prop}
abbrev qK(w:aj)(n:Str)(t:ab)(v:ag):DictEntry:=nc (⟨aS w.params n, .str n t,v⟩)
abbrev DI(w:aj)(L tg k:Nat)(x:Str)(t:ab):af×Obj:=(L,⟨.type "frame",none, .dict (cF [qK w "self" k (.ref tg),qK w "qname" (k+1) (.str x t),qK w "uri" (k+2) .none]) 3,#[]⟩)
structure QV where
 k:Nat->ab
 U:Str
 tU:ab
 T:Str
 tT:ab
 sa:Nat
 u:Str
 tu:ab
 p:Str
 tp:ab
abbrev QV.l(f:QV)(w:aj)(tg:Nat)(x:Str)(t:ab):List DictEntry:=[qK w "self" (f.k 0) (.ref tg),qK w "qname" (f.k 1) (.str x t),qK w "uri" (f.k 2) (.str f.U f.tU),qK w "tag" (f.k 3) (.str f.T f.tT),qK w "prefixes_seen" (f.k 4) (.ref f.sa)]
def qF(w:aj)(L tg:Nat)(x:Str)(t:ab)(κ:Bool)(f:QV):af×Obj:=(L,⟨.type "frame",none,match κ with
 |false=> .dict (f.l w tg x t).toArray 5|true=> .dict (f.l w tg x t++[qK w "u" (f.k 5) (.str f.u f.tu),qK w "prefix" (f.k 6) (.str f.p f.tp)]).toArray 7,#[]⟩)
abbrev eu(d:k7):Obj:=nc (⟨.type "set",none,d,#[]⟩)
abbrev xW(a b:ag):Obj:=nc (⟨.type "slice",none, .fields #[a,b, .none],#[]⟩)
abbrev v6(x r:Str)(t:ab)(D:af)(o:ar)(next:aM):aF:= .cons (some 0) (bC "str.__getitem__" [.str x t, .ref D]) [0] [(D,o)] (λe=>⟨.ok (.ret (.str r (e 2))),[(D,o)],[],e 0,e 1⟩) next
abbrev Qt(z a b:Str)(t u v:ab)(next:aM):aF:= .cons (some 0) (bC "str.rsplit" [.str z t, .str "}" u, .int 1 v]) [] [] (λe=>⟨.ok (.ret (.ref (e 0))),[],[(e 0,listOf [ag.str a (e 1), .str b (e 1+1)].toArray 0)],e 0+1,e 1+2⟩) next
abbrev AB(H:af)(d:k7)(k:Str)(t:ab)(b:Bool)(next:aM):aF:= .cons (some 0) (bC "set.__contains__" [.ref H, .str k t]) [1] [(H,eu d)] (λx=>⟨.ok (.ret (.bool b)),[(H,eu d)],[],x 0,x 1⟩) next
abbrev Qu(l:af)(vs:List ag)(y:ag)(e:Nat)(t:ab)(next:aM):aF:= .cons (some 0) (bC "list.__getitem__" [.ref l, .int (-1) t]) [4] [(l,aA (vs++[y]) e)] (λx=>⟨.ok (.ret y),[(l,aA (vs++[y]) e)],[],x 0,x 1⟩) next
def DJ(w:aj):Nat:=nc (match w.params.followText "fstring-hands-on-the-str" with
 |false=>3|true=>5)
section
variable (w:aj)(G:TG)(κ j:Bool)(f:QV)(e:NE)(q:Str)(t:ab)(x y L k sz tk ta aQ:Nat)(aX:List ag)(d:k7)(ro:List (af×ar))(σ:Xs)
theorem q_F:(K w.params).lookup 90=some ⟨uY.1.cls,uY.1.dict, .func tY,uY.1.slots⟩:=by kernel_rfl
theorem q_b:bA ((aI w 0 0 none 400).S [] σ ⟨G.p1 w ta aX aQ++ro,sz,tk,[0], .nil⟩ (md tY ⟨[.ref G.tg, .str q t],[]⟩) fin) (.ok [("self", .ref G.tg),("qname", .str q t),("uri", .none)],G.p1 w ta aX aQ++ro,sz,tk):=by kernel_rfl
theorem q_n:bA ((aI w 0 0 none 400).S [] σ ⟨G.p1 w ta aX aQ++ro,sz,tk,[1,1,1,1,1,1], .nil⟩ (me tY.scope tY.globals tY.closure [("self", .ref G.tg),("qname", .str q t),("uri", .none)] (tY.qualname++".<locals>.") (some 90) tY.code none tY.builtins) fin) (.ok (qE sz),[DI w sz G.tg tk q t]++(G.p1 w ta aX aQ++ro),sz+1,tk+3):=by kernel_rfl
abbrev Qv(k a:Nat):Nat->Tok:=nc (λi=>match i with|0=>k|1=>k+1|2=>k+2|3=>a|_=>a+1)
abbrev II(w:aj):Data:=nc (.set #[] 0 (.fresh 0 0 (!w.params.followText "set-order")))
theorem aHb:Ends [6,0] ((aI w 0 0 none 600).S [] σ ⟨[DI w L G.tg k ⟨#[y]⟩ t],sz,tk,(dN 62 0xe7084010802100000000c63182108821004010844108020084220840100420083e108442f8821),v6 ⟨#[y]⟩ ⟨#[y]⟩ t sz (xW .none (.int 1 tk)) λa=>cC ⟨#[y]⟩ "{" (a 2) (a 1) false λ_=> .nil⟩ (aV (qB.take 2) (qE L)) fin) (.ok .next,[qF w L G.tg ⟨#[y]⟩ t false ⟨Qv k (σ 1 1+2),"",σ 1 1,⟨#[y]⟩,t,σ 1 0+4,"",0,"",0⟩,(σ 1 0+4,eu (II w))].map some,σ 1 0+5,σ 1 1+4):=by kernel_rfl
theorem aHc(z:Str):Ends [7,0] ((aI w 0 0 none 600).S [] σ ⟨[DI w L G.tg k (iv x) t],sz,tk,(dN 64 0x4202100420084000000039ce70842208401004211042008021088210040108020f842110842f8821),v6 (iv x) "{" t sz (xW .none (.int 1 tk)) λa=>cC "{" "{" (a 2) (a 1) true λb=>v6 (iv x) z t (b 0) (xW (.int 1 (b 1)) .none) λc=>Qt z (bv x) cS (c 2) (c 1) (c 1+1) λ_=> .nil⟩ (aV (qB.take 2) (qE L)) fin) (.ok .next,[qF w L G.tg (iv x) t false ⟨Qv k (σ 3 1+3),bv x,σ 3 1,cS,σ 3 1+1,σ 3 0+4,"",0,"",0⟩,(σ 3 0+4,eu (II w))].map some,σ 3 0+5,σ 3 1+5):=by kernel_rfl
abbrev qkU(κ:Bool)(k:Nat->ab)(tk:Nat):Nat->Tok:=nc (match κ with
 |true=>k|false=>λi=>match i with|5=>tk|6=>tk+1|i=>k i)
theorem aHd:Ends [3,4] ((aI w 0 0 none 600).S [] σ ⟨[qF w L G.tg q t κ f,(e.t,fB e)],sz,tk,(dN 40 0x21084084230840100421184200802108c210040108040f8842), .nil⟩ (pF (cI j).1 (qE L) (.ref e.t)) fin) (.ok (),[qF w L G.tg q t true { f with k:=qkU κ f.k tk,u:=e.u,tu:=e.tu,p:=e.p,tp:=e.tp },(e.t,fB e)].map some,sz+3,tk+2):=by induction j<;>induction κ<;>kernel_rfl
theorem aHe:Ends [0] ((aI w 0 0 none 600).S [] σ ⟨[qF w L G.tg q t true f],sz,tk,[1,1,777,2],cC f.u f.U f.tu f.tU false λ_=> .nil⟩ (aV ((cI j).2.2.1.take 1) (qE L)) fin) (.ok .next,[qF w L G.tg q t true f].map some,σ 0 0,σ 0 1):=by induction j<;>kernel_rfl
theorem aHf(H:f.U=bv x/\f.T=cS/\f.p=⟨#[x]⟩):bA ((aI w 0 0 none 600).S [] σ ⟨[qF w L G.tg q t true f,(f.sa,eu d)],sz,tk,(dN 17 0x108420000221082117c21),cC f.u f.U f.tu f.tU true λ_=>AB f.sa d f.p f.tp false λ_=> .nil⟩ (aV (cI false).2.2.1 (qE L)) fin) (.ok (.ret (.ref (σ 1 0))),[(σ 1 0,tM (iw x) cS (bv x) (σ 1 1+DJ w) f.tT f.tU),qF w L G.tg q t true f,(f.sa,eu d)],σ 1 0+1,σ 1 1+(DJ w+1)):=by obtain⟨k,U,J,T,J,J,u,J,p,J⟩:=f;obtain⟨rfl,rfl,rfl⟩:=H;revert w;refine byRow2 "fstring-hands-on-the-str" (λw=>?_) (λw=>?_)<;>kernel_rfl
theorem aHg(H:f.U=bv x/\f.T=cS/\f.p=⟨#[x]⟩):bA ((aI w 0 0 none 600).S [] σ ⟨qF w L G.tg q t true f::G.p1 w ta aX aQ,sz,tk,(dN 42 0x4210800008430042210840114a50008018c0000c000006117c21),cC f.u f.U f.tu f.tU true λa=>Qu G.ds (G.cU.map λl=>aN l.a) (.ref ta) G.dep (a 1+1+1) λb=>rk 2 ta aX aQ (.ref (b 0)) λ_=> .nil⟩ (aV (cI true).2.2.1 (qE L)) fin) (.ok (.ret (.ref (σ 2 0))),(σ 2 0,tM (iw x) cS (bv x) (σ 2 1+DJ w) f.tT f.tU)::(σ 1 0,⟨.type "tuple",none, .seq #[.str (bv x) f.tU, .str ⟨#[x]⟩ f.tp] 0,#[]⟩)::qF w L G.tg q t true f::G.p1 w ta (aX++[.ref (σ 1 0)]) (aQ+1),σ 2 0+1,σ 2 1+(DJ w+1)):=by obtain⟨k,U,J,T,J,J,u,J,p,J⟩:=f;obtain⟨rfl,rfl,rfl⟩:=H;revert w;refine byRow2 "fstring-hands-on-the-str" (λw=>?_) (λw=>?_)<;>kernel_rfl
theorem aHh(H:f.U=""/\f.T=⟨#[y]⟩):bA ((aI w 0 0 none 600).S [] σ ⟨qF w L G.tg q t κ f::(f.sa,eu d)::G.p1 w ta aX aQ,sz,tk,(dN 25 0x10844210400004a0210000100000081),AB f.sa d "" (tk+1+1+1) false λ_=> .nil⟩ (aV ((qB.take 5).drop 3) (qE L)) fin) (.ok (.ret (.ref (σ 0 0))),(σ 0 0,tM ⟨#[y]⟩ ⟨#[y]⟩ "" f.tT f.tT f.tU)::qF w L G.tg q t κ f::(f.sa,eu d)::G.p1 w ta aX aQ,σ 0 0+1,σ 0 1):=by obtain⟨k,U,J,T,J,J,u,J,p,J⟩:=f;obtain⟨rfl,rfl⟩:=H;induction κ<;>kernel_rfl
theorem aHi(H:f.U=bv x):bA ((aI w 0 0 none 600).S [] σ ⟨qF w L G.tg q t κ f::G.p1 w ta aX aQ,sz,tk,(dN 18 0x48018c0000c0000061), .nil⟩ (aV ((qB.take 5).drop 3) (qE L)) fin) (.ok .next,qF w L G.tg q t κ f::G.p1 w ta aX aQ,sz,tk+3):=by obtain⟨k,U,J,T,J,J,u,J,p,J⟩:=f;obtain rfl:=H;induction κ<;>kernel_rfl
theorem aHj:bA ((aI w 0 0 none 600).S [] σ ⟨[qF w L G.tg q t κ f,(G.tg,dX 150 G.td),(G.td,fp w G.wr G.b G.rs G.rn G.dl G.ds G.ns G.pm G.ps G.ti G.ep G.kt)],sz,tk,(dN 31 0x6010800008000004118800000400004000041), .nil⟩ (DG (vY (cI j).2.1) "_iter_namespaces" (xU (cI j).2.1) (tX (cI j).2.1) (vZ (cI j).2.1) (qE L)) fin) (.ok (.ref 75,[.ref G.tg, .ref (bif j then G.ns else G.ds)],[], .frame),[qF w L G.tg q t κ f,(G.tg,dX 150 G.td),(G.td,fp w G.wr G.b G.rs G.rn G.dl G.ds G.ns G.pm G.ps G.ti G.ep G.kt)],sz,tk+1):=by induction j<;>induction κ<;>kernel_rfl
theorem aHk:Ends [0,1] ((aI w 0 0 none 600).S [] σ ⟨[qF w L G.tg q t true f,(f.sa,eu d)],sz,tk,[1,2,2,2,2,1], .nil⟩ (DG (vY DH) "add" (xU DH) (tX DH) (vZ DH) (qE L)) fin) (.ok (.builtin "set.add",[.ref f.sa, .str f.p f.tp],[], .machine),[qF w L G.tg q t true f,(f.sa,eu d)].map some,sz,tk):=by kernel_rfl
theorem aHl(a b:ag):postC (tX (cI j).2.1) (vZ (cI j).2.1) (qE L) (.ref 75,[a,b],[], .frame)=(MC plainCall (.ref 75) [a,b] [] >>=λr=>Gb [r] point>>=λ_=>pure r):=by induction j<;>kernel_rfl
end
section
theorem aHm{x r:Str}(l u:Option (Int×ab))(Y:∀(Q:ag->am->Prop)(s:am),(∀J k,Q (.str r J) { s with toks:=k })->(Mb x t l u none).post Q s):Told ao (av w) A U fr aa (bC "str.__getitem__" [.str x t, .ref D]) [(D,xW (B3 l) (B3 u))] (λe=>⟨.ok (.ret (.str r (e 2))),[(D,xW (B3 l) (B3 u))],[],e 0,e 1⟩):=by intro un s ak R hu H z Z;refine dK FL.plain WY (FL.check _ _ _ _ _ _ _ _ (ic ..) (WZ _ _) (aVf x t D l u none rfl _ _ _ _ s ⟨(⟨_,H.h.at_ _ ay,rfl,rfl⟩),Y _ s λJ k=>?_⟩));exact Z (λi=>bif bZ i 0 then s.heap.objs.size else bif bZ i 1 then k else J) _ rfl rfl rfl (λp J=>absurd J bi) ⟨H.h,H.os,H.gens,H.same⟩ λb o H J=>H
open PySem.Builtin.Str in
theorem aHn{z a b:Str}{v:ab}(Y:(decide (z.length<("}":Str).length)||decide (strKind z< strKind "}"))=false)(J:(occurrencesFromRight z "}" (w4 z 1)).isEmpty=false)(H:partsBetween z (occurrencesFromRight z "}" (w4 z 1)) ("}":Str).length=[a,b])(Z:z.length<=1000):Told ao (av w) A U fr aa (bC "str.rsplit" [.str z t, .str "}" u, .int 1 v]) [] (λe=>⟨.ok (.ret (.ref (e 0))),[],[(e 0,listOf [ag.str a (e 1), .str b (e 1+1)].toArray 0)],e 0+1,e 1+2⟩):=by have g:=meets_str_rsplit_sep_max z "}" 1 t u v rfl Y rfl J (aE Z (by decide)) (H▸dk rfl);replace g:=H▸g;exact DB (o:=λe=>listOf [ag.str a e, .str b _].toArray 0) PySem.F.slot_str_rsplit PySem.F.entry_str_rsplit (PySem.F.args_str_rsplit_3 ..) g (λs=>ic ..) λj=>rfl
end
section
variable {a ro:List (af×ar)}{t:cb α}{Q:α->am->Prop}
theorem wp_keep(Z:ax True aq ak (a++ro) s)(X1:aK w aq)(NL:aq.NoLimit)(hA:A.handled=none)(dep n:Nat)(ev J:List Nat)(os:aF)(gq:∀aP,aK w aP->os.Ok False (av w) A A.units none aP (a.map (·.1)))(hd:A.depth+dep<=bk)(nd:J.Nodup)(Y:Xs->α)(ents:Xs->List (af×ar))(sz tk:Xs->Nat)(e:∀H,Ends J ((aI w dep 0 none n).S [] H ⟨a,s.heap.objs.size,s.toks,ev,os⟩ t fin) (.ok (Y H),(ents H).map some,sz H,tk H))(h:∀H s',ax True aq ak (ents H++ro) s'->s'.gens=s.gens->sI a s.heap s'.heap->Q (Y H) s'):aG (av w) A t Q E s:=by refine cJ (kG Z) λS2 b6 aZ=>?_;have X2:aK w _:=λb o e=>aZ _ _ (X1 b o e);exact wp_run ⟨S2.h,rfl,aWm, .inr ⟨rfl,rfl⟩⟩ X2 hA dep 0 n ev J os (λz=>gq _ X2) (λz=>⟨NL.keeps aZ,hd⟩) (a8 _) nd Y ents sz tk e λH s' J Y Y G=>by have Y:=(J.same.resolve_left id).1;exact h H s' (q6 Z ⟨J.h,J.os.trans Z.os,λz=>Y▸Z.gens True.intro, .inl True.intro⟩) Y G.keep
end
theorem IJ{c:bB}{p1 ro:List (af×ar)}{fc:(Nat->Nat)->Out}(b6:∀p∈ro,aq.get? p.1=some p.2)(jp:∀L,fr=some L->∀p∈ro,p.1≠L)(hn:(ro.map (·.1)).Nodup)(T:Told True (av w) A U fr (g6 aq (ro.map (·.1))) c (p1++ro) out)(ho:∀x,out x=⟨(fc x).res,(fc x).post++ro,(fc x).new,(fc x).sz,(fc x).tk⟩)(hp:∀x,(fc x).post.map (·.1)=p1.map (·.1)):Told True (av w) A U fr aq c p1 fc:=by
 intro u s ak R hu H hL hR;have dj:∀p∈p1,∀q∈ro,p.1≠q.1:=λp hp q J e=>by have:=H.h.off p hp;replace this:=(b6 q J)▸(e▸this);injection this
 refine T u s ak R hu ⟨⟨λp hp=>?_,?_,λb o e=>H.h.keep b o (yX _ e),λp hp=>?_⟩,H.os,H.gens, .inl True.intro⟩ (λL e=>⟨(hL L e).1,λp hp=>?_⟩) λx s' hz ht hk hf Y hd=>?_
 ·rcases cr.mp hp with hp|hp
  ·exact H.h.at_ p hp
  ·exact H.h.keep _ _ (b6 p hp)
 ·rw[bM,fj];refine⟨H.h.nd,hn,λx hx y hy e=>?_⟩;refine aO (bq.mp hx) λp hp eq3=>?_;subst eq3;refine aO (bq.mp hy) λq J eq4=>?_;subst eq4;exact dj p hp q J e
 ·rcases cr.mp hp with hp|hp
  ·have:=H.h.off p hp;induction z:(g6 aq _).get? p.1 with
   |none=>rfl|some o=>replace this:=(yX _ z)▸this;injection this
  ·exact yY _ (b7 hp)
 ·rcases cr.mp hp with hp|hp
  ·exact(hL L e).2 p hp
  ·exact jp L e p hp
 ·rw[ho x]at hz ht hf Y;have Ab:(out x).res=(fc x).res:=by rw[ho x]
  refine rR Ab ?_;have nd:=Y.h.nd;rw[show(fc x).new++_=_++ro from(bH ..).symm,bM,fj]at nd;have Z:∀p∈ro,s'.heap.get? p.1=some p.2:=λp hp=>Y.h.at_ p (bD _ (bD _ hp));refine hR x s' hz ht (hp x) hf ⟨⟨(λp(hp:p∈(fc x).new++(fc x).post)=>Y.h.at_ p (rL (bH ..) (bL _ hp))),nd.1,λb o e=>?_,λp hp=>?_⟩,Y.os,Y.gens, .inl True.intro⟩ λb o e n=>?_
  ·by_cases m:b∈ro.map (·.1)
   ·refine aO (bq.mp m) λq J eq1=>?_;subst eq1;rw[b6 q J]at e;exact dH e▸Z q J
   ·exact Y.h.keep b o (ke _ e m)
  ·have o1:=Y.h.off p (rL (bH ..) (bL _ hp));induction z:aq.get? p.1 with
   |none=>rfl|some o=>
    by_cases m:p.1∈ro.map (·.1);·exact absurd rfl (nd.2.2 _ (b7 hp) _ m)
    ·replace o1:=(ke _ z m)▸o1;injection o1
  ·by_cases m:b∈ro.map (·.1)
   ·refine aO (bq.mp m) λq J eq2=>?_;subst eq2;have:=H.h.keep _ _ (b6 q J);rw[e]at this;exact dH this▸Z q J
   ·refine hd b o e λp hp=>?_;rcases cr.mp hp with hp|hp
    ·exact n p hp
    ·exact λq=>m (q▸b7 hp)
section
theorem Qx(a b c d e:α)(l:List α):cH (a::b::c::d::e::l) ([a,d,e]++(b::c::l)):= .cons _ ((lj).trans (.cons _ (lj (l₁:=[b,c]))))
theorem Qy(a b x:α)(l m:List α):cH (a::b::(l++x::m)) ([a,x]++(b::(l++m))):= .cons _ (lj (l₁:=b::l))
end
theorem Qz{x y:Str}(h:x≠y):(x.cps.toList==y.cps.toList)=false:=beq_false_of_ne λz=>h (by obtain⟨⟨a⟩⟩:=x;obtain⟨⟨b⟩⟩:=y;subst z;rfl)
section
variable {G:TG}{q:Str}{L:Nat}{aX:List ag}{ro R:Led}{d:k7}{f:QV}{κ:Bool}
theorem aHo(X1:aK w aq)(NL:aq.NoLimit)(hA:A.handled=none)(hd:A.depth< bk)(j:Bool)(SR:ax True aq ak (qF w L G.tg q t κ f::(f.sa,eu d)::(G.p1 w ta aX aQ++ro)) s)(dep:Nat)(ls:List LS)(ents:List NE)(js:∀l∈ls,l.items.length<=1000)(hy:lK ls.reverse=ents.map ia)(hs:∀p∈ng (bif j then G.ns else G.ds) dep ls,p∈G.p1 w ta aX aQ++ro):aG (av w) A (fy (cI j).2.1 (qE L)) (λxv ba=>∃ga l,xv= .ref ga/\l=qF w L G.tg q t κ f::(f.sa,eu d)::(G.p1 w ta aX aQ++ro)/\ax True aq ak l ba/\GenAt w A.in1 aq (L::f.sa::(G.p1 w ta aX aQ++ro).map (·.1)) (ng (bif j then G.ns else G.ds) dep ls) (ents.map ia) ga ba) E s:=by
 rw[aHa,Qo];refine au (du (bj SR (Qx ..)) X1 NL hA 0 600 _ .nil (λv v v v v=>True.intro) (cT hd) _ _ _ _ (λσ=>aHj ..) λv Z S2 v v v=>?_);have J:=bj S2 (Qx ..).symm;simp only[aHl];refine au (Calls.wpAny_keep (wpAny_call (aEg hd (λb o e=>J.h.keep _ _ (X1 b o e)) (NL.keeps J.h.keep) λh' tL ga oC t1 t2 hk vI hC bp nh=>au (fW (Xd (aH ?_))))));have lo:∀p∈qF w L G.tg q t κ f::_::(G.p1 w ta aX aQ++ro),p.1< Z.heap.objs.size:=λp H=>dJ (J.h.at_ p H);have Y:∀b,Z.heap.objs.size<=b->aq.get? b=none/\b ∉ L::f.sa::(G.p1 w ta aX aQ++ro).map (·.1):=λb hb=>by
  refine⟨?_,λhm=>?_⟩
  ·induction z:aq.get? b with
   |none=>rfl|some o=>exact absurd (dJ (J.h.keep _ _ z)) (dA.mpr hb)
  ·refine aO (bq.mp (show b∈(qF w L G.tg q t κ f::(f.sa,eu d)::_).map (·.1)from hm)) λp H eq1=>?_;subst eq1;exact absurd (lo p H) (dA.mpr hb)
 refine⟨ga,_,rfl,rfl,⟨⟨λp H=>hk _ _ (J.h.at_ p H),J.h.nd,λb o e=>hk _ _ (J.h.keep b o e),J.h.off⟩,J.os,λv=>aEk (J.gens True.intro) rfl, .inl True.intro⟩,Z.heap.objs.size,Z.gens.size,_,[(Z.heap.objs.size,oC)],t1,t2,Array.getElem?_push_size,hy▸aD7 rfl hA js (λp H=>lo p (aB (aB (hs p H)))) (a8 _) nh rfl rfl,λp H=>?_,vI,λp H=>?_,Y _ (cT bp)⟩;·exact rR (bI.mp H) hC
 ·exact rR (bI.mp H) ⟨(Y _ (a8 _)).1,(Y _ (a8 _)).2,dw bp⟩
theorem aHp(X1:aK w aq)(Y:aq.NoLimit)(hA:A.handled=none)(hd:A.depth< bk)(j:Bool){Q:Unit->am->Prop}{e:NE}(J:(e.t,fB e)∈R)(Z:ax True aq ak (qF w L G.tg q t κ f::(f.sa,eu d)::R) s)(h:∀k' s',ax True aq ak (qF w L G.tg q t true { f with k:=k',u:=e.u,tu:=e.tu,p:=e.p,tp:=e.tp }::(f.sa,eu d)::R) s'->s'.gens=s.gens->KK (L::f.sa::R.map (·.1)) s.heap s'.heap->Q () s'):aG (av w) A (pF (cI j).1 (qE L) (ia e)) Q E s:=by
 refine ve (F7 J) λl m H=>?_;subst H;refine wp_keep (bj Z (Qy ..)) X1 Y hA 0 600 _ [3,4] .nil (λv v=>True.intro) (cT hd) (by decide) _ _ _ _ (λH=>aHd ..) λv s' Z H Y=>h _ s' (bj Z (Qy ..).symm) H λb o Z H=>Y b o Z λp hp z=>H ?_;rcases a9.mp hp with rfl|hp
 ·exact rL z ay
 ·rw[bI.mp hp]at z;exact rL z (aB (aB (b7 J)))
theorem aHq(Z:aK w aq)(H:aq.NoLimit)(Y:A.handled=none)(hd:A.depth< bk)(j:Bool)(hu:f.u≠f.U)(J:ax True aq ak (qF w L G.tg q t true f::R) s)(h:∀s',ax True aq ak (qF w L G.tg q t true f::R) s'->s'.gens=s.gens->KK (L::R.map (·.1)) s.heap s'.heap->Q .next s'):aG (av w) A (aV ((cI j).2.2.1.take 1) (qE L)) Q E s:=wp_keep J Z H Y 0 600 _ [0] (cC f.u f.U f.tu f.tU false λv=> .nil) (λv v=>dC (Qz hu) λv v=>True.intro) (cT hd) (by decide) _ _ _ _ (λH=>aHe ..) λv s' Y H J=>h s' Y H λb o Y H=>J b o Y λp J z=>H (by rw[bI.mp J]at z;exact rL z ay)
theorem aHr(X1:aK w aq)(NL:aq.NoLimit)(hA:A.handled=none)(hd:A.depth< bk){S:Str->Bool}(oJ:(eu d).SetObjOf (strKind Rw.prog w) S n)(hn:n+1< XN)(SR:ax True aq ak (qF w L G.tg q t true f::(f.sa,eu d)::R) s)(h:∀Y J s',(eu Y).SetObjOf (strKind Rw.prog w) (λk=>S k||decide (k=f.p)) J->J<=n+1->ax True aq ak (qF w L G.tg q t true f::(f.sa,eu Y)::R) s'->s'.gens=s.gens->KK (L::f.sa::R.map (·.1)) s.heap s'.heap->Q .next s'):aG (av w) A (aV ((cI false).2.2.1.drop 1) (qE L)) Q E s:=by
 refine mW (wpAny_Expr ?_);refine rR (Qo ..) (au (wp_keep SR X1 NL hA 0 600 _ [0,1] .nil (λj j=>True.intro) (cT hd) (by decide) _ _ _ _ (λJ=>aHk ..) λj J Z hg hk=>?_));refine au (call_set_add (ml ..) rfl (oJ.setOf (Z.h.at_ _ (aB ay)) (Nat.lt_of_succ_lt hn)) hn λh' gu J=>au (fW (Xd (aH (qC ?_)))));refine hO λY aY=>aO J.objOf λz1 lG DK=>?_;obtain⟨c,J,dt,sl⟩:=z1;refine d8 (id DK) λz2 v=>?_;obtain⟨rfl,rfl,rfl⟩:=z2;refine aY ?_;have H:=q7 (pre:=[qF w L G.tg q t true f]) Z lG gu.extBut;refine h dt _ _ DK (by split<;>first|exact aWt _|exact a8 _) ⟨H.h,H.os,H.gens,H.same⟩ hg λb o J H=>?_;refine(gu.2 b λz=>H (z▸aB ay)).trans (hk b o J λp hp z=>H ?_);rcases a9.mp hp with rfl|hp
 ·exact rL z ay
 ·rw[bI.mp hp]at z;exact rL z (aB ay)
end
def TG.ro(G:TG):List (af×ar):=(G.cU.map λl=>(l.a,listOf l.items.toArray l.ep))++((G.ents.map λe=>(e.t,fB e))++((G.aL.map λl=>(l.a,listOf l.items.toArray l.ep))++G.ni.map λe=>(e.t,fB e)))
variable {ro:List (af×ar)}
abbrev oK(G:TG)(x:Str)(t:ab):Code:=nc (.call (.ref 90) ⟨[.ref G.tg, .str x t],[]⟩)
abbrev oM(x y z:Str)(e:Nat->Nat):af×Obj:=(e 2,tM x y z (e 3) (e 4) (e 5))
abbrev DM(x:Nat)(e:Nat->Nat):af×Obj:=(e 6,⟨.type "tuple",none, .seq #[.str (bv x) (e 7), .str ⟨#[x]⟩ (e 8)] 0,#[]⟩)
theorem aHs(j:Bool):(cI j).1= .Tuple (eE (cI j).1) (eK (cI j).1) (cI j).1.pos:=by induction j<;>kernel_rfl
theorem aHt(L:Nat)(j:Bool)(x:ag):Mp (cI j).2.1 (qE L) x=pure x:=by induction j<;>kernel_rfl
section
variable {G:TG}{q:Str}{L:Nat}{aX:List ag}{Z:Led}{d:k7}{f:QV}{κ:Bool}
theorem QB(X1:aK w aq)(NL:aq.NoLimit)(hA:A.handled=none)(hd:A.depth< bk)(j:Bool)(ents:List NE)(dep:Nat)(ls:List LS)(P:List NE->k7->Prop){ro:Led}(hZ:Z=G.p1 w ta aX aQ++ro)(js:∀l∈ls,l.items.length<=1000)(hy:lK ls.reverse=ents.map ia)(hs:∀p∈ng (bif j then G.ns else G.ds) dep ls,p∈Z)(hm:∀e∈ents,(e.t,fB e)∈Z)(h0:P [] d)(SR:ax True aq ak (qF w L G.tg q t κ f::(f.sa,eu d)::Z) s)(skip:∀(E:ag->am->Prop)(R:am->Prop)(J:List NE)(e:NE)(k:Nat->ab)(H:k7)(s':am),J.length< ents.length->P J H->ax True aq ak (qF w L G.tg q t true { f with k:=k,u:=e.u,tu:=e.tu,p:=e.p,tp:=e.tp }::(f.sa,eu H)::Z) s'->(∀d2 Y,P (J++[e]) d2->ax True aq ak (qF w L G.tg q t true { f with k:=k,u:=e.u,tu:=e.tu,p:=e.p,tp:=e.tp }::(f.sa,eu d2)::Z) Y->Y.gens=s'.gens->KK (L::f.sa::Z.map (·.1)) s'.heap Y.heap->R Y)->aG (av w) A (aV ((cI j).2.2.1.drop 1) (qE L)) (Mq Q R) E s')(hit:∀(E:ag->am->Prop)(R:am->Prop)(J:List NE)(e:NE)(r:List NE)(k:Nat->ab)(H:k7)(s':am),ents=J++e::r->e.u=f.U->P J H->ax True aq ak (qF w L G.tg q t true { f with k:=k,u:=e.u,tu:=e.tu,p:=e.p,tp:=e.tp }::(f.sa,eu H)::Z) s'->aG (av w) A (aV (cI j).2.2.1 (qE L)) (Mq Q R) E s')(vG:(∀e∈ents,e.u≠f.U)->∀κ k u tu p tp H s',P ents H->ax True aq ak (qF w L G.tg q t κ { f with k:=k,u:=u,tu:=tu,p:=p,tp:=tp }::(f.sa,eu H)::Z) s'->Q .next s'):aG (av w) A (exec (.For (cI j).1 (cI j).2.1 (cI j).2.2.1 [] (cI j).2.2.2) (qE L)) Q E s:=by
 refine aEm (ak:=ak) f.U ents (λJ l=>∃κ k u tu p tp H,P J H/\l=qF w L G.tg q t κ { f with k:=k,u:=u,tu:=tu,p:=p,tp:=tp }::(f.sa,eu H)::Z) (L::f.sa::Z.map (·.1)) (ng (bif j then G.ns else G.ds) dep ls) hA NL hd ?_ ?_ (aHt L j) (aHs j) ?_ ?_ ?_;·rintro m m ⟨κ,k,u,tu,p,tp,H,m,rfl⟩;rfl
 ·rintro m m ⟨κ,k,u,tu,p,tp,H,m,rfl⟩ p hp;exact aB (aB (hs p hp))
 ·subst hZ;refine pA (aHo X1 NL hA hd j SR dep ls ents js hy hs) (λxv s1 h=>?_) λv v z=>z;exact Gl h λga l a b c d=>⟨ga,l,a,⟨κ,f.k,f.u,f.tu,f.p,f.tp,_,h0,b⟩,c,d⟩
 ·rintro hn m s' ⟨κ,k,u,tu,p,tp,H,hP,rfl⟩ S';exact vG hn κ k u tu p tp H s' hP S'
 ·rintro E J e r m s' R he hdn ⟨κ,k,u,tu,p,tp,H,hP,rfl⟩ S1 hR;refine aHp X1 NL hA hd j (hm e (he▸bD _ ay)) S1 λk2 Y S2 g2 k2h=>?_;by_cases hu:e.u=f.U;·exact hit E R J e r k2 H Y he hu hP S2
  ·refine rL (aWu 1 (cI j).2.2.1) (da (aHq X1 NL hA hd j hu S2 λs3 Y g3 k3h=>?_));refine skip E R J e k2 H s3 (rR he (rR bQ (aWv (BO _)))) hP Y λY H J S4 g4 k4h=>hR hu _ H ⟨true,_,_,_,_,_,Y,J,rfl⟩ S4 (g4.trans (g3.trans g2)) λb o J H=>k4h b o (k3h b o (k2h b o J H) H) H
end
section
variable {next:aM}
theorem IK{x r:Str}(l u:Option (Int×ab))(H:∀(Q:ag->am->Prop)(s:am),(∀J k,Q (.str r J) { s with toks:=k })->(Mb x t l u none).post Q s)(k:bJ next ao w A U fr aa):(v6 x r t D (xW (B3 l) (B3 u)) next).Ok ao (av w) A U fr aa lv:=⟨rfl,cj.mpr ⟨bi,bN⟩,λJ z z=>aHm l u H,λx z z=>k x _⟩
theorem QC{J:af}{d:k7}{S:Str->Bool}(H:(eu d).SetObjOf (strKind Rw.prog w) S n)(Y:n< XN){p:Str}{b:Bool}(e:S p=b)(k:bJ next ao w A U fr aa):(AB J d p t b next).Ok ao (av w) A U fr aa lv:=⟨rfl,cj.mpr ⟨bi,bN⟩,λJ z z=>e▸aGl H Y p t,λx z z=>k x _⟩
end
theorem IL(x:Str):(x.cps.toList==x.cps.toList)=true:=beq_self_eq_true _
theorem aHu{H:List NE}{e:NE}:(λk=>(H.any λx=>x.p==k)||decide (k=e.p))=λk=>(H++[e]).any λx=>x.p==k:=by
 funext k;simp only[aWw];congr 1;show decide _=(e.p==k||false)
 rw[aWx];by_cases h:k=e.p;·rw[h];rfl
 ·rw[decide_eq_false h];exact(beq_false_of_ne λz=>h z.symm).symm
section
variable {G:TG}{aX:List ag}
theorem TG.aHv:∀p∈ng G.ds G.dep (G.cU++[⟨ta,aQ,aX⟩]),p∈G.p1 w ta aX aQ++G.ro:=λp hp=>by
 unfold ng at hp;replace hp:=bM▸(bM▸hp)
 rcases a9.mp hp with rfl|hp
 ·exact aB (aB (aB ay))
 rcases cr.mp hp with hp|hp
 ·exact bD _ (bL _ hp)
 ·exact rR (bI.mp hp) ay
theorem TG.aHw:∀p∈ng G.ns G.ej G.aL,p∈G.p1 w ta aX aQ++G.ro:=λp hp=>by
 rcases a9.mp hp with rfl|hp
 ·exact aB (aB (aB (aB ay)))
 ·exact bD _ (bD _ (bD _ (bL _ hp)))
theorem TG.en1:∀e∈G.ents,(e.t,fB e)∈G.p1 w ta aX aQ++G.ro:=λe H=>bD _ (bD _ (bL _ (b7 H)))
theorem TG.en2:∀e∈G.ni,(e.t,fB e)∈G.p1 w ta aX aQ++G.ro:=λe H=>bD _ (bD _ (bD _ (bD _ (b7 H))))
end
def QD(w:aj)(H:List NE)(d:k7):Prop:=∃n,(eu d).SetObjOf (strKind Rw.prog w) (λk=>H.any λx=>x.p==k) n/\n<=H.length
section
variable {G:TG}{q:Str}{L:Nat}{aX:List ag}{d:k7}{f:QV}{κ:Bool}
theorem IM(h:n<=1001):n< scanBound:=iI h (by decide)
theorem QE(X1:aK w aq)(Z:aq.NoLimit)(hA:A.handled=none)(hd:A.depth< bk)(g:G.Ok ta aX)(SR:ax True aq ak (qF w L G.tg q t κ f::(f.sa,eu (II w))::(G.p1 w ta aX aQ++G.ro)) s)(J:∀(E:ag->am->Prop)(R:am->Prop)(Y:List NE)(e:NE)(r:List NE)(k:Nat->ab)(H:k7)(s':am),G.ents=Y++e::r->e.u=f.U->QD w Y H->ax True aq ak (qF w L G.tg q t true { f with k:=k,u:=e.u,tu:=e.tu,p:=e.p,tp:=e.tp }::(f.sa,eu H)::(G.p1 w ta aX aQ++G.ro)) s'->aG (av w) A (aV (cI false).2.2.1 (qE L)) (Mq Q R) E s')(vG:(∀e∈G.ents,e.u≠f.U)->∀κ k u tu p tp H s',QD w G.ents H->ax True aq ak (qF w L G.tg q t κ { f with k:=k,u:=u,tu:=tu,p:=p,tp:=tp }::(f.sa,eu H)::(G.p1 w ta aX aQ++G.ro)) s'->Q .next s'):aG (av w) A (exec (.For (cI false).1 (cI false).2.1 (cI false).2.2.1 [] (cI false).2.2.2) (qE L)) Q E s:=by
 refine QB X1 Z hA hd false G.ents G.dep _ _ rfl (λl hl=>?_) (aEp.trans g.hy) TG.aHv TG.en1 ⟨0,setObjOf_fresh _,a8 _⟩ SR ?_ J vG
 ·rcases cr.mp hl with hl|hl
  ·exact g.js l hl
  ·exact rR (bI.mp hl) g.hz
 ·rintro E R Y e k H s' hl ⟨n,oJ,hn⟩ S hR;refine aHr X1 Z hA hd oJ (IM (si (aE hn (aE (cT hl) g.jS)))) S λd' H Z J rm S2 Y k2=>hR d' Z ⟨H,aHu▸J,?_⟩ S2 Y k2;exact rR bQ (aE rm (si hn))
end
theorem QF(a b c:α)(l:List α):cH (a::b::c::l) ((a::l)++[b,c]):= .cons _ (jM (l₁:=[b,c]))
theorem IN(a b:α)(l m:List α):cH (a::b::(l++m)) ((a::l)++(b::m)):= .cons _ lj.symm
theorem aHx(a b c d:α)(l m:List α):cH (a::b::c::(l++(d::m))) ((a::b::(l++m))++[c,d]):= .cons _ (.cons _ ((y9 _ lj).trans (jM (l₁:=[c,d]))))
structure QA(w:aj)(A:aD)(aa:aw):Prop where
 X:aK w aa
 N:aa.NoLimit
 a:A.handled=none
 d:A.depth+2<=bk
section
variable {G:TG}{x:Nat}{aX:List ag}
theorem QG(H:QA w A aa){q:Str}(Y:∀x,(out x).post.map (·.1)=(G.p1 w ta aX aQ++G.ro).map (·.1))(hB:∀(A:aD)(L tk:Nat)(s ak:am)(Q:dm->am->Prop)(E:ag->am->Prop)(aq:aw),A.handled=none->A.depth< bk->aK w aq->aq.NoLimit->ax True aq ak ([DI w L G.tg tk q t]++(G.p1 w ta aX aQ++G.ro)) s->(∀x v s',(out x).res= .ok (.ret v)->s'.heap.objs.size=(out x).sz->s'.toks=(out x).tk->ax True aq ak ((out x).new++(out x).post) s'->Q (.ret v) s')->aG (av w) A (aV qB (qE L)) Q E s):Told True (av w) A U fr aa (oK G q t) (G.p1 w ta aX aQ++G.ro) out:=by refine Da (body:=qB) H.X H.N H.a H.d (q_F w) rfl rfl (by kernel_rfl) (by kernel_rfl) [("self", .ref G.tg),_,_] [0] (λL tk J=>q_b ..) qE _ 1 3 [1,1,1,1,1,1] (λL tk J=>q_n ..) Y ?_;intro kH L tk s ak Q E aq Z J z z X1 aU Y z z dq;exact hB kH L tk s ak Q E aq Z (J▸H.d) X1 aU Y λx v s' Y J H S=>dq x _ s' Y J H S
theorem aHy(H:QA w A aa)(g:G.Ok ta aX)(y:Nat)(hy:y≠123):Told True (av w) A U fr aa (oK G ⟨#[y]⟩ t) (G.p1 w ta aX aQ++G.ro) (λe=>⟨.ok (.ret (.ref (e 2))),G.p1 w ta aX aQ++G.ro,[oM ⟨#[y]⟩ ⟨#[y]⟩ "" e],e 0,e 1⟩):=by
 refine QG H (λj=>rfl) ?_;intro A L tk s ak Q E aq Z H X1 Y SR dq;refine rR Qr (da ?_);refine fO SR X1 Y Z 0 600 _ [6,0] (v6 ⟨#[y]⟩ ⟨#[y]⟩ t s.heap.objs.size _ λa=>cC ⟨#[y]⟩ "{" (a 2) (a 1) false λj=> .nil) (λj j j j j=>IK none (some (1,s.toks)) (λQ s h=>h t s.toks) λa j=>dC (Qz λz=>hy ?_) λj j=>True.intro) (cT H) (by decide) _ _ _ _ (λJ=>aHb ..) λJ s1 S1 j j j=>?_
 ·have:=congrArg (λs:Str=>s.cps.toList) z;exact List.head_eq_of_cons_eq this
 refine mW (QE X1 Y Z H g S1 (λE R dn e r k dd s2 he hu j j=>absurd hu (g.ra e (he▸bD _ ay))) λj κ k u tu p tp dd s2 hP S2=>?_);refine aO hP λn oJ hn=>da (du S2 X1 Y Z 0 600 _ (AB _ dd "" _ false λj=> .nil) (λj j j j j=>QC oJ (IM (aE hn (aE g.jS (by decide)))) g.oA λj j=>True.intro) (cT H) _ _ _ _ (λτ=>aHh w G κ ⟨k,"",J 1 1,⟨#[y]⟩,t,J 1 0+4,u,tu,p,tp⟩ _ t y L _ _ ta aQ aX dd τ ⟨rfl,rfl⟩) λτ H Y Z Z j=>?_);exact dq (λi=>match i with|0=>H.heap.objs.size|1=>H.toks|2=>τ 0 0|3=>t|4=>t|_=>J 1 1) _ H rfl rfl rfl (qb (bj Y (QF ..)))
theorem QI(H:QA w A aa)(g:G.Ok ta aX)(gx:G.Tag x)(jk:∀x,(out x).post.map (·.1)=(G.p1 w ta aX aQ++G.ro).map (·.1))(old:(∃e∈G.ents,e.u=bv x)->∀a b c d e f,∃y,out y=⟨.ok (.ret (.ref a)),G.p1 w ta aX aQ++G.ro,[(a,tM (iw x) cS (bv x) b c d)],e,f⟩)(new:(∀e∈G.ents,e.u≠bv x)->∀a b c d e f i j k,∃y,out y=⟨.ok (.ret (.ref a)),G.p1 w ta (aX++[.ref i]) (aQ+1)++G.ro,[(a,tM (iw x) cS (bv x) b c d),(i,⟨.type "tuple",none, .seq #[.str (bv x) j, .str ⟨#[x]⟩ k] 0,#[]⟩)],e,f⟩):Told True (av w) A U fr aa (oK G (iv x) t) (G.p1 w ta aX aQ++G.ro) out:=by
 refine QG H jk ?_;intro A L tk s ak Q E aq hA hd X1 NL SR dq;refine rR Qr (da ?_);obtain⟨z,hz⟩:∃z:Str,z=⟨#[117,114,110,58,x,125,99]⟩:=⟨_,rfl⟩
 have hx:=gx.hx;refine fO SR X1 NL hA 0 600 _ [7,0] (v6 (iv x) "{" t s.heap.objs.size _ λa=>cC "{" "{" (a 2) (a 1) true λb=>v6 _ z t (b 0) _ λc=>Qt z _ cS (c 2) (c 1) _ λv=> .nil)
  (λv v v v v=>IK none (some (1,s.toks)) (λQ s h=>⟨by show 1<=gA;decide,h s.toks _⟩) λa v=>dC (IL _) λb v=>IK (some (1,b 1)) none (λQ s h=>rR (show Mb _ t _ none none= .str ⟨#[117,114,110,58,x,125,99]⟩ by kernel_rfl) (rL hz ⟨by rw[hz];show 7<=gA;decide,h s.toks _⟩)) λc v=>⟨rfl,bN,λA' v v=>?_,λv v v=>True.intro⟩) (cT hd) (by decide) _ _ _ _ (λJ=>aHc ..) λJ H S1 v v v=>?_
 ·subst hz;unfold dS at hx;simp only[a9,bi,or_false]at hx;rcases hx with rfl|rfl|rfl|rfl|rfl|rfl<;>exact aHn (by decide+kernel) (by decide+kernel) (by decide+kernel) (by decide+kernel)
 refine mW (QE X1 NL hA hd g S1 (λE R dn e r k dd s2 he hu H S2=>?_) λDo κ k u tu p tp dd s2 H S2=>?_)
 ·have hm:=he▸bD _ ay;refine aO H λn oJ hn=>?_;have H:(dn.any λx=>x.p==e.p)=false:=by have mF:=g.mF;simp only[he,bM,iK]at mF;rw[List.any_eq_false];intro y hy' z;exact(fj.mp mF).2.2 y.p (b7 hy') e.p ay (by simpa using z)
  have hp:=gx.nj e hm hu;refine du S2 X1 NL hA 0 600 _ (cC e.u _ e.tu _ true λv=>AB (J 3 0+4) dd e.p e.tp false λv=> .nil) (λv v v v v=>dC (hu▸IL _) λv v=>QC oJ (IM (aE hn (aE (aE (by exact rR he (rR bQ (fG _ _))) g.jS) (by decide)))) H λv v=>True.intro) (cT hd) _ _ _ _ (λZ=>aHf w G ⟨k,bv x,J 3 1,cS,J 3 1+1,J 3 0+4,e.u,e.tu,e.p,e.tp⟩ _ t x L _ _ dd Z ⟨rfl,rfl,hp⟩) λZ s3 S3 H H v=>?_;obtain⟨y,Y⟩:=old ⟨e,hm,hu⟩ _ _ (J 3 1+1) (J 3 1) s3.heap.objs.size s3.toks;exact dq y _ s3 (rR Y rfl) (rR Y rfl) (rR Y rfl) (rR Y (qb (bj S3 (QF ..))))
 refine da (du (bj S2 (IN ..)) X1 NL hA 0 600 _ .nil (λv v v v v=>True.intro) (cT hd) _ _ _ _ (λZ=>aHi w G κ ⟨k,bv x,J 3 1,cS,J 3 1+1,J 3 0+4,u,tu,p,tp⟩ _ t x L _ _ ta aQ aX Z rfl) λZ s3 S3 v v v=>?_);refine mW (QB X1 NL hA hd true G.ni G.ej G.aL (λv v=>True) rfl g.rf g.rb TG.aHw TG.en2 True.intro (bj S3 (IN ..).symm) (λE R dn e k d2 s4 v v H hR=>?_) (λE R dn e r k2 d2 s4 he hu v H=>?_) λaH0=>?_);·exact qC (hR d2 s4 True.intro H rfl λv v e v=>e)
 ·have hp:=gx.fX e (he▸bD _ ay) hu;refine du (bj H (IN ..)) X1 NL hA 0 600 _ (cC e.u _ e.tu _ true λa=>Qu G.ds _ _ G.dep _ λb=>rk 2 ta aX aQ _ λv=> .nil)
   (λv v v v v=>dC (hu▸IL _) λa v=>⟨rfl,cj.mpr ⟨bi,bN⟩,λA' v v=>Az _ _ _ _ _,λb v v=>v5 g.hz λv v=>True.intro⟩) (cT hd) _ _ _ _ (λZ=>aHg w G ⟨k2,bv x,J 3 1,cS,J 3 1+1,J 3 0+4,e.u,e.tu,e.p,e.tp⟩ _ t x L _ _ ta aQ aX Z ⟨rfl,rfl,hp⟩) λZ s5 S5 H H v=>?_;obtain⟨y,Y⟩:=new Do _ _ (J 3 1+1) (J 3 1) s5.heap.objs.size s5.toks _ (J 3 1) e.tp;exact dq y _ s5 (rR Y rfl) (rR Y rfl) (rR Y rfl) (rR Y (qb (bj S5 (aHx _ _ _ _ _ G.ro))))
 ·exact aO gx.hex λe he hu=>absurd hu (aH0 e he)
end
section
variable {k:KX}{G:TG}{x:Nat}{aX:List ag}
structure tZ(k:KX)(aq:aw)(G:TG):Prop where
 st:∀b o,k.aa.get? b=some o->aq.get? b=some o
 ro:∀p∈G.ro,aq.get? p.1=some p.2/\p.1≠k.L/\k.aa.get? p.1=none
 nd:(G.ro.map (·.1)).Nodup
 L:k.aa.objs.size<=k.L
 n:k.dp+6< bk
theorem tZ.qa(J:k.Ok w)(r:tZ k aq G):QA w k.bE (g6 aq (G.ro.map (·.1))):=by
 have Y:∀b o,k.aa.get? b=some o->(g6 aq (G.ro.map (·.1))).get? b=some o:=λb o e=>ke _ (r.st b o e) λhm=>by refine aO (bq.mp hm) λp Z H=>?_;subst H;replace e:=((r.ro p Z).2.2)▸e;injection e
 exact⟨λb o e=>Y b o (J.X b o e),J.T.nolimit.keeps Y,rfl,aE (yP (by decide:2<=6) _) (cT r.n)⟩
theorem xX(J:k.Ok w)(r:tZ k aq G)(H:U+240< dQ)(g:G.Ok ta aX)(y:Nat)(Y:y≠123):Told True (av w) k.bE U (some k.L) aq (oK G ⟨#[y]⟩ t) (G.p1 w ta aX aQ) (λe=>⟨.ok (.ret (.ref (e 2))),G.p1 w ta aX aQ,[oM ⟨#[y]⟩ ⟨#[y]⟩ "" e],e 0,e 1⟩):=IJ (λp H=>(r.ro p H).1) (λL e p H=>dH e▸(r.ro p H).2.1) r.nd (aHy (r.qa J) g y Y) (λz=>rfl) λz=>rfl
theorem QJ(Y:k.Ok w)(r:tZ k aq G)(H:U+240< dQ)(g:G.Ok ta aX)(Z:G.Tag x)(J:∃e∈G.ents,e.u=bv x):Told True (av w) k.bE U (some k.L) aq (oK G (iv x) t) (G.p1 w ta aX aQ) (λe=>⟨.ok (.ret (.ref (e 2))),G.p1 w ta aX aQ,[oM (iw x) cS (bv x) e],e 0,e 1⟩):=IJ (λp H=>(r.ro p H).1) (λL e p H=>dH e▸(r.ro p H).2.1) r.nd (QI (r.qa Y) g Z (λz=>rfl) (λz a b c d e f=>⟨λi=>match i with|0=>e|1=>f|2=>a|3=>b|4=>c|_=>d,rfl⟩) λY=>absurd J λ⟨e,J,H⟩=>Y e J H) (λz=>rfl) λz=>rfl
theorem aH1(Y:k.Ok w)(r:tZ k aq G)(H:U+240< dQ)(g:G.Ok ta aX)(Z:G.Tag x)(J:∀e∈G.ents,e.u≠bv x):Told True (av w) k.bE U (some k.L) aq (oK G (iv x) t) (G.p1 w ta aX aQ) (λe=>⟨.ok (.ret (.ref (e 2))),G.p1 w ta (aX++[.ref (e 6)]) (aQ+1),[oM (iw x) cS (bv x) e,DM x e],e 0,e 1⟩):=IJ (λp H=>(r.ro p H).1) (λL e p H=>dH e▸(r.ro p H).2.1) r.nd (QI (r.qa Y) g Z (λz=>rfl) (λh=>absurd h λ⟨e,Y,H⟩=>J e Y H) λz a b c d e f i j k=>⟨λn=>match n with|0=>e|1=>f|2=>a|3=>b|4=>c|5=>d|6=>i|7=>j|_=>k,rfl⟩) (λz=>rfl) λz=>rfl
end
abbrev gW(G:TG)(wm:Nat):TG:=nc ({ G with wr:= .ref wm })
abbrev QK(w:aj)(G:TG)(a:AT)(S:SX)(ta aQ:Nat):List (af×ar):=(gW G S.wm).p1 w ta [] aQ++[(a.at_,cE w a.es a.ep),(S.wm,fY S.wl),(S.wl,listOf S.wv.toArray S.we),(G.ps,listOf (S.cw++[dY false]).toArray S.dD)]
abbrev IQ(w:aj)(G:TG)(a:AT)(ta:Nat)(tag:Str)(t:ab)(L tk J H:Nat):List (af×ar):=[(L+1+1,np none),(L+1,np (some (.ref G.tg))),(L,tO w a.at_ ta tag t tk [⟨aS w.params "qnames", .str "qnames" H, .ref J⟩] 5)]
abbrev AC(i:Nat)(w:aj)(G:TG)(ta aQ:Nat)(y:Nat)(t:ab)(next:aM):aF:= .cons none (oK G ⟨#[y]⟩ t) [i,i+1,i+2,i+3,i+4] (G.p1 w ta [] aQ) (λe=>⟨.ok (.ret (.ref (e 2))),G.p1 w ta [] aQ,[oM ⟨#[y]⟩ ⟨#[y]⟩ "" e],e 0,e 1⟩) next
abbrev qoO(i:Nat)(w:aj)(G:TG)(ta aQ:Nat)(x:Nat)(t:ab)(next:aM):aF:= .cons none (oK G (iv x) t) [i,i+1,i+2,i+3,i+4] (G.p1 w ta [] aQ) (λe=>⟨.ok (.ret (.ref (e 2))),G.p1 w ta [] aQ,[oM (iw x) cS (bv x) e],e 0,e 1⟩) next
abbrev qnO(i:Nat)(w:aj)(G:TG)(ta aQ:Nat)(x:Nat)(t:ab)(next:aM):aF:= .cons none (oK G (iv x) t) [i,i+1,i+2,i+3,i+4] (G.p1 w ta [] aQ) (λe=>⟨.ok (.ret (.ref (e 2))),G.p1 w ta ([]++[.ref (e 6)]) (aQ+1),[oM (iw x) cS (bv x) e,DM x e],e 0,e 1⟩) next
def evW(w:aj)(a b:List Nat):List Nat:=nc (match w.params.followText "comprehension-iter-twice" with
 |true=>a|false=>b)
structure SQ where
 L:Nat
 tk:Nat
 S0:Nat
 kq:Nat
 R:Nat
 k1:Nat
 k2:Nat
 PD:Nat
 k3:Nat
 AL:Nat
 k4:Nat
 cm:Nat
noncomputable abbrev SQ.es(q:SQ)(w:aj):List DictEntry:=[⟨aS w.params "qnames", .str "qnames" q.kq, .ref q.S0⟩,⟨aS w.params "resolved_names", .str "resolved_names" q.k1, .ref q.R⟩,⟨aS w.params "qattrs", .str "qattrs" q.k2, .none⟩,⟨aS w.params "parsed_qnames", .str "parsed_qnames" q.k3, .ref q.PD⟩,⟨aS w.params "attr_list", .str "attr_list" q.k4, .ref q.AL⟩]
abbrev SQ.aJ(q:SQ)(w:aj)(G:TG)(a:AT)(ta:Nat)(tag:Str)(t:ab):List (af×ar):=[(q.L+1+1,np (some (.ref q.cm))),(q.L+1,np (some (.ref G.tg))),(q.L,tO w a.at_ ta tag t q.tk (q.es w) 9)]
abbrev aH2(w:aj)(G:TG)(a:AT)(S:SX)(ta:Nat)(aX:List ag)(aQ:Nat):List (af×ar):=(gW G S.wm).p1 w ta aX aQ++[(a.at_,cE w a.es a.ep),(S.wm,fY S.wl),(S.wl,listOf S.wv.toArray S.we),(G.ps,listOf (S.cw++[dY false]).toArray S.dD)]
abbrev SQ.led(q:SQ)(w:aj)(G:TG)(a:AT)(S:SX)(ta:Nat)(aX:List ag)(aQ:Nat)(tag:Str)(t:ab)(H:List DE)(pe:Nat)(Z:List ag)(Y:Nat)(J tb:List (af×ar)):List (af×ar):=(q.PD,cE w H pe)::(J++((q.AL,aA Z Y)::(tb++(aH2 w G a S ta aX aQ++q.aJ w G a ta tag t))))
section
open PySem PySem.W PySem.W.X PyProof.Rows PySem.Calls
set_option maxHeartbeats 4000000
section
theorem aH3{K:uI}{e1 e2:cY}{Y:d6}{Q:ag->am->Prop}{x:Str}{tx:ab}{d:af}{J:List (Str×ag)}(X:K.In s.heap)(hc:kdsCode K env.code=true)(hp:kdsPlain e1=true)(hh:A.handled=none)(ei:s.heap.DictAt (lp prog w) d J ep)(vN:(d==ie)=false)(hl:J.length=5)(Z:∀(s':am)(H:ag->am->Prop),(∀b o,s.heap.get? b=some o->s'.heap.get? b=some o)->H (.str x tx) s'->aG (aR prog w) A (fy e1 env) H E s')(v2:∀(s':am)(H:ag->am->Prop),(∀b o,s.heap.get? b=some o->s'.heap.get? b=some o)->H (.ref d) s'->aG (aR prog w) A (fy e2 env) H E s')(h:∀h' tk o,(∀b H,s.heap.get? b=some H->h'.get? b=some H)->h'.get? s.heap.objs.size=some o->f9 w ((J.map (·.1)).foldl gN [x]) o->Q (.ref s.heap.objs.size) { s with heap:=h',toks:=tk }):aG (aR prog w) A (fy (.Set [e1, .Starred e2 Y] 0 pos) env) Q E s:=by
 have IR:w5 [e1, .Starred e2 Y] env=[(false,fy e1 env),(true,fy e2 env)]:=by cases e1<;>first|rfl|exact absurd hp (by trivial)
 refine au (pD ?_);refine au (kds_main X hc λb=>?_);simp only[IR];refine au (wpAny_newSet_of (knd:=lp prog w) λled z=>?_);refine au (fW ?_);have k0:∀b o,s.heap.get? b=some o->(s.heap.push { cls:= .type "set",dict:=none,data:= .set #[] 0 (.fresh 0 0 led) }).get? b=some o:=λb o e=>cZ _ e;refine au (au (au (Z _ _ k0 ?_)));refine au (pD (aH ?_));refine au (fW (aH ?_));refine aH (au (fW ?_));refine rR (aWy ..) (au ?_);refine au (au ?_);refine fW (au ((lp prog w).pyHash (ml ..) ?_));refine Pj (gZ _ rfl) (aFq led) (by simp) (by decide) λZ H Y vO oF=>?_;have H:∀b o,s.heap.get? b=some o->Z.get? b=some o:=λb o e=>(Y.2 b (dw (dJ e))).trans (k0 b o e);refine aH ?_;(try dsimp only);refine aH (aH ?_);refine au ?_;show aG _ _ _ ..;refine rR (aWy ..) (au (au (au (v2 _ _ H ?_))));refine au (pD (aH ?_));have Y:Z.DictAt (lp prog w) d J ep:=by exact c7 (id ei) λo J Z r=>⟨o,J,H _ _ Z,r⟩
 have Z:s.heap.objs.size≠d:=by exact c7 (id ei) λod J J j=>jd (dJ J)
 refine au (fW (aFo hh vN Y vO oF hl Z λY Z o2 J tR kM=>?_));refine aH ?_;(try dsimp only);exact aH (aH (aH (h Y Z o2 (λb o e=>J b o (dw (dJ e)) (H b o e)) tR kM)))
end
end
def pick(led:List (af×ar))(ix:List Nat):List (Option (af×ar)):=nc (ix.map λi=>led[i]?)
section
variable {led l':List (af×ar)}
theorem lO(H:ax True aa ak led s){ix:List Nat}(J:ix.Nodup)(e:pick led ix=l'.map some):ax True aa ak l' s:=⟨H.h.sel J e,H.os,H.gens,H.same⟩
theorem aH5{a l:List (af×ar)}(H:ax True (g6 s.heap (a.map (·.1))) ak l s')(lv:ik s.heap s'.heap):Goes a s.heap l s'.heap:=by
 refine⟨λb o e nb=>H.h.keep b o (ke _ e λY=>?_),lv,λp J=>?_⟩;·exact aO (bq.mp Y) λq Y Z=>nb q Y Z
 ·induction z:s.heap.get? p.1 with
  |none=>exact .inl rfl|some o=>
   by_cases q:p.1∈a.map (·.1);·exact aO (bq.mp q) λr Y Z=> .inr ⟨r,Y,Z⟩
   ·have:=H.h.off p J;replace this:=(ke _ z q)▸this;injection this
end
abbrev xY(w:aj)(G:TG)(a:AT)(S:SX)(ta:Nat)(tag:Str)(t:ab)(L tk:Nat):List (af×ar):=[(G.tg,dX 150 G.td),(G.td,fp w (.ref S.wm) G.b G.rs G.rn G.dl G.ds G.ns G.pm G.ps G.ti G.ep G.kt),(L+1+1,np none),(L+1,np (some (.ref G.tg))),(L,tO w a.at_ ta tag t tk [] 4)]
theorem aH6(w:aj)(G:TG)(a:AT)(S:SX)(ta:Nat)(tag:Str)(t:ab)(L tk sz:Nat)(H:Xs):Ends [0,1,2,3,4] ((aI w 0 0 none 300).S [] H ⟨xY w G a S ta tag t L tk,sz,tk+4,(dN 14 0x40084000040000024), .nil⟩ (aV (fC.take 1) (jT L)) fin) (.ok .next,(xY w G a S ta tag t L tk).map some,sz,tk+5):=by kernel_rfl
def t7(e:Option cq)(i:Nat):Pos:=match i with
 |0=>(oS e).pos|1=>(pE e 0).pos|2=>(xE (pE e 0) 1).pos|3=>(pE e 1).pos|4=>(xE (pE e 0) 0).pos|_=>(xE (xE (pE e 0) 1) 0).pos
theorem aH7(w:aj)(G:TG)(a:AT)(S:SX)(ta:Nat)(tag:Str)(t:ab)(L tk H sz tb:Nat)(J:ar)(p:d6)(Y:Xs):Ends [0,1,2,3,4,5] ((aI w 0 0 none 300).S [] Y ⟨(H,J)::xY w G a S ta tag t L tk,sz,tb,[6,6], .nil⟩ (bindName (jT L) "qnames" (.ref H) >>=λ_=>pure dm.next) fin) (.ok .next,((H,J)::[(G.tg,dX 150 G.td),(G.td,fp w (.ref S.wm) G.b G.rs G.rn G.dl G.ds G.ns G.pm G.ps G.ti G.ep G.kt)]++IQ w G a ta tag t L tk H tb).map some,sz,tb+1):=by kernel_rfl
noncomputable def cV(c:Nat)(z:List Nat)(l:List Nat):List Nat:=l.flatMap λk=>if k=c then z else [k]
theorem AD(c:Nat)(z:List Nat):∀l:List Nat,c ∉ l->cV c z l=l
 |[],_=>rfl|k::r,h=>by have H:¬k=c:=λe=>h (e▸aWz ..);show(if k=c then z else [k])++cV c z r=k::r;refine rR (if_neg H) (rR (AD c z r λm=>h (XE _ m)) ?_);rfl
theorem AE(c:Nat)(z a b:List Nat):cV c z (a++b)=cV c z a++cV c z b:=za ..
theorem sub_one(c:Nat)(z:List Nat):cV c z [c]=z:=by simp[cV]
theorem QL(c:Nat)(z:Str):∀H:List Str,(∀p∈H,c ∉ p.cps.toList)->cV c z.cps.toList (B4 ⟨#[c]⟩ H).cps.toList=(B4 z H).cps.toList
 |[],_=>rfl|[p],h=>AD c _ _ (h p (bI.mpr rfl))|p::q::r,h=>by show cV c z.cps.toList (p++⟨#[c]⟩++B4 ⟨#[c]⟩ _).cps.toList=(p++z++B4 z _).cps.toList;simp only[XT,zb];simp only[AE,AE,(QL c z _ λa H=>h a (XE _ H)),AD c _ _ (h p (aWz ..))];rw[sub_one]
theorem IS(x z:Str)(c:Nat):Txt.replace x ⟨#[c]⟩ z=⟨(cV c z.cps.toList x.cps.toList).toArray⟩:=by
 have:(Txt.replace x ⟨#[c]⟩ z).cps.toList=cV c z.cps.toList x.cps.toList:=by exact rR (StrLaws.replace_one ..) (rL (QL c z _ (aW0 x c) ..) (rR (aW1 ..) rfl))
 exact rL this rfl
theorem IT(c:Nat)(z l:List Nat)(n:Nat)(H:z.length<=n)(hn:1<=n):(cV c z l).length<=n*l.length:=by
 induction l with
 |nil=>simp[cV]|cons k r ih=>
  show((if k=c then z else [k])++cV ..).length<=_;simp only[bQ,eI,Nat.mul_succ];have:(if k=c then z else [k]).length<=n:=by
   split;·exact H
   ·exact hn
  exact qN [lE Y1 Y2,lE Y0 Y3] (lE (Y0+Y1) (Y2+Y3)) rfl ih this
def oN(l:List Nat):List Nat:=cV 13 (gD "&#xD;").cps.toList (cV 62 (gD "&gt;").cps.toList (cV 60 (gD "&lt;").cps.toList (cV 38 (gD "&amp;").cps.toList l)))
def qg(l:List Nat):List Nat:=cV 13 (gD "&#xD;").cps.toList (cV 10 (gD "&#xA;").cps.toList (cV 9 (gD "&#x9;").cps.toList (cV 34 (gD "&quot;").cps.toList (cV 60 (gD "&lt;").cps.toList (cV 38 (gD "&amp;").cps.toList l)))))
def trB(b:List cq):List Stmt:=pB b[0]? 0
def v7(b:List cq):PySem.Expr:=pE b[0]? 0
def AF(b:List cq):List Stmt:=pB b[0]? 0
def IU(b:List cq):Pos:=(oS b[0]?).pos
def DN(b:List cq):List ExceptHandler:=sH (oS b[0]?)
def trP(b:List cq):Pos:=(oS b[0]?).pos
def DP(κ:Bool):Nat:=nc (match κ with
 |false=>161|true=>168)
def nq(κ:Bool):Obj:=match κ with
 |false=>MK.1|true=>ML.1
def t8(κ:Bool):FuncData:=match (nq κ).data with
 | .func f=>f|_=>default
def iX(κ:Bool):List (Nat×Str×Str):=nc (match κ with
 |false=>[(38,"&","&amp;"),(60,"<","&lt;"),(62,">","&gt;"),(13,"\r","&#xD;")]|true=>[(38,"&","&amp;"),(60,"<","&lt;"),(34,"\"","&quot;"),(9,"\t","&#x9;"),(10,"\n","&#xA;"),(13,"\r","&#xD;")])
def QM(κ:Bool)(l:List Nat):List Nat:=match κ with
 |false=>oN l|true=>qg l
abbrev iY(κ:Bool):List Stmt:=trB (bodyOf (nq κ))
abbrev t9(κ:Bool)(L:af):Env:=mD (nq κ) (DP κ) L
abbrev nr(w:aj)(L k:Nat)(X:Str)(t:ab):List (af×ar):=nc ([(L,⟨.type "frame",none, .dict (cF [⟨aS w.params "text", .str "text" k, .str X t⟩]) 1,#[]⟩)])
theorem IV{P:Bool->Nat->Nat×Str×Str->Prop}(a:∀i r,(iX false)[i]?=some r->P false i r)(b:∀i r,(iX true)[i]?=some r->P true i r):∀κ i r,(iX κ)[i]?=some r->P κ i r
 |false=>a|true=>b
theorem DQ{P:Nat->α->Prop}{a b c d:α}(Y:P 0 a)(J:P 1 b)(H:P 2 c)(Z:P 3 d):∀i r,[a,b,c,d][i]?=some r->P i r
 |0,_,e=>dH e▸Y|1,_,e=>dH e▸J|2,_,e=>dH e▸H|3,_,e=>dH e▸Z|_+4,_,e=>nomatch e
theorem IW{P:Nat->α->Prop}{a b c d x y:α}(Z:P 0 a)(Y:P 1 b)(H:P 2 c)(h3:P 3 d)(J:P 4 x)(h5:P 5 y):∀i r,[a,b,c,d,x,y][i]?=some r->P i r
 |0,_,e=>dH e▸Z|1,_,e=>dH e▸Y|i+2,r,e=>DQ (P:=λi=>P (i+2)) H h3 J h5 i r e
section
variable (w:aj)(κ:Bool)(X r:Str)(t:ab)(L k sz tk:Nat)(σ:Xs)
theorem aH8:(K w.params).lookup (DP κ)=some ⟨(nq κ).cls,(nq κ).dict, .func (t8 κ),(nq κ).slots⟩:=by induction κ<;>kernel_rfl
theorem aH9:bA ((aI w 0 0 none 400).S [] σ ⟨[],sz,tk,[], .nil⟩ (md (t8 κ) ⟨[.str X t],[]⟩) fin) (.ok [("text", .str X t)],[],sz,tk):=by induction κ<;>kernel_rfl
theorem aIa:bA ((aI w 0 0 none 400).S [] σ ⟨[],sz,tk,[1,1], .nil⟩ (me (t8 κ).scope (t8 κ).globals (t8 κ).closure [("text", .str X t)] ((t8 κ).qualname++".<locals>.") (some (DP κ)) (t8 κ).code none (t8 κ).builtins) fin) (.ok (t9 κ sz),nr w sz tk X t,sz+1,tk+1):=by induction κ<;>kernel_rfl
def QN(b:Bool)(i:Nat)(p:Str):=(aI w 0 0 none 400).S [] σ ⟨nr w L k X t,sz,tk,[1,2],mu X p t tk b λ_=> .nil⟩ (MD (v7 ((iY κ).drop i)) (t9 κ L) (fy (v7 ((iY κ).drop i)) (t9 κ L))) fin
theorem QO(b:Bool)(i:Nat){c:Nat}{p q:Str}(h:(iX κ)[i]?=some (c,p,q)):bA (QN w κ X t L k sz tk σ b i p) (.ok b,nr w L k X t,σ 0 0,σ 0 1):=IV (P:=λκ i r=>bA (QN w κ X t L k sz tk σ b i r.2.1) _) (DQ (by kernel_rfl) (by kernel_rfl) (by kernel_rfl) (by kernel_rfl)) (IW (by kernel_rfl) (by kernel_rfl) (by kernel_rfl) (by kernel_rfl) (by kernel_rfl) (by kernel_rfl)) κ i _ h
def QP(i:Nat)(p q:Str):=(aI w 0 0 none 400).S [] σ ⟨nr w L k X t,sz,tk,[1,2,1,1],vB X p q r t tk (tk+1) λ_=> .nil⟩ (aV (AF ((iY κ).drop i)) (t9 κ L)) fin
theorem aIb(i:Nat){c:Nat}{p q:Str}(h:(iX κ)[i]?=some (c,p,q)):bA (QP w κ X r t L k sz tk σ i p q) (.ok .next,nr w L k r (σ 0 2),σ 0 0,σ 0 1+1):=IV (P:=λκ i y=>bA (QP w κ X r t L k sz tk σ i y.2.1 y.2.2) _) (DQ (by kernel_rfl) (by kernel_rfl) (by kernel_rfl) (by kernel_rfl)) (IW (by kernel_rfl) (by kernel_rfl) (by kernel_rfl) (by kernel_rfl) (by kernel_rfl) (by kernel_rfl)) κ i _ h
theorem aIc:bA ((aI w 0 0 none 400).S [] σ ⟨nr w L k X t,sz,tk,[1], .nil⟩ (aV ((iY κ).drop (iX κ).length) (t9 κ L)) fin) (.ok (.ret (.str X t)),nr w L k X t,sz,tk):=by induction κ<;>kernel_rfl
theorem aId(i:Nat){c:Nat}{p q:Str}(h:(iX κ)[i]?=some (c,p,q)):(iY κ).drop i= .If (v7 ((iY κ).drop i)) (AF ((iY κ).drop i)) [] (IU ((iY κ).drop i))::(iY κ).drop (i+1):=IV (P:=λκ i r=>(iY κ).drop i= .If (v7 ((iY κ).drop i)) (AF ((iY κ).drop i)) [] (IU ((iY κ).drop i))::(iY κ).drop (i+1)) (DQ (by kernel_rfl) (by kernel_rfl) (by kernel_rfl) (by kernel_rfl)) (IW (by kernel_rfl) (by kernel_rfl) (by kernel_rfl) (by kernel_rfl) (by kernel_rfl) (by kernel_rfl)) κ i _ h
theorem aIe:bodyOf (nq κ)=[.Try (iY κ) (DN (bodyOf (nq κ))) [] [] (trP (bodyOf (nq κ)))]:=by induction κ<;>kernel_rfl
theorem aIf:∃h H,DN (bodyOf (nq κ))=h::H:=by
 have:0<(DN (bodyOf (nq κ))).length:=by induction κ<;>exact dk (by kernel_rfl)
 induction h:DN _ with
 |nil=>replace this:=h▸this;contradiction|cons a b=>exact⟨_,_,rfl⟩
end
theorem in1(x:Str)(p:Str)(c:Nat)(h:p=⟨#[c]⟩):(!(kb x p 0 x.length 1).isEmpty)=decide (c∈x.cps.toList):=h▸StrLaws.found_one x c
theorem aIg(X:aK w aa)(hA:A.handled=none)(κ:Bool)(L k:Nat){x:Str}(i:Nat){c:Nat}{p q:Str}(h:(iX κ)[i]?=some (c,p,q))(hp:p=⟨#[c]⟩)(zE:(p==q)=false)(hq:q.length<=6)(hx:x.length<=1000000)(SR:ax True aa ak (nr w L k x t) s)(kr:1<=s.toks)(Z:∀t' s',ax True aa ak (nr w L k ⟨(cV c q.cps.toList x.cps.toList).toArray⟩ t') s'->1<=s'.toks->aG (av w) A (aV ((iY κ).drop (i+1)) (t9 κ L)) Q E s'):aG (av w) A (aV ((iY κ).drop i) (t9 κ L)) Q E s:=by
 refine rR (aId κ i h) (mW (wpAny_If (XU kr ?_)));induction Y:decide (c∈x.cps.toList)with
 |false=>
  refine gL SR X hA 0 0 400 [1,2] (mu x p t s.toks false λz=> .nil) (λz=>nZ ((in1 x p c hp).trans Y) λz z=>True.intro) nofun (a8 _) _ _ _ _ (λH=>QO w κ x t L k _ _ H false i h) λH J S1 z z z p1=>qC ?_
  rw[AD _ _ _ (of_decide_eq_false Y)]at Z;exact Z t J S1 p1
 |true=>
  refine gL SR X hA 0 0 400 [1,2] (mu x p t s.toks true λz=> .nil) (λz=>nZ ((in1 x p c hp).trans Y) λz z=>True.intro) nofun (a8 _) _ _ _ _ (λH=>QO w κ x t L k _ _ H true i h) λH J S1 z z z p1=>XU p1 (gL S1 X hA 0 0 400 [1,2,1,1] (vB x p q ⟨(cV ..).toArray⟩ t J.toks _ λz=> .nil) (λz=>Hu (by induction h:J.toks with|zero=>replace p1:=h▸p1;cases p1|succ n=>rfl) (beq_false_of_ne (dw (wW _))) zE (aE hx (by decide)) (aE hq (by decide)) (rR hp (IS ..)) λz z=>True.intro) nofun (a8 _) _ _ _ _ (λH=>aIb w κ x ⟨(cV ..).toArray⟩ t L k _ _ H i h) λH s2 S2 z z z p2=>?_)
  exact Z _ s2 S2 p2
theorem aIh(κ:Bool):∀r∈iX κ,r.2.1=⟨#[r.1]⟩/\(r.2.1==r.2.2)=false/\r.2.2.length<=6:=by induction κ<;>decide+kernel
abbrev IX(l:List (Nat×Str×Str))(x:List Nat):List Nat:=l.foldl (λl r=>cV r.1 r.2.2.cps.toList l) x
theorem QQ(X:aK w aa)(J:A.handled=none)(κ:Bool)(L k:Nat):∀(n i:Nat)(x:Str)(t:ab)(s:am),i+n=(iX κ).length->x.length<=100*6 ^ i->ax True aa ak (nr w L k x t) s->1<=s.toks->(∀t' s',ax True aa ak (nr w L k ⟨(IX ((iX κ).drop i) x.cps.toList).toArray⟩ t') s'->Q (.ret (.str ⟨(IX ((iX κ).drop i) x.cps.toList).toArray⟩ t')) s')->aG (av w) A (aV ((iY κ).drop i) (t9 κ L)) Q E s
 |0,i,x,t,s,hi,hx,SR,kr,hQ=>by obtain rfl:i=(iX κ).length:=hi;replace hQ:=List.drop_length▸hQ;exact gL SR X J 0 0 400 [1] .nil (λz=>True.intro) nofun (a8 _) _ _ _ _ (λZ=>aIc ..) λZ Z S1 z z z=>hQ t Z S1
 |n+1,i,x,t,s,hi,hx,SR,kr,hQ=>by
  have H:=hi▸aWv (BO n);have Y:(iX κ).length<=6:=by induction κ<;>decide
  refine cJ (aIh κ _ (uT H)) λr1 r2 r3=>?_;replace hQ:=(aVu H)▸hQ;refine aIg X J κ L k i (gF H) r1 r2 r3 (aE hx (aE (dU _ (FF (by decide) (Fv (qr H Y)))) (by decide:100*6 ^ 5<=1000000))) SR kr λt' s' H Y=>?_;refine QQ X J κ L k n _ _ t' s' (hi▸Nat.succ_add_eq_add_succ i n) ?_ H Y hQ;exact aE ((IT (iX κ)[i].1 (iX κ)[i].2.2.cps.toList x.cps.toList 6 (r3) (by decide))) (rR (XV ..) (rL (ja ..) (rR (dW ..) (jG _ hx))))
theorem QR(κ:Bool)(XK:aK w aa)(J:aa.NoLimit)(Z:A.handled=none)(hd:A.depth+1<=bk)(x:Str)(hx:x.length<=100)(t:ab):Told True (av w) A U fr aa (.call (.ref (DP κ)) ⟨[.str x t],[]⟩) [] (λe=>⟨.ok (.ret (.str ⟨(QM κ x.cps.toList).toArray⟩ (e 2))),[],[],e 0,e 1⟩):=by
 refine Da (body:=bodyOf (nq κ)) XK J Z hd (aH8 w κ) (by induction κ<;>rfl) (by induction κ<;>rfl) (by induction κ<;>kernel_rfl) (by induction κ<;>kernel_rfl) [("text", .str x t)] [] (λL tk J=>aH9 ..) _ (λL tk=>nr ..) 1 1 [1,1] (λL tk J=>aIa ..) (λz=>rfl) ?_;intro J L tk s ak Q E aq iW j j j X1 j Z j J dq;rw[aIe];refine ve (aIf κ) λh hs e=>rR e (mW (wpAny_Try_except ?_));refine QQ X1 iW κ L tk (iX κ).length 0 x t s (Mo _) (aE hx (by decide)) Z (J▸BO _) λY s' H=>?_;have e:IX (iX κ) x.cps.toList=QM κ x.cps.toList:=by induction κ<;>rfl
 simp only[List.drop_zero,e]at H ⊢;exact dq (λi=>match i with|0=>s'.heap.objs.size|1=>s'.toks|_=>Y) _ s' rfl rfl rfl (qb H)
section
open PySem PySem.W PyProof.Rows PySem.P
open PySem.Builtin.Str in
theorem aIi(sep:Str):∀l:List (Str×ab),2<=l.length->joinMade sep l= .str (glued sep (l.map (·.1)))
 |_::_::_,_=>rfl
section
variable {next:aM}
open PySem.Builtin.Str in
theorem IY{l:List (Str×ab)}{e:Nat}{sep:Str}(J:2<=l.length)(Z:tooLong ((l.map (·.1)).toArray.foldl (· +·.length+sep.length) 0)=false)(Y:(glued sep (l.map (·.1))).length<=gA):Told ao (av w) A U fr aa (bC "str.join" [.str sep t, .ref D]) [(D,listOf (pJ l).toArray e)] (λx=>⟨.ok (.ret (.str (glued sep (l.map (·.1))) (x 2))),[(D,listOf (pJ l).toArray e)],[],x 0,x 1⟩):=by intro u s ak R hu H z hR;refine dK ME.plain XW (ME.check _ _ _ _ _ _ _ _ (ic ..) (aW2 _ _) ((XX sep t D l Z) _ _ _ R s ⟨⟨_,H.h.at_ _ ay,rfl,_,rfl⟩,?_⟩));refine rR (aIi sep l J) ⟨Y,?_⟩;exact hR (λi=>bif bZ i 0 then s.heap.objs.size else bif bZ i 1 then s.toks+1 else s.toks) _ rfl rfl rfl (λp J=>absurd J bi) ⟨H.h,H.os,H.gens,H.same⟩ λb o H J=>H
end
end
def rq:FuncData:=match uZ.1.data with
 | .func f=>f|_=>default
abbrev AG:List Stmt:=bodyOf uZ.1
abbrev DR(L:af):Env:=mD uZ.1 106 L
abbrev oO(w:aj)(G:TG)(S:SX)(x:Str)(t:ab)(H:Nat):List (af×ar):=[(G.tg,dX 150 G.td),(G.td,fp w (.ref S.wm) G.b true G.rn G.dl G.ds G.ns G.pm G.ps G.ti G.ep G.kt),(G.dl,listOf [ag.str x t].toArray H),(G.ps,listOf (S.cw++[dY false]).toArray S.dD),(S.wm,fY S.wl),(S.wl,listOf S.wv.toArray S.we)]
abbrev AH(w:aj)(G:TG)(L tk:Nat):List (af×ar):=nc ([(L,⟨.type "frame",none, .dict (cF [⟨aS w.params "self", .str "self" tk, .ref G.tg⟩,⟨aS w.params "_join_text", .str "_join_text" (tk+1), .ref 98⟩]) 2,#[]⟩)])
abbrev AI(i D:Nat)(x:Str)(t u:ab)(e:Nat)(next:aM):aF:=nc (.cons (some 0) (.builtin "str.join" ⟨[.str "" u, .ref D],[]⟩) [i] [(D,listOf [ag.str x t].toArray e)] (λy=>⟨.ok (.ret (.str x t)),[(D,listOf [ag.str x t].toArray e)],[],y 0,y 1⟩) next)
abbrev IZ(x y:Str)(t:ab)(next:aM):aF:=cM "str.strip" [.str x t] (λk=> .str y k) next
abbrev v8(v:Str):Str:=⟨(oN v.cps.toList).toArray⟩
abbrev QS(v:Str)(H:ab)(next:aM):aF:= .cons none (gG 161 [.str v H]) [] [] (λe=>⟨.ok (.ret (.str (v8 v) (e 2))),[],[],e 0,e 1⟩) next
theorem aIj{x:Str}(J:x.length=k)(Z:k<=1000):Told ao (av w) A U fr aa (.builtin "len" ⟨[.str x t],[]⟩) [] (λy=>⟨.ok (.ret (.int k (y 2))),[],[],y 0,y 1⟩):=by
 intro u s ak R Y H j hR;refine qw WE ?_;have Y:¬(((x.length:Nat):Int)>=2 ^ 63):=by exact rR J (wN.mpr (iB [(k:Nat)] [lE Y0 1000] (lL Y0 9223372036854775808) rfl (bK.mpr Z)))
 refine pA (PySem.wpAny_len_body (Q:=λr s'=>r= .int k _/\s'={ s with toks:=s.toks+1+1 }) (ic ..) PySem.F.slot_str_len PySem.F.entry_str_len (PySem.F.args_str_len_1 _) (PySem.gives_str_len x t) (fH.mpr ((bG _))) Y ⟨rR J rfl,rfl⟩) (λJ s' h'=>?_) λz z e=>e;obtain⟨r,rfl,rfl,rfl⟩:=h';exact hR (λi=>bif bZ i 0 then s.heap.objs.size else bif bZ i 1 then s.toks+1+1 else s.toks+1) _ rfl rfl rfl (λp J=>nomatch J) ⟨H.h,H.os,H.gens,H.same⟩ λb o H J=>H
abbrev AJ(x:Str)(t:ab)(k:Nat)(next:aM):aF:=nc (.cons (some 0) (.builtin "len" ⟨[.str x t],[]⟩) [] [] (λy=>⟨.ok (.ret (.int k (y 2))),[],[],y 0,y 1⟩) next)
theorem xZ{F:af}{J:ag}{Y:Option af}{sN:Array (Option ag)}{a:List (af×ar)}{postA:(Nat->Nat)->List (af×ar)}{q:Str}{nms:List (Str×BL)}{xc xd:Bool}{xe:List (Str×Const)}{ze:ag}(cl:af->List (Str×af))(hF:(K w.params).lookup F=some ⟨J,Y, .func fd,sN⟩)(HK:fd.scope.isCoroutine=false)(HL:fd.scope.isGenerator=false)(HM:fd.body= .stmts body)(z7:LU (K w.params) fd.code fd.qualname=true)(J:List (Str×ag))(z8:List Nat)(e0:∀Y tk σ,Ends (fI a.length) ((aI w 0 0 none 400).S [] σ ⟨a,Y,tk,z8, .nil⟩ (md fd args) fin) (.ok J,a.map some,Y,tk))(ns:af->Nat->List (af×ar))(kz z9:Nat)(Aa I0:List Nat)(IR:I0.Nodup)(e1:∀Y tk σ,Ends I0 ((aI w 0 0 none 400).S [] σ ⟨a,Y,tk,Aa, .nil⟩ (me fd.scope fd.globals fd.closure J (fd.qualname++".<locals>.") (some F) fd.code none fd.builtins) fin) (.ok (su q ⟨.function,nms,xc,xd,xe⟩ Y F ze (cl Y)),(a++ns Y tk).map some,Y+kz,tk+z9))(jk:∀x,(out x).post=postA x++ro)(hpa:∀x,(postA x).map (·.1)=a.map (·.1))(hB:∀(k:KX)(tk:Nat)(s ak:am)(Q:dm->am->Prop)(E:ag->am->Prop)(aq:aw),k.Ok w->k.aa.objs.size<=k.L->k.dp+n< bk+1->k.un+40*n< dQ+3->(∀b o,k.aa.get? b=some o->aq.get? b=some o)->(∀p∈ro,aq.get? p.1=some p.2/\p.1≠k.L/\k.aa.get? p.1=none)->(ro.map (·.1)).Nodup->ax True aq ak (a++ns k.L tk) s->s.heap.objs.size=k.L+kz->s.toks=tk+z9->(∀x fl s',(out x).res= .ok (.ret (match fl with| .ret v=>v|_=> .none))->s'.heap.objs.size=(out x).sz->s'.toks=(out x).tk->ax True aq ak ((out x).new++postA x) s'->ik s.heap s'.heap->Q fl s')->aG (av w) k.bE (aV body (su q ⟨.function,nms,xc,xd,xe⟩ k.L F ze (cl k.L))) Q E s):nW w (.call (.ref F) args) n (a++ro) out:=by
 intro k m news s R ok Fk Nw nd dj hd hu hb hR;have hX:aK w s.heap:=λa o e=>Fk.keep _ _ (ok.X a o e);refine zh (groundX (R:=R) (A:=k.bE) ok.B Fk Nw rfl rfl rfl) λJ BG st u=>?_;have SR:ax True (g6 s.heap ((a++ro++news).map (·.1))) s _ s:=⟨⟨λp hp=>(Nw p (bL _ hp)).1,nd,λb o e=>yX _ e,λp hp=>yY _ (b7 (bL _ hp))⟩,rfl,λj=>hb, .inl True.intro⟩
 refine cJ (kG SR) λJ b6 aZ=>?_;have QT:aK w _:=λa o e=>st _ _ (ok.X a o e);have QU:aK w _:=λa o e=>aZ _ _ (QT a o e);refine FA (show k.dp< bk by exact b8 [lL (Y0+Y2) Y1] (lL Y0 Y1) rfl hd) (hX _ _ hF) rfl HK HL HM (BJ hX z7) (wp_run J QU rfl 0 0 400 z8 _ .nil (λj=>True.intro) nofun (a8 _) uW _ _ _ _ (e0 _ _) λJ J DT DU I4 G0=>?_);have Au:=e1 s.heap.objs.size s.toks;replace Au:=I4▸(DU▸Au)
 refine wp_run DT QU rfl 0 0 400 Aa I0 .nil (λj=>True.intro) nofun (a8 _) IR _ _ _ _ Au λσ s1 Y ku HN J=>?_
 have G1:=G0.trans J;simp only[DU,I4]at Y G1;rw[DU]at ku;rw[I4]at HN;refine⟨ok.T.nolimit.keeps (λb o e=>Y.h.keep b o (aZ b o (st b o e))),Mi ?_⟩;refine rR DU ?_;let k':KX:=⟨k.p,k.loose,k.sM,k.mg,k.mb,k.dp+1,k.un+3,k.gd,q,nms,xc,xd,xe,F,ze,cl s.heap.objs.size,su k.cn k.sc k.L k.a k.mr k.cl::k.outer,k.bE,k.base,g6 s.heap ((a++ro++news).map (·.1)),s.heap.objs.size⟩
 have J:k'.Ok w:=⟨BG,QT,ok.T.keeps st,ok.C⟩
 have qO:=nd;rw[bM,fj]at qO;refine hB k' s.toks s1 s _ _ _ J (qu (hideAll_size _ _)) (b8 [lL (Y0+Y1) Y2] (lL (Y0+1+Y1) (Y2+1)) rfl hd) (b8 [lL (Y0+(.m 40 Y1)) Y2] (lL (Y0+3+(.m 40 Y1)) (Y2+3)) rfl hu) aZ (λp hp=>⟨b6 p hp,dw (SR.h.low p (bD _ hp)),SR.h.off p (bD _ hp)⟩) qO.2.1 Y ku HN λx fl s' Ab gH jU QW lv=>?_;obtain⟨Z,G⟩:=aDw SR QW (aH5 QW λz o e=>(G1.live z o e).elim λJ Y=>lv z J Y);have J:(out x).new++postA x++ro=(out x).new++(out x).post:=by simp only[jk x,bH]
 simp only[J]at Z G;have QX:(out x).post.map (·.1)=(a++ro).map (·.1):=by simp only[jk,bM,bM,hpa]
 have e:=hR x s' gH jU Z.os (Z.gens True.intro);rw[Ab]at e;refine mY Fk.ns λoL es ep hL hLr=>?_;have kL:=G.keep _ _ hL λp hp=>(Nw p (bL _ hp)).2.1;have mq:=Z.h.nd;rw[bM,fj]at mq;have old:∀p∈(out x).post,∃r∈a++ro,r.1=p.1:=λp hp=>by have:p.1∈(out x).post.map (·.1):=b7 hp;rw[QX]at this;exact bq.mp this
 have H:∀p∈(out x).new,s.heap.get? p.1=none:=λp hp=>by
  rcases G.new p (bL _ hp)with h|⟨r,hr,er⟩
  ·exact h
  ·refine absurd rfl (mq.2.2 p.1 (b7 hp) p.1 ?_);exact rR QX (rL er (b7 hr))
 refine e ⟨⟨oL,es,ep,kL,hLr⟩,λb o e=>Z.h.keep b o (st b o e),Fk.above⟩ (λp hp=>?_) mq.1 (λp hp r hr e=>?_) (kL.trans hL.symm)
 ·rcases cr.mp hp with hp|hp
  ·have f:=H p hp;refine⟨Z.h.at_ p (bL _ hp),λq=>(by replace f:=hL▸(q▸f);injection f),?_⟩;induction z:k.aa.get? p.1 with
   |none=>rfl|some o=>replace f:=(Fk.keep _ _ z)▸f;injection f
  ·rcases cr.mp hp with hp|hp
   ·refine aO (old p hp) λr hr er=>?_;have J:=(Nw r (bL _ hr)).2;rw[er]at J;exact⟨Z.h.at_ p (bD _ hp),J⟩
   ·exact⟨G.keep _ _ (Nw p (bD _ hp)).1 λr hr=>(dj p hp r hr).symm,(Nw p (bD _ hp)).2⟩
 ·have f:=H p hp;replace f:=((Nw r hr).1)▸(e▸f);injection f
def QY:List Nat:=(dN 155 0x8e73980610100180420000200000100001000010000120601080000800000481206010800008000004842048008a52800300840000400000240c02100001000000904210810842101004208010800008000004e738800008010800008000004e7)
def aIk(w:aj)(G:TG)(S:SX)(x:Str)(c:Nat)(r:List Nat)(t:ab)(H:Nat):aF:=AI 2 G.dl x t 437 H λj=>xV 4 G.ps S.cw (.bool false) S.dD (j 1+5) λl=>IZ x ⟨(c::r).toArray⟩ t λH=>AJ ⟨(c::r).toArray⟩ (H 2) (r.length+1) λJ=>QS ⟨(c::r).toArray⟩ (H 2) λe=>rk 6 S.wl S.wv S.we (.str (v8 ⟨(c::r).toArray⟩) (e 2)) λa=> .nil
theorem aIl(w:aj)(G:TG)(S:SX)(x:Str)(c:Nat)(r:List Nat)(t:ab)(J L tk:Nat)(sz tb:Nat)(H:Xs):Ends [1,2,3,4,5,6] ((aI w 0 0 (some L) 500).S [] H ⟨oO w { G with b:=true } S x t J++AH w G L tk,sz,tb,QY,aIk w G S x c r t J⟩ (aV AG (DR L)) fin) (.ok .next,[(G.tg,dX 150 G.td),(G.td,fp w (.ref S.wm) true true G.rn G.dl G.ds G.ns G.pm G.ps G.ti G.ep G.kt),(G.dl,listOf ([]:List ag).toArray (J+1)),(G.ps,listOf (S.cw++[dY false]).toArray S.dD),(S.wm,fY S.wl),(S.wl,listOf (S.wv++[ag.str (v8 ⟨(c::r).toArray⟩) (H 4 2)]).toArray (S.we+1))].map some,H 5 0,H 5 1):=by revert w;refine bW (λw=>?_) (λw=>?_)<;>kernel_rfl
def QZ:List Nat:=(dN 104 0x1206010800008000004842048008a52800300840000400000240c02100001000000904210810842101004208010800008000004e738800008010800008000004e7)
def aIm(w:aj)(G:TG)(S:SX)(x:Str)(c:Nat)(r:List Nat)(t:ab)(H:Nat):aF:=AI 2 G.dl x t 437 H λj=>xV 4 G.ps S.cw (.bool false) S.dD (j 1+5) λl=>IZ x ⟨[].toArray⟩ t λH=>AJ ⟨[].toArray⟩ (H 2) 0 λH=> .nil
theorem aIn(w:aj)(G:TG)(S:SX)(x:Str)(c:Nat)(r:List Nat)(t:ab)(H L tk:Nat)(sz tb:Nat)(J:Xs):Ends [1,2,3,4,5,6] ((aI w 0 0 (some L) 500).S [] J ⟨oO w { G with b:=true } S x t H++AH w G L tk,sz,tb,QZ,aIm w G S x c r t H⟩ (aV AG (DR L)) fin) (.ok .next,[(G.tg,dX 150 G.td),(G.td,fp w (.ref S.wm) true true G.rn G.dl G.ds G.ns G.pm G.ps G.ti G.ep G.kt),(G.dl,listOf ([]:List ag).toArray (H+1)),(G.ps,listOf (S.cw++[dY false]).toArray S.dD),(S.wm,fY S.wl),(S.wl,listOf S.wv.toArray S.we)].map some,J 3 0,J 3 1):=by revert w;refine bW (λw=>?_) (λw=>?_)<;>kernel_rfl
def Q0:List Nat:=(dN 130 0x4739cc03080800c021000010000008000080000800009030084000040000024090300840000400000240c02100001000000904210810842101004208010800008000004e738800008010800008000004e7)
def aIo(w:aj)(G:TG)(S:SX)(x:Str)(c:Nat)(r:List Nat)(t:ab)(H:Nat):aF:=AI 2 G.dl ⟨(c::r).toArray⟩ t 437 H λj=>AJ ⟨(c::r).toArray⟩ t (r.length+1) λH=>QS ⟨(c::r).toArray⟩ t λe=>rk 6 S.wl S.wv S.we (.str (v8 ⟨(c::r).toArray⟩) (e 2)) λa=> .nil
theorem aIp(w:aj)(G:TG)(S:SX)(x:Str)(c:Nat)(r:List Nat)(t:ab)(J L tk:Nat)(sz tb:Nat)(H:Xs):Ends [1,2,3,4,5,6] ((aI w 0 0 (some L) 500).S [] H ⟨oO w { G with b:=false } S ⟨(c::r).toArray⟩ t J++AH w G L tk,sz,tb,Q0,aIo w G S x c r t J⟩ (aV AG (DR L)) fin) (.ok .next,[(G.tg,dX 150 G.td),(G.td,fp w (.ref S.wm) false true G.rn G.dl G.ds G.ns G.pm G.ps G.ti G.ep G.kt),(G.dl,listOf ([]:List ag).toArray (J+1)),(G.ps,listOf (S.cw++[dY false]).toArray S.dD),(S.wm,fY S.wl),(S.wl,listOf (S.wv++[ag.str (v8 ⟨(c::r).toArray⟩) (H 2 2)]).toArray (S.we+1))].map some,H 3 0,H 3 1):=by revert w;refine bW (λw=>?_) (λw=>?_)<;>kernel_rfl
def Q1:List Nat:=(dN 79 0x90300840000400000240c02100001000000904210810842101004208010800008000004e738800008010800008000004e7)
def aIq(w:aj)(G:TG)(S:SX)(x:Str)(c:Nat)(r:List Nat)(t:ab)(H:Nat):aF:=AI 2 G.dl ⟨[].toArray⟩ t 437 H λj=>AJ ⟨[].toArray⟩ t 0 λH=> .nil
theorem aIr(w:aj)(G:TG)(S:SX)(x:Str)(c:Nat)(r:List Nat)(t:ab)(H L tk:Nat)(sz tb:Nat)(J:Xs):Ends [1,2,3,4,5,6] ((aI w 0 0 (some L) 500).S [] J ⟨oO w { G with b:=false } S ⟨[].toArray⟩ t H++AH w G L tk,sz,tb,Q1,aIq w G S x c r t H⟩ (aV AG (DR L)) fin) (.ok .next,[(G.tg,dX 150 G.td),(G.td,fp w (.ref S.wm) false true G.rn G.dl G.ds G.ns G.pm G.ps G.ti G.ep G.kt),(G.dl,listOf ([]:List ag).toArray (H+1)),(G.ps,listOf (S.cw++[dY false]).toArray S.dD),(S.wm,fY S.wl),(S.wl,listOf S.wv.toArray S.we)].map some,J 1 0,J 1 1):=by revert w;refine bW (λw=>?_) (λw=>?_)<;>kernel_rfl
section
variable {next:aM}
theorem aIs{x:Str}{e:Nat}(J:x.length<=1000):Told ao (av w) A U fr aa (.builtin "str.join" ⟨[.str "" u, .ref D],[]⟩) [(D,listOf [ag.str x t].toArray e)] (λy=>⟨.ok (.ret (.str x t)),[(D,listOf [ag.str x t].toArray e)],[],y 0,y 1⟩):=by
 intro v s ak R J H z Y;have J:("":Str).length=0:=by decide+kernel
 have g:=XX "" u D [(x,t)] (by show sw (0+x.length+("":Str).length)=false;refine rR J ?_;have J:=nP;exact decide_eq_false (by omega));refine qw XW (g _ _ _ R s ⟨⟨_,H.h.at_ _ ay,rfl,_,rfl⟩,?_⟩);exact Y (λi=>bif bZ i 0 then s.heap.objs.size else s.toks) s rfl rfl rfl (λp J=>absurd J bi) ⟨H.h,H.os,H.gens,H.same⟩ λb o H J=>H
theorem DW{i D:Nat}{x:Str}{e:Nat}(H:x.length<=1000)(k:∀y lv,(next y).Ok ao (av w) A U fr aa lv):(AI i D x t u e next).Ok ao (av w) A U fr aa lv:=nY (λJ z z=>aIs H) λy z z=>k y _
theorem aIt{x:Str}(H:x.length<=1000):Told ao (av w) A U fr aa (bC "str.strip" [.str x t]) [] (λy=>⟨.ok (.ret (.str (pK x) (y 2))),[],[],y 0,y 1⟩):=eO aW3 aW4 (PySem.F.args_str_strip_1 _) (gives_str_strip x t) (λs=>ic ..) λQ s k=>post_val_or_made (λz=>fits_stripped _ _ _ (aE H (by decide))) λH tk=>k H tk
theorem Q2{x y:Str}(J:x.length<=1000)(H:pK x=y)(k:bJ next ao w A U fr aa):(IZ x y t next).Ok ao (av w) A U fr aa lv:=by subst H;exact dZ (λz=>aIt J) λe z=>k e lv
theorem DX{x:Str}(H:x.length=n)(J:n<=1000)(k:bJ next ao w A U fr aa):(AJ x t n next).Ok ao (av w) A U fr aa lv:=⟨rfl,bN,λY z z=>aIj H J,λx z z=>k x _⟩
end
def iZ(b:Bool)(x:Str):Str:=nc (match b with
 |true=>pK x|false=>x)
def qh(y:Str)(t:ab):List Value:=match y.cps.toList with
 |[]=>[]|_=>[ag.str (v8 y) t]
def AK(y:Str):Nat:=nc (match y.cps.toList with
 |[]=>0|_=>1)
def AM(w:aj)(G:TG)(S:SX)(x:Str)(H:Nat)(y:Nat->Nat):List (af×ar):=[(G.tg,dX 150 G.td),(G.td,fp w (.ref S.wm) G.b true G.rn G.dl G.ds G.ns G.pm G.ps G.ti G.ep G.kt),(G.dl,aA [] (H+1)),(G.ps,aA (S.cw++[dY false]) S.dD),(S.wm,fY S.wl),(S.wl,aA (S.wv++qh (iZ G.b x) (y 2)) (S.we+AK (iZ G.b x)))]
def v9(w:aj)(G:TG)(S:SX)(x:Str)(H:Nat):(Nat->Nat)->Out:=λy=>⟨.ok (.ret .none),AM w G S x H y,[],y 0,y 1⟩
theorem aIu(w:aj):(K w.params).lookup 106=some ⟨uZ.1.cls,uZ.1.dict, .func rq,uZ.1.slots⟩:=by kernel_rfl
abbrev flQ:Str:=nc ("C14NWriterTarget._flush")
def DY:Scope:=nc (rq.scope)
abbrev Q3(G:TG):List (Str×ag):=nc ([("self", .ref G.tg),("_join_text", .ref 98)])
theorem aIv(w:aj)(G:TG)(S:SX)(x:Str)(t:ab)(H J tk:Nat)(Y:Xs):Ends (fI (oO w G S x t H).length) ((aI w 0 0 none 400).S [] Y ⟨oO w G S x t H,J,tk,[0], .nil⟩ (md rq ⟨[.ref G.tg],[]⟩) fin) (.ok (Q3 G),(oO w G S x t H).map some,J,tk):=by kernel_rfl
theorem aIw(w:aj)(G:TG)(S:SX)(x:Str)(t:ab)(J H tk:Nat)(Y:Xs):Ends [1,2,3,4,5,6,0] ((aI w 0 0 none 400).S [] Y ⟨oO w G S x t J,H,tk,[1,1,1,1], .nil⟩ (me rq.scope rq.globals rq.closure (Q3 G) (rq.qualname++".<locals>.") (some 106) rq.code none rq.builtins) fin) (.ok (su flQ ⟨.function,DY.names,DY.isGenerator,DY.isCoroutine,DY.more⟩ H 106 (.ref 105) []),(oO w G S x t J++AH w G H tk).map some,H+1,tk+2):=by kernel_rfl
theorem Q4(y:Str):(y=⟨([]:List Nat).toArray⟩)\/∃c r,y=⟨(c::r).toArray⟩:=by
 obtain⟨⟨l⟩⟩:=y;induction l with
 |nil=>exact .inl rfl|cons c r=>exact .inr ⟨c,r,rfl⟩
theorem Q6(w:aj)(G:TG)(S:SX)(x:Str)(t:ab)(de:Nat)(hx:x.length<=100)(hy:(iZ G.b x).length<=100)(fq:S.wv.length<=900):nW w (gG 106 [.ref G.tg]) 5 (oO w G S x t de) (v9 w G S x de):=by
 have h0:=xZ (n:=5) (out:=v9 w G S x de) _ (aIu w) rfl rfl (body:=AG) (by kernel_rfl) (by kernel_rfl) _ [0] (aIv w G S x t de) _ 1 2 [1,1,1,1] [1,2,3,4,5,6,0] (by decide) (aIw w G S x t de) (λy=>(dR _).symm) (λz=>rfl) ?_;·exact h0
 intro k tk s ak Q' E aq ok hL bz jw aZ b6 f7 SR hz ht dq;have X1:aK w aq:=λb o e=>aZ _ _ (ok.X b o e);have ec:∀(v:Str)(u:ab),v.length<=100->Told True _ k.bE k.un (some k.L) aq _ [] _:=λv u hv=>
  QR false X1 (ok.T.nolimit.keeps aZ) rfl (aE (yP (by decide) _) (Fv bz)) v hv u;have sl:∀(c:Nat)(r:List Nat),(⟨(c::r).toArray⟩:Str).length=r.length+1:=λc r=>by rfl
 induction Z:G.b with
 |true=>
  rw[Z]at hy;have eG:G={ G with b:=true }:=by cases G;cases Z;rfl
  rw[eG]at SR;rcases Q4 _ with H|⟨c,r,H⟩
  ·refine wp_run SR X1 rfl 0 0 500 QZ [1,2,3,4,5,6] _ (λz=>?_) nofun (U:=k.un) (a8 _) (by decide) _ _ _ _ (λJ=>aIn w G S x 0 [] ..) λJ s' S' gH jU G'=>?_
   ·exact DW (aE hx (dG ..)) λj z=>nY (λA' z z=>Az _ _ _ _ _) λl z z=>Q2 (aE hx (by decide)) H λsp z=>DX rfl (by decide) λz z=>True.intro
   ·refine dq (λi=>match i with|0=>s'.heap.objs.size|_=>s'.toks) .next s' rfl rfl rfl ?_ G'.live;unfold v9 AM;rw[Z];show ax True aq ak [_,_,_,_,_,(S.wl,listOf (S.wv++qh (pK x) _).toArray (S.we+AK (pK x)))] s';refine rR H ?_;show ax True aq ak [_,_,_,_,_,_] s';exact rR (dR ..) S'
  ·have hr:r.length+1<=1000:=by have Y:(pK x).length<=100:=hy;rw[H,sl]at Y;exact aE Y (by decide)
   have x9:r.length+1<=100:=by have Y:(pK x).length<=100:=hy;rw[H,sl]at Y;exact aE Y (dG ..)
   refine wp_run SR X1 rfl 0 0 500 QY [1,2,3,4,5,6] _ (λz=>?_) nofun (U:=k.un) (a8 _) (by decide) _ _ _ _ (λJ=>aIl w G S x c r t de k.L tk _ _ J) λJ s' S' gH jU G'=>?_
   ·exact DW (aE hx (by decide)) λj z=>nY (λA' z z=>Az _ _ _ _ _) λl z z=>Q2 (aE hx (by decide)) H λsp z=>DX (sl c r) hr λln z=>⟨rfl,bN,ec _ _ (aE x9 (by decide)),λe z z=>v5 (aE fq (dG ..)) λz z=>True.intro⟩
   ·refine dq (λi=>match i with|0=>s'.heap.objs.size|1=>s'.toks|_=>J 4 2) .next s' rfl rfl rfl ?_ G'.live;unfold v9 AM;refine rR Z ?_;show ax True aq ak [_,_,_,_,_,(S.wl,listOf (S.wv++qh (pK x) _).toArray (S.we+AK (pK x)))] s';exact rR H S'
 |false=>
  rw[Z]at hy;have eG:G={ G with b:=false }:=by cases G;cases Z;rfl
  rw[eG]at SR;rcases Q4 x with H|⟨c,r,H⟩
  ·rw[H]at SR;refine wp_run SR X1 rfl 0 0 500 Q1 [1,2,3,4,5,6] _ (λz=>?_) nofun (U:=k.un) (a8 _) (by decide) _ _ _ _ (λJ=>aIr w G S x 0 [] ..) λJ s' S' gH jU G'=>?_
   ·exact DW (by decide) λj z=>DX rfl (by decide) λz z=>True.intro
   ·refine dq (λi=>match i with|0=>s'.heap.objs.size|_=>s'.toks) .next s' rfl rfl rfl ?_ G'.live;unfold v9 AM;rw[Z];rw[H];show ax True aq ak [_,_,_,_,_,_] s';exact rR (dR ..) S'
  ·have hr:r.length+1<=1000:=by have Y:(x).length<=100:=hy;rw[H,sl]at Y;exact aE Y (by decide)
   have x9:r.length+1<=100:=by have Y:(x).length<=100:=hy;rw[H,sl]at Y;exact aE Y (by decide)
   rw[H]at SR;refine wp_run SR X1 rfl 0 0 500 Q0 [1,2,3,4,5,6] _ (λz=>?_) nofun (U:=k.un) (a8 _) (by decide) _ _ _ _ (λJ=>aIp w G S x c r t de k.L tk _ _ J) λJ s' S' gH jU G'=>?_
   ·exact DW (aE hr (by decide)) λj z=>DX (sl c r) hr λln z=>⟨rfl,bN,ec _ _ (aE x9 (by decide)),λe z z=>v5 (aE fq (by decide)) λz z=>True.intro⟩
   ·refine dq (λi=>match i with|0=>s'.heap.objs.size|1=>s'.toks|_=>J 2 2) .next s' rfl rfl rfl ?_ G'.live;unfold v9 AM;exact rR Z (rR H S')
structure Q5 where
 a:_root_.Fin 5->Nat
 t:_root_.Fin 5->Nat
 u:_root_.Fin 5->Nat
 v:_root_.Fin 5->Nat
abbrev Q5.e(q:Q5)(i:_root_.Fin 5)(k:Str):af×Obj:=(q.a i,tM k k "" (q.t i) (q.u i) (q.v i))
abbrev Q5.led(q:Q5):List (af×ar):=nc ([q.e 0 ⟨#[99]⟩,q.e 1 ⟨#[104]⟩,q.e 2 ⟨#[108]⟩,q.e 3 ⟨#[110]⟩,q.e 4 ⟨#[115]⟩])
abbrev I5(w:aj)(G:TG)(a:AT)(ta:Nat)(tag:Str)(t:ab)(q:SQ)(Q:Q5)(H:List DE)(Z:Nat)(Y:List ag)(J:Nat):List (af×ar):=(q.PD,cE w H Z)::(Q.led++[(q.AL,aA Y J),(a.at_,cE w a.es a.ep),(q.L,tO w a.at_ ta tag t q.tk (q.es w) 9)])
abbrev itO(i j:Nat)(w:aj)(a:AT)(V:Nat)(next:aM):aF:= .cons none (Qh V) [i,j] (IG w a V) (Qi w a V) next
def Q7:List Nat:=(dM 626 0x19249649009009000b3cc0000cf1c71c73cf3cf3cf304106e041001001041b8104004004106e041001001041b8104004004102d02db6d0a8a28c30c30c30c0104188104004004106204100100104188104004004102102186175d75e75d01d01d002b2c00002caaaaaab2cb2cb2cb01041981040040041066041001001041981040040041066041001001040940965942861869a69a69a690410590410010010416410400400410590410010010406006186165965d65805805800a59400009638e38e596596596504105e04100100104178104004004105e04100100104178104004004101d01d75d09a69a8a28a28a28810415410400400410550410010010415410400400410140145143cf3d03cf00f00f00279e00001e71c71c79e79e79e7810415810400400410560410010010415810400400410560410010010405405555424d34db6db6db6db04104f0410010010413c104004004104f04100100104038038e3882082482002002000975c00005d55555575d75d75d704104e04100100104138104004004104e04100100104138104004004100d00d34d08c30c514514514501041141040040041045041001001041141040040041004004104041042041001001001001001042088208209000088209)
def aIx(w:aj)(G:TG)(a:AT)(ta H J:Nat)(tag:Str)(t:ab)(q:SQ)(Q:Q5)(Z:List DE)(Y:List ag):aF:=Qm 7 w a.at_ a.es a.ep 5 λ_=>Qk 7 w a.at_ a.es a.ep λvw=>itO 0 8 w a (vw 0) λit=>vX 11 w q.PD Z H ⟨#[99]⟩ (it 9) (.ref (Q.a 0)) λi1=>il 21 q.AL (Y) (J+0) (.ref (i1 0+3)) λ_=>vX 18 w q.PD Z H ⟨#[104]⟩ (it 12) (.ref (Q.a 1)) λi2=>il 28 q.AL (Y++[.ref (i1 0+3)]) (J+1) (.ref (i2 0+3)) λ_=>vX 25 w q.PD Z H ⟨#[108]⟩ (it 11) (.ref (Q.a 2)) λi3=>il 35 q.AL (Y++[.ref (i1 0+3)]++[.ref (i2 0+3)]) (J+2) (.ref (i3 0+3)) λ_=>vX 32 w q.PD Z H ⟨#[110]⟩ (it 8) (.ref (Q.a 3)) λi4=>il 42 q.AL (Y++[.ref (i1 0+3)]++[.ref (i2 0+3)]++[.ref (i3 0+3)]) (J+3) (.ref (i4 0+3)) λ_=>vX 39 w q.PD Z H ⟨#[115]⟩ (it 10) (.ref (Q.a 4)) λH=>il 49 q.AL (Y++[.ref (i1 0+3)]++[.ref (i2 0+3)]++[.ref (i3 0+3)]++[.ref (i4 0+3)]) (J+4) (.ref (H 0+3)) λ_=> .nil
def aIy(w:aj)(G:TG)(a:AT)(ta Z J:Nat)(tag:Str)(t:ab)(q:SQ)(Q:Q5)(H:List DE)(Y:List ag)(sz tb:Nat)(σ:Xs):=(aI w 0 0 none 500).S [] σ ⟨I5 w G a ta tag t q Q H Z Y J,sz,tb,Q7,aIx w G a ta Z J tag t q Q H Y⟩ (aV ((fC.drop 8).take 1) (jT q.L)) fin
abbrev yc(a:AT)(Q:Q5)(x:_root_.Fin 5->Nat):List (af×ar):=[(x 0,lN ⟨#[99]⟩ (Q.u 0) (.str a.c a.tc)),(x 1,lN ⟨#[104]⟩ (Q.u 1) (.str a.h a.th)),(x 2,lN ⟨#[108]⟩ (Q.u 2) (.str a.l a.tl)),(x 3,lN ⟨#[110]⟩ (Q.u 3) (.str a.n a.tn)),(x 4,lN ⟨#[115]⟩ (Q.u 4) (.str a.s a.ts))]
abbrev scX(H:Xs):_root_.Fin 5->Nat:=nc (λi=>H (2*i.val+3) 0+3)
abbrev Q8(w:aj)(a:AT)(Q:Q5)(y z m:Nat):List DictEntry:=nc ([⟨aS w.params "k", .str "k" y, .str ⟨#[115]⟩ z⟩,⟨aS w.params "v", .str "v" (y+1), .str a.s a.ts⟩,⟨aS w.params "attr_qname", .str "attr_qname" m, .str ⟨#[115]⟩ (Q.t 4)⟩,⟨aS w.params "attr_name", .str "attr_name" (m+1), .str ⟨#[115]⟩ (Q.u 4)⟩,⟨aS w.params "uri", .str "uri" (m+2), .str "" (Q.v 4)⟩])
abbrev I6(w:aj)(G:TG)(a:AT)(ta:Nat)(tag:Str)(t:ab)(q:SQ)(Q:Q5)(H:List DE)(Z:Nat)(Y:List ag)(J:Nat)(x:_root_.Fin 5->Nat)(y z m:Nat):List (af×ar):=yc a Q x++((q.PD,cE w H Z)::(Q.led++[(q.AL,aA (Y++[aN (x 0)]++[aN (x 1)]++[aN (x 2)]++[aN (x 3)]++[aN (x 4)]) (J+5)),(a.at_,cE w a.es a.ep),(q.L,tO w a.at_ ta tag t q.tk (q.es w++Q8 w a Q y z m) 14)]))
theorem aIz(w:aj)(G:TG)(a:AT)(ta pe Y:Nat)(tag:Str)(t:ab)(q:SQ)(Q:Q5)(J:List DE)(Z:List ag)(sz tb:Nat)(H:Xs):Ends [30,23,16,9,2,45,46,47,48,49,50,51,52,53] (aIy w G a ta pe Y tag t q Q J Z sz tb H) (.ok .next,(I6 w G a ta tag t q Q J pe Z Y (scX H) (H 2 1) (H 2 10) (H 3 1+1)).map some,H 12 0+2,H 12 1):=by revert w;refine bW (λw=>?_) (λw=>?_)<;>kernel_rfl
theorem Q9{h:aw}{a:af}{c:ag}{d:Option af}{H:Array Xp}(e:h.get? a=some ⟨c,d, .dict H ep,sl⟩)(Y:nsOk ⟨c,d, .dict H ep,sl⟩=true):h.Ns a (LW H):=by
 refine⟨_,H,ep,e,rfl,λx H=>?_,λz=>rfl⟩;have:=aUa.mp Y x H;induction J:x.key with
 |str n t=>exact⟨n,t,rfl⟩|_=>simp only[J]at this;injection this
theorem ik.trans{a b c:aw}(h:ik a b)(h':ik b c):ik a c:=λz o e=>(h z o e).elim λJ H=>h' z J H
abbrev I7:PySem.Expr:= .Set [.Name "tag" (t7 fC[1]? 4), .Starred (.Name "attrs" (t7 fC[1]? 5)) (t7 fC[1]? 2)] 0 (t7 fC[1]? 1)
abbrev Ra:Stmt:=Stmt.Assign [.Name "qnames" (t7 fC[1]? 3)] I7 (t7 fC[1]? 0)
theorem aI0(L:Nat):exec Ra (jT L)=(do
  Ga (t7 fC[1]? 0)
  let v <-fy I7 (jT L)
  Ga (t7 fC[1]? 3)
  bindName (jT L) "qnames" v
  pure .next):=exec_Assign_Name _ "qnames" _ I7 _ rfl
theorem Rb(w:aj)(a:AT)(ta:Nat)(tag:Str)(t:ab)(tk:Nat):nsOk (tO w a.at_ ta tag t tk [] 4)=true:=by kernel_rfl
theorem begun(hA:A.handled=none){h:aw}(X:aK w h){G:TG}{a:AT}{S:SX}{tag:Str}{L:Nat}(SR:ax True h ak (xY w G a S ta tag t L tk) s)(kr:s.toks=tk+4)(ei:h.get? a.at_=some (cE w a.es a.ep))(yd:(a.at_==ie)=false)(hQ:∀s' S0 oS kq,f9 w ((["n","c","s","l","h"]:List Str).foldl gN [tag]) oS->ax True h ak ((S0,oS)::[(G.tg,dX 150 G.td),(G.td,fp w (.ref S.wm) G.b G.rs G.rn G.dl G.ds G.ns G.pm G.ps G.ti G.ep G.kt)]++IQ w G a ta tag t L tk S0 kq) s'->ik s.heap s'.heap->L< s'.heap.objs.size->aG (av w) A (aV (fC.drop 2) (jT L)) Q E s'):aG (av w) A (aV fC (jT L)) Q E s:=by
 have Y:aG (av w) A (aV (fC.take 1++(Ra::fC.drop 2)) (jT L)) Q E s:=by
  refine da (wp_run SR X hA 0 0 300 (dN 14 0x40084000040000024) [0,1,2,3,4] .nil (λj=>True.intro) nofun (a8 _) (by decide) _ _ _ _ (λσ=>kr▸aH6 ..) λj s1 H j j G1=>?_);refine mW (rR (aI0 ..) ?_);have hd:=y5.mpr ⟨_,H.h.keep _ _ ei,vW w a.es a.ep (by simp only[qH];decide+kernel)⟩;refine BK hd.dictAt λep' hda=>?_;have jp:=H.h.at_ _ (aB (aB (aB (aB ay))));refine au (pD (au ?_));refine aH3 (x:=tag) (tx:=t) (λa o e=>H.h.keep _ _ (X a o e)) (by kernel_rfl) rfl hA hda yd rfl (λs' Q' J hq=>?_) (λs' Q' J hq=>?_) λh' tL o J ho hS=>?_;·exact Xh (Xi (by kernel_rfl) (by kernel_rfl) (Q9 (J _ _ jp) (Rb ..)) (by kernel_rfl) hq) (by decide+kernel)
  ·exact Xh (Xi (by kernel_rfl) (by kernel_rfl) (Q9 (J _ _ jp) (Rb ..)) (by kernel_rfl) hq) (by decide+kernel)
  ·have low:=H.h.low;have S2:ax True h ak ((s1.heap.objs.size,o)::xY w G a S ta tag t L tk) { s1 with heap:=h',toks:=tL }:=by
    refine⟨⟨λp hp=>?_,cj.mpr ⟨λhm=>?_,H.h.nd⟩,λb Z e=>J _ _ (H.h.keep b Z e),λp hp=>?_⟩,H.os,H.gens, .inl True.intro⟩
    ·rcases a9.mp hp with rfl|hp
     ·exact ho
     ·exact J _ _ (H.h.at_ p hp)
    ·exact aO (bq.mp hm) λp hp e=>absurd e (dw (low p hp))
    ·rcases a9.mp hp with rfl|hp
     ·induction z:h.get? s1.heap.objs.size with
      |none=>rfl|some o'=>exact absurd (dJ (H.h.keep _ _ z)) (jI _)
     ·exact H.h.off p hp
   refine au (pD ?_);refine pA (wp_run S2 X hA 0 0 300 [6,6] [0,1,2,3,4,5] .nil (λj=>True.intro) nofun (a8 _) (by decide) (Q:=λf s'=>f=dm.next/\aG (av w) A (aV (fC.drop 2) (jT L)) Q E s') _ _ _ _ (λσ=>aH7 w G a S ta tag t L tk s1.heap.objs.size _ _ o ⟨0,0,0,0⟩ σ) λj s3 S3 j j G3=>⟨rfl,?_⟩) (λf s' hf=>?_) λj j e=>e;·exact hQ s3 _ o _ (by simpa [fZ]using hS) S3 (ik.trans G1.live (ik.trans (λb Z e=>⟨Z,J b Z e⟩) G3.live)) (S3.h.low _ (aB (aB (aB (aB (aB ay))))))
   ·obtain⟨rfl,hf⟩:=hf;exact hf
 exact Y
abbrev dh(l:af)(i:Nat):Obj:=nc (⟨.type "list_iterator",none, .fields #[.ref l, .int i 0],#[]⟩)
abbrev jV(i:Nat):Obj:=nc (⟨.type "list_iterator",none, .fields #[.none, .int i 0],#[]⟩)
section
variable {l:af}{i e:Nat}{Q:Option ag->am->Prop}
theorem I8{x:ag}(H:s.heap.get? I=some (dh l i))(Y:s.heap.get? l=some (listOf vs.toArray e))(hx:vs[i]?=some x)(Z:∀h',h'.get? I=some (dh l (i+1))->lc I s.heap h'->Q (some x) { s with heap:=h' }):aG (aR prog w) A (y3 (.ref I)) Q E s:=by
 have J:s.heap.IsListIter I l i:=⟨_,H,rfl,rfl⟩
 refine au (uN (wT J.typeIs wU
  (qz wU J.typeIs Mm ?_ (Mn _))));show aG _ _ (BQ _ 0>>=_) ..;refine au (jc H rfl (x:= .ref l) rfl ?_);refine au (jc H rfl (x:= .int i 0) rfl ?_);refine au (wS Y rfl ?_);simp only[wV,Me,hx];refine au (sn H rfl (wW 1) (aH ⟨x,rfl,aH (Z _ ?_ (ib ..))⟩));exact nN _ H rfl
theorem I9(Z:A.handled=none)(H:s.heap.get? I=some (dh l i))(Y:s.heap.get? l=some (listOf vs.toArray e))(hx:vs[i]?=none)(hQ:∀h',h'.get? I=some (jV i)->yZ I s.heap h'->Q none { s with heap:=h' }):aG (aR prog w) A (y3 (.ref I)) Q E s:=by
 have J:s.heap.IsListIter I l i:=⟨_,H,rfl,rfl⟩
 refine au (uN (wT J.typeIs wU
  (qz wU J.typeIs Mm ?_ (Mn _))));show aG _ _ (BQ _ 0>>=_) ..;refine au (jc H rfl (x:= .ref l) rfl ?_);refine au (jc H rfl (x:= .int i 0) rfl ?_);refine au (wS Y rfl ?_);simp only[wV,Me,hx];refine au (qy (au (sn H rfl (Nat.zero_lt_succ 1) ?_)));have h1:(s.heap.update I (qA (·.setIfInBounds 0 ag.none))).get? I=some _:=nN _ H rfl;refine au (au (kd ?_ (by size_fits)));refine au (je (a:=ag.none) (by first|rfl|(rfl)) ?_);refine kd ?_ (by size_fits);refine au (FQ ?_);refine rR (show A.in1.handled=none from Z) (au (aH (FS ?_)));refine au (mU ⟨_,gZ _ rfl,rfl⟩ FV ?_);exact aH (hQ _ (cZ _ (cZ _ h1)) (((ib ..).extBut.push _).push _))
end
def ua:PySem.Expr:=xE (xE (pE (pB fC[13]? 0)[0]? 0) 1) 1
def ye:PySem.Expr:=xE ua 0
def nt:List PySem.Expr:=eE ye
def uc:PySem.Expr:=xE ua 1
def Ja:Scope:=(eL ua).2.2
abbrev AN(L C:af):Env:=XY Ja [] C (jT L)
abbrev Jb(L I D C:af):Code:= .compStart ua 0 (.ref I) (.ref D) (AN L C)
abbrev mG:Obj:=nc (⟨.type "dict",none, .dict #[] 0,#[]⟩)
abbrev DZ(w:aj)(k:Str)(J:ab)(v:Str)(H:ab)(m:Nat):Obj:=nc (⟨.type "dict",none, .dict (cF [⟨aS w.params "k", .str "k" m, .str k J⟩,⟨aS w.params "v", .str "v" (m+1), .str v H⟩]) 2,#[]⟩)
def posOf(e:Option cY):Pos:=nc ((e.getD default).pos)
def valOf(e:Option cY):PySem.Expr:=xE (e.getD default) 0
def Jc(e:Option cY):Nat:=eK (e.getD default)
theorem aI1:ye= .JoinedStr [.Constant (.str " ") (Jc nt[0]?) (posOf nt[0]?), .FormattedValue (valOf nt[1]?) (-1) none (posOf nt[1]?), .Constant (.str "=\"") (Jc nt[2]?) (posOf nt[2]?), .FormattedValue (valOf nt[3]?) (-1) none (posOf nt[3]?), .Constant (.str "\"") (Jc nt[4]?) (posOf nt[4]?)] (posOf (some ye)):=by kernel_rfl
abbrev iD(v:Str):Str:=⟨(qg v.cps.toList).toArray⟩
abbrev Rc(v:Str)(H:ab)(next:aM):aF:= .cons none (gG 168 [.str v H]) [] [] (λe=>⟨.ok (.ret (.str (iD v) (e 2))),[],[],e 0,e 1⟩) next
def Rd(w:aj)(C L m:Nat)(k v:Str)(Y J:ab)(H:List Nat)(x:cY)(Z:aF)(sz tk:Nat)(σ:Xs):=(aI w 0 3 none 300).S [] σ ⟨[(C,DZ w k Y v J m)],sz,tk,H,Z⟩ (fy x (AN L C)) fin
theorem aI2(w:aj)(C L m:Nat)(k v:Str)(H J:ab)(sz tk:Nat)(Y:Xs):Ends [0] (Rd w C L m k v H J [1] (valOf nt[1]?) .nil sz tk Y) (.ok (.str k H),[(C,DZ w k H v J m)].map some,sz,tk):=by kernel_rfl
section
variable {x x':af×ar}{a:af}{o:ar}{rest:List (af×ar)}
theorem aI3(H:ax True aP ak (x::rest) s)(J:aP.get? a=some o):ax True (g6 s.heap [x.1,a]) ak [x,(a,o)] s:=by
 have Y:x.1≠a:=λq=>by have:=H.h.off x ay;replace this:=J▸(q▸this);injection this
 refine⟨⟨λp hp=>?_,?_,λb Z e=>yX _ e,λp hp=>?_⟩,H.os,H.gens, .inl True.intro⟩
 ·rcases a9.mp hp with rfl|hp
  ·exact H.h.at_ _ ay
  ·exact rR (bI.mp hp) (H.h.keep _ _ J)
 ·exact cj.mpr ⟨λh=>Y (bI.mp h),cj.mpr ⟨bi,bN⟩⟩
 ·rcases a9.mp hp with rfl|hp
  ·exact yY _ ay
  ·exact rR (bI.mp hp) (yY _ (aB ay))
theorem Re(H:ax True aP ak (x::rest) s)(ha:aP.get? a=some o)(Z:x'.1=x.1)(J:ax True (g6 s.heap [x.1,a]) ak [x',(a,o)] s'):ax True aP ak (x'::rest) s':=by
 have nd:=H.h.nd;have st:∀b Y,s.heap.get? b=some Y->b≠x.1->b≠a->s'.heap.get? b=some Y:=λb Y e n1 n2=>J.h.keep _ _ (ke _ e λhm=>by
  rcases a9.mp hm with q|hm
  ·exact n1 q
  ·exact n2 (bI.mp hm));refine⟨⟨λp hp=>?_,?_,λb Y e=>?_,λp hp=>?_⟩,J.os,J.gens, .inl True.intro⟩
 ·rcases a9.mp hp with rfl|hp
  ·exact J.h.at_ _ ay
  ·refine st _ _ (H.h.at_ p (aB hp)) (λq=>?_) λq=>?_
   ·refine(cj.mp nd).1 ?_;show x.1∈_;exact rL q (b7 hp)
   ·have:=H.h.off p (aB hp);replace this:=ha▸(q▸this);injection this
 ·exact rR iK (rR Z nd)
 ·by_cases q:b=a;·subst q;replace e:=ha▸e;injection e with e;subst e;exact J.h.at_ _ (aB ay)
  ·refine st _ _ (H.h.keep _ _ e) (λq=>?_) q;have:=H.h.off x ay;replace this:=e▸(q▸this);injection this
 ·rcases a9.mp hp with rfl|hp
  ·exact rR Z (H.h.off x ay)
  ·exact H.h.off p (aB hp)
end
structure FT where
 a:Nat
 k:Str
 kt:ab
 v:Str
 vt:ab
abbrev FT.o(p:FT):Obj:=lN p.k p.kt (.str p.v p.vt)
abbrev FT.c(p:FT)(w:aj)(m:Nat):Obj:=DZ w p.k p.kt p.v p.vt m
variable {c:Int}
abbrev fJ(p:FT):Str:=pG++" "++p.k++"=\""++iD p.v++"\""
def Rf(w:aj)(C L:Nat)(p:FT)(o:ar)(sz tk:Nat)(H:Xs):=(aI w 0 0 none 300).S [] H ⟨[(C,o),(p.a,p.o)],sz,tk,(dN 39 0x108420421184200802108c210040108461080200840200842), .nil⟩ (pF uc (AN L C) (.ref p.a)) fin
theorem aI4(w:aj)(C L:Nat)(p:FT)(sz tk:Nat)(H:Xs):Ends [3,4] (Rf w C L p mG sz tk H) (.ok (),[(C,p.c w tk),(p.a,p.o)].map some,sz+3,tk+2):=by revert w;refine bW (λw=>?_) (λw=>?_)<;>kernel_rfl
theorem aI5(w:aj)(C L:Nat)(p q:FT)(m sz tk:Nat)(H:Xs):Ends [3,4] (Rf w C L p (q.c w m) sz tk H) (.ok (),[(C,p.c w m),(p.a,p.o)].map some,sz+3,tk+2):=by revert w;refine bW (λw=>?_) (λw=>?_)<;>kernel_rfl
theorem ud(c:Nat)(z:List Nat)(J:z.length<=6):∀l:List Nat,(cV c z l).length<=6*l.length
 |[]=>a8 _|x::l=>by
  have H:=ud c z J l;have e:cV c z (x::l)=_++cV c z l:=rfl;simp only[e,bQ,eI];split;·exact b8 [lE Y0 6,lE Y1 (.m 6 Y2)] (lE (Y0+Y1) (.m 6 (Y2+1))) rfl J H
  ·exact aT [lE Y0 (.m 6 Y1)] (lE (1+Y0) (.m 6 (Y1+1))) rfl H
theorem aI6(v:Str)(h:v.length<=100):(iD v).length<=4665600:=by refine aE (ud _ _ (dk rfl) _) (aE (dU 6 (ud _ _ (dk rfl) _)) ?_);refine aE (dU 6 (dU 6 (ud _ _ (dk rfl) _))) (aE (dU 6 (dU 6 (dU 6 (ud _ _ (dk rfl) _)))) ?_);refine aE (dU 6 (dU 6 (dU 6 (dU 6 (ud _ _ (dk rfl) _))))) (aE (dU 6 (dU 6 (dU 6 (dU 6 (dU 6 (ud _ _ (dk rfl) _)))))) ?_);exact aE (dU 6 (dU 6 (dU 6 (dU 6 (dU 6 (dU 6 h)))))) (dk rfl)
theorem aI7(w:aj)(C L m:Nat)(k v:Str)(Y J:ab)(sz tk:Nat)(H:Xs):Ends [0] (Rd w C L m k v Y J [0,1,0,2] (valOf nt[3]?) (Rc v J λ_=> .nil) sz tk H) (.ok (.str (iD v) (H 0 2)),[(C,DZ w k Y v J m)].map some,H 0 0,H 0 1):=by kernel_rfl
structure aI8(k:KX)(w:aj)(aP:aw):Prop where
 ok:k.Ok w
 X:aK w aP
 st:∀b o,k.aa.get? b=some o->aP.get? b=some o
 ns:∃m,aP.Ns k.L m
 L:k.aa.objs.size<=k.L
 n:k.dp+3< bk
 U:k.un+123< dQ
section
variable {k:KX}{C m:Nat}{p:FT}
theorem yg{led:List (af×ar)}(S:ax True aP ak led s):ax True aP ak led { s with toks:=tk }:=⟨S.h,S.os,S.gens,S.same⟩
theorem aI9{Q:ag->am->Prop}(f:aI8 k w aP)(SR:ax True aP ak [(C,p.c w m)] s)(Y:p.k.length<=100)(hv:p.v.length<=100)(h:∀s' t,ax True aP ak [(C,p.c w m)] s'->Q (.str (fJ p) t) s'):aG (av w) k.bE (fy ye (AN k.L C)) Q E s:=by
 have Z:=aI6 p.v hv;have e0:(" ":Str).length=1:=by decide+kernel
 have e1:("=\"":Str).length=2:=by decide+kernel
 have e2:("\"":Str).length=1:=by decide+kernel
 have e3:(pG:Str).length=0:=by decide+kernel
 have z1:(pG++(" ":Str)).length=1:=by rw[mX,e3,e0]
 have z2:(pG++(" ":Str)++p.k).length=1+p.k.length:=by rw[mX,z1]
 have z3:(pG++(" ":Str)++p.k++("=\"":Str)).length=1+p.k.length+2:=by rw[mX,z2,e1]
 have z4:(pG++(" ":Str)++p.k++("=\"":Str)++iD p.v).length=1+p.k.length+2+(iD p.v).length:=by rw[mX,z3]
 have z5:(fJ p).length=1+p.k.length+2+(iD p.v).length+1:=by rw[mX,z4,e2]
 have H:gA=16777216:=nP;have z6:(fJ p).length<=16777216:=by rw[z5];exact aT [lE Y0 100,lE Y1 4665600] (lE (1+Y0+2+Y1+1) 16777216) rfl Y Z
 rw[aI1];refine JoinedStr_many (Gc ?_);refine XZ ⟨by rw[z1,H];decide,?_⟩;refine Gc (aW5 ?_);refine wp_run (yg SR) f.X rfl 0 3 300 [1] [0] .nil (λ_=>True.intro) nofun (fr:=none) (U:=k.un+3) (a8 _) (by decide) (λ_=> .str p.k p.kt) (λ_=>[(C,p.c w m)]) _ _ (λJ=>aI2 w C k.L m p.k p.v p.kt p.vt _ _ J) λJ s2 S2 _ _ _=>?_
 refine aW6 (λt2 DF=>⟨by rw[z2,H];exact bu [lE Y0 100] (lE (1+Y0) 16777216) rfl Y,?_⟩) (H▸aE Y (by decide));refine Gc ?_;refine XZ ⟨by rw[z3,H];exact bu [lE Y0 100] (lE (1+Y0+2) 16777216) rfl Y,?_⟩;refine Gc (aW5 ?_);refine wp_run (yg (tk:=_) (yg (tk:=DF) S2)) f.X rfl 0 3 300 [0,1,0,2] [0] (Rc p.v p.vt λ_=> .nil) (λ_=>⟨rfl,bN,?_,λ_ _ _=>True.intro⟩) nofun (fr:=none) (U:=k.un+3) (a8 _) (by decide) (λJ=> .str (iD p.v) (J 0 2)) (λ_=>[(C,p.c w m)]) _ _ (λJ=>aI7 w C k.L m p.k p.v p.kt p.vt _ _ J) λJ J S3 _ _ _=>?_
 ·have J:=f.U;exact QR true f.X (f.ok.T.nolimit.keeps f.st) rfl (aE (yP (by decide) _) (cT f.n)) p.v hv p.vt
 refine aW6 (λJ J=>⟨by rw[z4,H];exact aT [lE Y0 100,lE Y1 4665600] (lE (1+Y0+2+Y1) 16777216) rfl Y Z,?_⟩) (H▸aE Z (by decide));refine Gc ?_;show aG _ _ (mkText "\"") _ _ _;refine XZ ⟨by rw[H];exact z6,?_⟩;exact joinParts_nil (h _ _ (yg (tk:=_) (yg (tk:=_) (yg (tk:=J) S3)))) (by rw[H];exact z6)
end
def Rg(e:cY):List PySem.Expr:=eE e
def Rh(e:cY):Nat:=eK e
def D0(e:cY):Pos:=nc (e.pos)
def Ri:PySem.Expr:=xE ua 2
theorem aJa:ua= .ListComp ye [⟨.Tuple (Rg uc) (Rh uc) (D0 uc),Ri,[],0⟩] Ja (D0 ua):=by kernel_rfl
theorem aJb(w:aj)(C I D a l i:Nat)(J H:ar)(sz tk:Nat)(Y:Xs):Ends [0,1,2] ((aI w 0 0 none 300).S [] Y ⟨[(C,J),(I,dh l i),(D,H)],sz,tk,[2], .nil⟩ (uU uc (.ref I) (.ref a)) fin) (.ok (),[(C,J),(I,dh l i),(D,H)].map some,sz,tk):=by kernel_rfl
theorem aJc(w:aj)(C I D:Nat)(Y J:ar)(vs:List ag)(e:Nat)(v:ag)(sz tk:Nat)(H:Xs):Ends [0,1,2] ((aI w 0 0 none 300).S [] H ⟨[(C,Y),(I,J),(D,aA vs e)],sz,tk,[2],il 2 D vs e v λ_=> .nil⟩ (call (.builtin "list.append") [.ref D,v]) fin) (.ok .none,[(C,Y),(I,J),(D,aA (vs++[v]) (e+1))].map some,H 0 0,H 0 1):=by kernel_rfl
theorem aJd{a:List ag}(h:SV a ks)(x:Str)(t:ab):SV (a++[.str x t]) (ks++[x]):=by
 induction h with
 |nil=>exact .cons .nil|cons _ ih=>exact .cons ih
abbrev Jd(I H D C Y:Nat)(J:List FT):List (af×ar):=[(C,mG),(I,dh H 0),(D,aA [] 0),(H,aA (J.map λp=>aN p.a) Y)]
def Rj(w:aj)(I J D C Y:Nat)(H:List FT)(z:FT):(Nat->Nat)->Out:=λx=>⟨.ok .next,[(C,z.c w (x 2)),(I,jV H.length),(D,listOf (cF ((H.map fJ).mapIdx λi s=>ag.str s (x (i+3)))) H.length),(J,listOf (H.map λp=>aN p.a).toArray Y)],[],x 0,x 1⟩
theorem aJe{k:KX}(st:∀b o,k.aa.get? b=some o->aq.get? b=some o)(ok:k.Ok w)(X:aK w aq)(hL:k.aa.objs.size<=k.L)(hn:k.dp+3< bk)(hU:U+123< dQ)(H:List FT)(z:FT)(hz:H.getLast?=some z)(ht:∀p∈H,aq.get? p.a=some p.o)(h0:∀p∈H,k.aa.get? p.a=none)(hk:∀p∈H,p.k.length<=100/\p.v.length<=100)(hlen:H.length<=100)(I Y D C ae:Nat):Told True (av w) k.bE U (some k.L) aq (Jb k.L I D C) (Jd I Y D C ae H) (Rj w I Y D C ae H z):=by
 intro u s ak R hu SR jp hR;obtain⟨⟨m,hm⟩,cB⟩:=jp k.L rfl;let k':={ k with un:=u }
 have DT:ax True aq ak ([(C,mG),_,_]++[(Y,aA (H.map λp=>aN p.a) ae)]) s:=SR;refine cJ (kG DT) λS b6 aZ=>?_;have Rk:=b6 _ ay;generalize Je:g6 s.heap _=aP at S Rk aZ;have nh:∃m,aP.Ns k.L m:=by refine mY hm λoL es ep hl r=>⟨m,oL,es,ep,Je▸ke _ hl λhq=>?_,r⟩;obtain⟨p,J,e⟩:=bq.mp hq;exact cB p (bL [_] J) e
 have aJf:∀b o,s.heap.get? b=some o->(∀p∈Jd I Y D C ae H,p.1≠b)->aP.get? b=some o:=λb o e nb=>Je▸ke _ e λhq=>by obtain⟨p,J,e⟩:=bq.mp hq;exact nb p (bL [_] J) e
 have hCI:Y≠I:=λq=>by have nd:=SR.h.nd;simp only[iK,wR,cj,a9,bi,or_false,not_or]at nd;exact nd.2.1.2 q.symm
 have X2:aK w aP:=λa o e=>aZ _ _ (X a o e);have lH:∀s1 c out,SV out (H.map fJ)->(∃m,c=z.c w m)->ax True aP ak [(C,c),(I,jV H.length),(D,aA out H.length)] s1->R (.ok .next) s1:=by rintro s1 c out sv ⟨mm,rfl⟩ S1;obtain⟨g,rfl⟩:=Qa sv;have SB:=q6 DT (Je▸S1);exact hR (λi=>match i with|0=>s1.heap.objs.size|1=>s1.toks|2=>mm|i+3=>g i) s1 rfl rfl rfl (λp J=>absurd J bi) SB λb o e nb=>S1.h.keep _ _ (aJf b o e nb)
 have loop:eH (av w) k'.bE (.compLoop (.ListComp ye [⟨.Tuple (Rg uc) (Rh uc) (D0 uc),Ri,[],0⟩] Ja (D0 ua)) 0 (.ref I) (.ref D) (AN k.L C)) R s:=by
  refine LCp.codeAny_compLoop_pair (λn s'=>∃i c out,n=H.length+1 - i/\i<=H.length/\SV out ((H.take i).map fJ)/\ax True aP ak [(C,c),(I,dh Y i),(D,aA out i)] s'/\((i=0/\c=mG)\/∃q m,i≠0/\H[i - 1]?=some q/\c=q.c w m)) ?_ _
   ⟨0,mG,[],rfl,f4 _, .nil,S, .inl ⟨rfl,rfl⟩⟩;rintro n s' ⟨i,c,out,rfl,hi,sv,S',hc⟩;have Rm:=S'.h.keep _ _ Rk;by_cases bp:i< H.length
  ·have J:=gF bp;generalize oA:H[i]=p at J;have lF:=oA▸uT bp;refine d8 (hk p lF) λoG oP=>I8 (S'.h.at_ _ (aB ay)) Rm (by rw[dP,J];rfl) λh' e sb=>?_;refine wp_run (q7 (pre:=[(C,c)]) S' e sb.extBut) X2 rfl 0 0 300 [2] [0,1,2] .nil (λj=>True.intro) nofun (a8 _) (by decide) _ _ _ _ (λσ=>aJb ..) λj s2 S2 j j j=>?_
   have B:=aI3 S2 (aZ _ _ (ht p lF));have asg:∀(Q:Unit->am->Prop)(E:ag->am->Prop),(∀m Z,ax True aP ak [(C,p.c w m),(I,dh Y (i+1)),(D,aA out i)] Z->Q () Z)->aG _ k'.bE _ Q E s2:=λQ E hq=>by
    have XB:(K w.params).In (g6 s2.heap [C,p.a]):=λa o e=>by
     have e2:=X2 a o e;refine ke _ (S2.h.keep _ _ e2) λhm=>?_;rcases a9.mp hm with q|hm
     ·have:=S2.h.off _ ay;simp only[<-q,e2]at this;injection this
     ·have z0:=ok.X a o e;simp only[bI.mp hm,h0 p lF]at z0;injection z0
    rcases hc with ⟨v,rfl⟩|⟨q,m,v,v,rfl⟩
    ·exact wp_run B XB rfl 0 0 300 _ [3,4] .nil (λj=>True.intro) nofun (a8 _) (by decide) _ _ _ _ (λσ=>aI4 w C k.L ..) λj Z S3 j j j=>hq _ Z (Re S2 (aZ _ _ (ht p lF)) rfl S3)
    ·exact wp_run B XB rfl 0 0 300 _ [3,4] .nil (λj=>True.intro) nofun (a8 _) (by decide) _ _ _ _ (λσ=>aI5 ..) λj Z S3 j j j=>hq _ Z (Re S2 (aZ _ _ (ht p lF)) rfl S3)
   refine asg _ _ λm Z S3=>?_;have Rn:ax True aP ak ([(C,p.c w m)]++[(I,dh Y _),_]) Z:=S3;refine cJ (kG Rn) λS4 v Z=>?_;refine aI9 (⟨(⟨ok.B,ok.X,ok.T,ok.C⟩),λa o e=>Z _ _ (X2 a o e),λb o e=>Z _ _ (aZ _ _ (st b o e)),(MT nh λm oL es ep hl r=>⟨m,oL,es,ep,Z _ _ hl,r⟩),hL,hn,b8 [lL (Y2+123) Y1,lE Y0 Y2] (lL (Y0+123) Y1) rfl hU hu⟩) S4 oG oP λZ t Z=>wp_run (q6 Rn Z) X2 rfl 0 0 300 [2] [0,1,2] (il 2 D out i _ λj=> .nil) (λj=>lu (rR (sv.len ..) (rR (dB ..) (rR (wY ..) (b8 [lE Y1 100,lE Y2 Y1,eQ Y0 Y2] (lE Y0 1000) rfl hlen hi (rZ (hi)))))) λj j=>True.intro) nofun (a8 _) (by decide) _ _ _ _ (λσ=>aJc ..) λj Z S7 j j j=>⟨H.length+1 - (i+1),lr [eQ (Y0+(Y2+1)) (Y3+1),eQ (Y1+Y2) (Y3+1)] (lL Y0 Y1) [1,-1] 1 rfl (bY (si hi)) (bY (WP hi)),i+1,_,_,rfl,bp,?_,S7, .inr ⟨p,m,Nat.succ_ne_zero _,J,rfl⟩⟩
   simp only[Gd,J,bM];exact aJd sv _ _
  ·obtain rfl:i=H.length:=c8 hi (dA.mp bp);refine I9 rfl (S'.h.at_ _ (aB ay)) Rm (by rw[dP,uQ (a8 _)];rfl) λh' e sb=>?_;refine lH _ c out (by rw[BV]at sv;exact sv) ?_ (q7 (pre:=[(C,c)]) S' e sb);rcases hc with ⟨h0,v⟩|⟨q,m,h0,hq,rfl⟩
   ·replace hz:=(XC.mp h0)▸hz;injection hz
   ·replace hz:=hq▸((aUd)▸hz)
    cases hz;exact⟨m,rfl⟩
 unfold Jb;exact aJa▸aW7 loop ((aVl rfl I Y hCI _).self 0 _ _ _ ⟨⟨_,SR.h.at_ _ (aB ay),rfl,rfl⟩,⟨_,SR.h.at_ _ (aB (aB (aB ay))),rfl,_,rfl⟩⟩ loop)
theorem Jg(a:AT):(a.es.map (·.k)).Nodup:=by simp only[qH];decide+kernel
theorem aJg(hA:A.handled=none){h:aw}(X:aK w h){G:TG}{a:AT}{pe ae:Nat}{tag:Str}{q:SQ}{Q:Q5}{H:List DE}{Z:List ag}{R:List (af×ar)}(SR:ax True h ak (I5 w G a ta tag t q Q H pe Z ae++R) s)(J:(H.map (·.k)).Nodup)(v0:g7 (fZ H) ⟨#[99]⟩=some (.ref (Q.a 0)))(v1:g7 (fZ H) ⟨#[104]⟩=some (.ref (Q.a 1)))(v2:g7 (fZ H) ⟨#[108]⟩=some (.ref (Q.a 2)))(v3:g7 (fZ H) ⟨#[110]⟩=some (.ref (Q.a 3)))(v4:g7 (fZ H) ⟨#[115]⟩=some (.ref (Q.a 4)))(Y:Z.length<=900)(yd:(a.at_==ie)=false){Q':dm->am->Prop}(hQ:∀s' x y z m,ax True h ak (I6 w G a ta tag t q Q H pe Z ae x y z m++R) s'->ik s.heap s'.heap->Q' .next s'):aG (av w) A (aV ((fC.drop 8).take 1) (jT q.L)) Q' E s:=by
 refine cJ (kG SR) λS v H=>?_;have X3:aK w _:=λb o e=>H _ _ (X b o e);refine wp_run S X3 hA 0 0 500 Q7 [30,23,16,9,2,45,46,47,48,49,50,51,52,53] _ (λj=>?_) nofun (U:=A.units) (a8 _) (by decide) _ _ _ _ (λH=>aIz ..) λH s' S' j j G'=>?_
 ·refine aG8 (Jg a) yd rfl (by decide) λj j=>aG4 (Jg a) yd λH j=>⟨rfl,by decide,aG2 X3 hA a _,λit j j=>?_⟩;refine xS J v0 λH j=>lu (aE Y (by decide)) λj j=>xS J v1 λH j=>lu (rR bQ (bu [lE Y0 900] (lE (Y0+1) 1000) rfl Y)) λj j=>xS J v2 λH j=>lu (by simp only[bQ,MF];exact bu [lE Y0 900] (lE (Y0+1+1) 1000) rfl Y) λj j=>xS J v3 λH j=>lu (by simp only[bQ,MF];exact bu [lE Y0 900] (lE (Y0+1+1+1) 1000) rfl Y) λj j=>xS J v4 λH j=>lu (by simp only[bQ,MF];exact bu [lE Y0 900] (lE (Y0+1+1+1+1) 1000) rfl Y) λj j=>True.intro
 ·exact hQ s' _ _ _ _ (q6 SR S') G'.live
structure yh where
 qt:Nat
 z:Str
 y:Str
 x:Str
 t0:ab
 t1:ab
 t2:ab
 f1:Nat
 f2:Nat
 f3:Nat
abbrev Jh(w:aj)(G:TG)(a:AT)(S:SX)(ta:Nat)(tag:Str)(t:ab)(q:SQ)(Q:Q5)(r:yh)(H:List DE)(Z:Nat)(Y:List ag)(J:Nat):List (af×ar):=[(q.PD,cE w H Z),(r.qt,tM r.z r.y r.x r.t0 r.t1 r.t2),(q.AL,listOf Y.toArray J),(a.at_,cE w a.es a.ep),(G.ps,listOf (S.cw++[dY false]).toArray S.dD),(S.wm,fY S.wl),(S.wl,listOf S.wv.toArray S.we),(G.td,fp w (.ref S.wm) G.b G.rs G.rn G.dl G.ds G.ns G.pm G.ps G.ti G.ep G.kt),(G.tg,dX 150 G.td),(G.ns,listOf (G.aL.map λl=>aN l.a).toArray G.ej),(q.L+1+1,np (some (.ref q.cm))),(q.L+1,np (some (.ref G.tg))),(q.L,tO w a.at_ ta tag t q.tk (q.es w++Q8 w a Q r.f1 r.f2 r.f3) 14)]
abbrev Ro:Str:=nc ("{http://www.w3.org/XML/1998/namespace}space")
abbrev Rp(i D:Nat)(vs:List ag)(e:Nat)(t:ab)(J:Str)(next:aM):aF:= .cons (some 0) (bC "str.join" [.str "" t, .ref D]) [i] [(D,aA vs e)] (λx=>⟨.ok (.ret (.str J (x 2))),[(D,aA vs e)],[],x 0,x 1⟩) next
abbrev fcO(ix:List Nat)(w:aj)(L I H D C Y:Nat)(J:List FT)(z:FT)(next:aM):aF:= .cons none (Jb L I D C) ix (Jd I H D C Y J) (Rj w I H D C Y J z) next
abbrev Rt(H:List FT)(x:Nat->Nat):List Value:=(H.map fJ).mapIdx λi s=>ag.str s (x (i+3))
def Ru:List Nat:=(dN 163 0x9ad6b56063000030000018f5ad606000060180030000018f8094a524098094a5240910421084220806018dad10c6d11ce7300c20080200842104216b5ad6a009480004800002582008a528008025200012000009634a5295004a400024000012c6b4442108d)
def aJh(w:aj)(G:TG)(a:AT)(S:SX)(H ae n tb:Nat)(tag:Str)(t:ab)(q:SQ)(r:yh)(Z:List DE)(Y:List FT)(z:FT)(J:Str):aF:=Ql 3 w a.at_ a.es a.ep Ro tb .none λd=>xV 4 G.ps S.cw (.bool false) S.dD (d 1+1+4) λl=>il 4 G.ps (S.cw++[dY false]) S.dD (.bool false) λp=>
  vX 0 w q.PD Z H tag t (.ref r.qt) λi=>cQ "<" r.z ("<"++r.z) (p 1+2) r.t0 λZ=>rk 6 S.wl S.wv S.we (.str ("<"++r.z) (Z 2)) λH=>vj 2 q.AL (Y.map λp=>aN p.a) ae (n+1) λH=>fcO [0,2,1,5] w q.L (H 0) q.AL (H 0+1) (H 0+2) ae Y z λf=>Rp 1 (H 0+1) (Rt Y f) Y.length (H 1) J λj=>
  rk 9 S.wl (S.wv++[.str ("<"++r.z) (Z 2)]) (S.we+1) (.str J (j 2)) λH=>rk 9 S.wl (S.wv++[.str ("<"++r.z) (Z 2)]++[.str J (j 2)]) (S.we+2) (.str ">" (H 1)) λH=>il 13 G.ns (G.aL.map λl=>aN l.a) G.ej (.ref (H 0)) λn=> .nil
def aJi(w:aj)(G:TG)(a:AT)(S:SX)(ta H Z n:Nat)(tag:Str)(t:ab)(q:SQ)(Q:Q5)(r:yh)(pd:List DE)(Y:List FT)(z:FT)(J:Str)(sz tb:Nat)(σ:Xs):=(aI w 0 0 (some q.L) 500).S [] σ ⟨Jh w G a S ta tag t q Q r pd H (Y.map λp=>aN p.a) Z,sz,tb,Ru,aJh w G a S H Z n tb tag t q r pd Y z J⟩ (aV (fC.drop 9) (jT q.L)) fin
abbrev D3(w:aj)(G:TG)(a:AT)(S:SX)(z J:Str)(t1 t2 Y H:Nat):List (af×ar):=[(H,aA [] 0),(a.at_,cE w a.es a.ep),(G.ps,aA (S.cw++[dY false]++[dY false]) (S.dD+1)),(S.wm,fY S.wl),(S.wl,aA (S.wv++[ag.str ("<"++z) t1]++[ag.str J t2]++[ag.str ">" Y]) (S.we+3)),(G.td,fp w (.ref S.wm) G.b true G.rn G.dl G.ds G.ns G.pm G.ps G.ti G.ep G.kt),(G.tg,dX 150 G.td),(G.ns,aA ((G.aL.map λl=>aN l.a)++[aN H]) (G.ej+1))]
theorem aJj(w:aj)(G:TG)(a:AT)(S:SX)(ta Y ae n:Nat)(tag:Str)(t:ab)(q:SQ)(Q:Q5)(r:yh)(pd:List DE)(Z:List FT)(z:FT)(J:Str)(sz tb:Nat)(H:Xs):Ends [0,7,8,9,10,11,12,13] (aJi w G a S ta Y ae n tag t q Q r pd Z z J sz tb H) (.ok .next,(D3 w G a S r.z J (H 4 2) (H 8 2) (H 9 1) (H 10 0)).map some,H 11 0,H 11 1):=by revert w;refine bW (λw=>?_) (λw=>?_)<;>kernel_rfl
section
variable {h:aw}
theorem Rv{i:Nat}{l:af}{y:ag}{e:Nat}{next:aM}(k:∀x lv,(next x).Ok ao (av w) A U fr h lv):(xV i l vs y e t next).Ok ao (av w) A U fr h lv:=nY (λH z z=>Az l vs y e t) λx z z=>k x _
theorem AP{i:Nat}{l:af}{e:Nat}{next:aM}(H:vs.length=k)(J:k<=1001)(c:∀x lv,(next x).Ok ao (av w) A U fr h lv):(vj i l vs e k next).Ok ao (av w) A U fr h lv:=nY (λY z z=>No l vs e k H J) λx z z=>c x _
theorem aJk(l:List Str)(f:Nat->Nat):(l.mapIdx λi s=>(s,f (i+3))).map (·.1)=l:=by apply jH;intro i;refine rR (dP) (rR (gB) ?_);induction l[i]?<;>rfl
theorem aJl(l:List Str)(f:Nat->Nat):(l.mapIdx λi s=>ag.str s (f (i+3)))=pJ (l.mapIdx λi s=>(s,f (i+3))):=by apply jH;intro i;unfold pJ;simp only[dP,gB,gB];induction l[i]?<;>rfl
open PySem.Builtin.Str in
noncomputable def D4(l:List Str):Bool:=tooLong (l.toArray.foldl (· +·.length+("":Str).length) 0)
open PySem.Builtin.Str in
noncomputable def mH(l:List Str):Str:=glued "" l
theorem aJm{i D:Nat}{H:List FT}{f:Nat->Nat}{e:Nat}{next:aM}(h2:2<=H.length)(Z:D4 (H.map fJ)=false)(hz:(mH (H.map fJ)).length<=gA)(c:∀x lv,(next x).Ok ao (av w) A U fr h lv):(Rp i D (Rt H f) e t (mH (H.map fJ)) next).Ok ao (av w) A U fr h lv:=by
 refine nY (λY z z=>?_) λx z z=>c x _;have J:=aJk (H.map fJ) f;have j:=IY (ao:=ao) (w:=w) (A:=Y) (U:=Y.units) (fr:=none) (aa:=h) (D:=D) (e:=e) (t:=t) (rR (Ge ..) (rR (dB ..) h2)) (J▸Z) (by exact rR J hz);replace j:=aJl .. ▸(J .. ▸j)
 exact j
end
theorem no_space(a:AT):(g7 (fZ a.es) Ro).getD .none= .none:=by kernel_rfl
structure D5(ps:List FT)(n:Nat)(z:FT):Prop where
 len:ps.length=n+1
 n1:1<=n
 n9:n<=9
 last:ps.getLast?=some z
 sz:∀p∈ps,p.k.length<=100/\p.v.length<=100
 tl:D4 (ps.map fJ)=false
 gl:(mH (ps.map fJ)).length<=gA
theorem aJn{k:KX}(ok:k.Ok w){h:aw}(X:aK w h)(Rx:∀b o,k.aa.get? b=some o->h.get? b=some o)(hL:k.aa.objs.size<=k.L)(hn:k.dp+3< bk)(hU:k.un+123< dQ){G:TG}{a:AT}{S:SX}{pe ae:Nat}{tag:Str}{q:SQ}{Q:Q5}{r:yh}{Y:List DE}{H:List FT}{z:FT}{R:List (af×ar)}(hq:q.L=k.L)(Z:ax True h ak (Jh w G a S ta tag t q Q r Y pe (H.map λp=>aN p.a) ae++R) s)(nd:(Y.map (·.k)).Nodup)(vt:g7 (fZ Y) tag=some (.ref r.qt))(yd:(a.at_==ie)=false)(J:D5 H n z)(hR:∀p∈H,(p.a,p.o)∈R)(oP:S.cw.length<=900)(fq:S.wv.length<=900)(rr:G.aL.length<=900)(hrz:r.z.length<=100){Q':dm->am->Prop}(hQ:∀s' t1 t2 t3 nl,ax True h ak (D3 w G a S r.z (mH (H.map fJ)) t1 t2 t3 nl++R) s'->ik s.heap s'.heap->Q' .next s'):aG (av w) k.bE (aV (fC.drop 9) (jT q.L)) Q' E s:=by
 refine cJ (kG Z) λS1 b6 st=>?_;have X3:aK w _:=λb o e=>st _ _ (X b o e);have hn0:∀p∈H,k.aa.get? p.a=none:=λp iM=>by
  induction e:k.aa.get? p.a with
  |none=>rfl|some o=>have:=Z.h.off _ (bD _ (hR p iM));replace this:=(Rx _ _ e)▸this;injection this
 have lz:("<":Str).length=1:=by decide+kernel
 have hs:=nP;have hl:=J.len;have Ry:=J.n9;refine wp_run S1 X3 rfl 0 0 500 Ru [0,7,8,9,10,11,12,13] _ (λv=>?_) nofun (U:=k.un) (a8 _) (by decide) _ (λσ=>D3 w G a S r.z (mH (H.map fJ)) ..) _ _ (λσ=>aJj w G a S ta pe ae n tag t q Q r Y H z _ _ _ σ) λσ s' S' v v G'=>?_
 ·refine aG6 (Jg a) yd (no_space a) λd v=>Rv λl v=>lu (rR bQ (bu [lE Y0 900] (lE (Y0+1) 1000) rfl oP)) λp v=>xS nd vt λi v=>n6 rfl (by omega) λY v=>v5 (bu [lE Y0 900] (lE Y0 1000) rfl fq) λY v=>AP (rR (dB ..) (rR (hl ..) rfl)) (iI Ry (by decide)) λY v=>⟨rfl,by decide,?_,λf v v=>?_⟩;·exact rR hq (aJe (λb o e=>st b o (Rx b o e)) ok X3 hL hn hU H z J.last (λp iM=>b6 (p.a,p.o) (hR p iM)) hn0 J.sz (aT [eQ Y0 (Y1+1),lE Y1 9] (lE Y0 100) rfl hl Ry) _ _ _ _ _)
  ·exact aJm (fA [eQ Y0 (Y1+1),lE 1 Y1] (lE 2 Y0) [-1,1] 1 rfl hl J.n1) J.tl J.gl λj v=>v5 (rR bQ (bu [lE Y0 900] (lE (Y0+1) 1000) rfl fq)) λH v=>v5 (by simp only[bQ,MF];exact bu [lE Y0 900] (lE (Y0+1+1) 1000) rfl fq) λH v=>lu (rR (dB ..) (bu [lE Y0 900] (lE Y0 1000) rfl rr)) λv v=>True.intro
 ·exact hQ s' _ _ _ _ (q6 Z S') G'.live
def rt:FuncData:=match u6.1.data with
 | .func f=>f|_=>default
abbrev stQ:Str:=nc ("C14NWriterTarget._start")
def D6:Scope:=nc (rt.scope)
theorem aJo(w:aj):(K w.params).lookup 126=some ⟨u6.1.cls,u6.1.dict, .func rt,u6.1.slots⟩:=by kernel_rfl
abbrev Rz(G:TG)(a:AT)(ta:Nat)(tag:Str)(t:ab):List (Str×ag):=nc ([("self", .ref G.tg),("tag", .str tag t),("attrs", .ref a.at_),("new_namespaces", .ref ta),("qname_text", .none)])
abbrev fS(k v:Str):Str:=pG++" "++k++"=\""++iD v++"\""
def nu(a:AT):List Str:=[fS ⟨#[99]⟩ a.c,fS ⟨#[104]⟩ a.h,fS ⟨#[108]⟩ a.l,fS ⟨#[110]⟩ a.n,fS ⟨#[115]⟩ a.s]
abbrev ru(x:Nat):Str:=nc (("xmlns:":Str)++(⟨#[x]⟩:Str))
def wa(κ x:Nat)(a:AT):List Str:=match κ with
 |2=>fS (ru x) (bv x)::nu a|_=>nu a
def zS(κ x:Nat):Str:=match κ with
 |0=>cS|_=>iw x
def wb(a:AT)(Q:Q5)(x:_root_.Fin 5->Nat):List FT:=nc ([⟨x 0,⟨#[99]⟩,Q.u 0,a.c,a.tc⟩,⟨x 1,⟨#[104]⟩,Q.u 1,a.h,a.th⟩,⟨x 2,⟨#[108]⟩,Q.u 2,a.l,a.tl⟩,⟨x 3,⟨#[110]⟩,Q.u 3,a.n,a.tn⟩,⟨x 4,⟨#[115]⟩,Q.u 4,a.s,a.ts⟩])
structure qi(a:AT):Prop where
 sys:(a.at_==ie)=false
 n:a.n.length<=30
 c:a.c.length<=30
 s:a.s.length<=30
 l:a.l.length<=30
 h:a.h.length<=30
theorem aJp:fC.drop 2=(fC.drop 2).take 6++((fC.drop 8).take 1++fC.drop 9):=by kernel_rfl
theorem aJq(v:Str)(h:v.length<=30):(iD v).length<=1399680:=by show(cF _).size<=_;have f:∀_(z:Str),z.cps.toList.length<=6->∀{l:List Nat}{n:Nat},l.length<=n->(cV ..).length<=6*n:=λc z J l n H=>aE (ud c _ J l) ((λh=>dU 6 h) H);exact aE (f 13 _ (dk rfl) (f 10 _ (dk rfl) (f 9 _ (dk rfl) (f 34 _ (dk rfl) (f 60 _ (dk rfl) (f 38 _ (dk rfl) h)))))) (dk rfl)
theorem yi(k v:Str)(H:k.length<=30)(hv:v.length<=30):(fS k v).length<=1400000:=by
 have J:(" ":Str).length=1:=by decide+kernel
 have Y:("=\"":Str).length=2:=by decide+kernel
 have e2:("\"":Str).length=1:=by decide+kernel
 have Z:(pG:Str).length=0:=by decide+kernel
 simp only[mX,mX,mX,mX,mX,J,Y,e2,Z];exact aT [lE Y0 30,lE Y1 1399680] (lE (0+1+Y0+2+Y1+1) 1400000) rfl H (aJq v hv)
theorem Ji(B:Nat):∀(l:List Str)(H:Nat),(∀s∈l,s.length<=B)->l.foldl (λa s=>a+s.length+("":Str).length) H<=H+l.length*B
 |[],H,_=>by simp
 |s::l,H,h=>by
  have e:("":Str).length=0:=by decide+kernel
  simp only[Gf,eI,aW8,Fy];exact nB [_,_,_,_,_] [lE Y0 (Y1+Y4+0+Y2),lE Y4 Y3] (lE Y0 (Y1+(Y2+Y3))) rfl (Ji B l _ λx H=>h x (aB H)) (h s ay)
theorem D7(B:Nat):∀(l:List Str),(∀s∈l,s.length<=B)->(l.map (·.length)).sum<=l.length*B
 |[],_=>by simp
 |s::l,h=>by simp only[iK,aW9,eI,aW8,Fy];exact qN [lE Y1 Y2,lE Y0 Y3] (lE (Y0+Y1) (Y2+Y3)) rfl (D7 B l λx H=>h x (aB H)) (h s ay)
theorem RA{l:List Str}(H:l.length<=6)(h:∀s∈l,s.length<=1400000):D4 l=false/\(mH l).length<=sizeLine:=by
 have H:=nP;constructor
 ·unfold D4 sw;have:=Ji 1400000 l 0 h;exact rR (X0 ..) (decide_eq_false (by omega))
 ·unfold mH;have e:("":Str).length=0:=by decide+kernel
  have:=D7 1400000 l h;refine rR (Gg ..) (rR e ?_);omega
theorem Jj{a:AT}(h:qi a):∀s∈nu a,s.length<=1400000:=λs hs=>by
 have H:∀y:Nat,(⟨#[y]⟩:Str).length<=30:=λy=>by show 1<=30;decide
 rcases a9.mp hs with rfl|hs
 ·exact yi _ _ (H _) h.c
 rcases a9.mp hs with rfl|hs
 ·exact yi _ _ (H _) h.h
 rcases a9.mp hs with rfl|hs
 ·exact yi _ _ (H _) h.l
 rcases a9.mp hs with rfl|hs
 ·exact yi _ _ (H _) h.n
 exact bI.mp hs▸yi _ _ (H _) h.s
theorem RB(x:Nat):(ru x).length<=30:=by
 rw[mX];have e:("xmlns:":Str).length=6:=by decide+kernel
 show 6+1<=30;decide
theorem aJr{a:AT}(h:qi a)(κ x:Nat):∀s∈wa κ x a,s.length<=1400000:=λs hs=>by
 unfold wa at hs;split at hs
 ·rcases a9.mp hs with rfl|hs
  ·exact yi _ _ (RB x) (by show 5<=30;decide)
  ·exact Jj h s hs
 ·exact Jj h s hs
theorem D8{a:AT}(h:qi a)(Q:Q5)(x:_root_.Fin 5->Nat):D5 (wb a Q x) 4 ⟨x 4,⟨#[115]⟩,Q.u 4,a.s,a.ts⟩:=by
 have e:(wb a Q x).map fJ=nu a:=rfl;have j:=RA (dk rfl) (Jj h);have H:∀y:Nat,(⟨#[y]⟩:Str).length<=100:=λy=>by show 1<=100;decide
 refine⟨rfl,by decide,by decide,rfl,λp hp=>?_,e▸j.1,e▸j.2⟩;rcases a9.mp hp with rfl|hp
 ·exact⟨H _,aE h.c (by decide)⟩
 rcases a9.mp hp with rfl|hp
 ·exact⟨H _,aE h.h (by decide)⟩
 rcases a9.mp hp with rfl|hp
 ·exact⟨H _,aE h.l (by decide)⟩
 rcases a9.mp hp with rfl|hp
 ·exact⟨H _,aE h.n (by decide)⟩
 exact bI.mp hp▸⟨H _,aE h.s (by decide)⟩
theorem RC{a:AT}(h:qi a)(Q:Q5)(x:_root_.Fin 5->Nat)(y b c d:Nat):D5 (⟨b,ru y,c,bv y,d⟩::wb a Q x) 5 ⟨x 4,⟨#[115]⟩,Q.u 4,a.s,a.ts⟩:=by
 have e:((⟨b,ru y,c,bv y,d⟩:FT)::wb a Q x).map fJ=wa 2 y a:=rfl;have j:=RA (dk rfl) (aJr h 2 y);refine⟨rfl,by decide,by decide,rfl,λp hp=>?_,e▸j.1,e▸j.2⟩;rcases a9.mp hp with rfl|hp
 ·exact⟨aE (RB y) (by decide),by show 5<=100;decide⟩
 ·exact(D8 h Q x).sz p hp
theorem aJs{a:AT}{Q:Q5}{x:_root_.Fin 5->Nat}{p:FT}(h:p∈wb a Q x):(p.a,p.o)∈yc a Q x:=by
 rcases a9.mp h with rfl|h
 ·exact ay
 rcases a9.mp h with rfl|h
 ·exact aB ay
 rcases a9.mp h with rfl|h
 ·exact aB (aB ay)
 rcases a9.mp h with rfl|h
 ·exact aB (aB (aB ay))
 exact bI.mp h▸aB (aB (aB (aB ay)))
theorem Jk{x:Nat}(H:x∈dS)(t0 t1 t2 Z t4 t5 a0 a1 a2 a3 Y J:Nat):g7 (fZ [⟨⟨#[99]⟩,t0, .ref a0⟩,⟨⟨#[104]⟩,t1, .ref a1⟩,⟨⟨#[108]⟩,t2, .ref a2⟩,⟨⟨#[110]⟩,Z, .ref a3⟩,⟨⟨#[115]⟩,t4, .ref Y⟩,⟨iv x,t5, .ref J⟩]) (iv x)=some (.ref J):=by unfold dS at H;simp only[a9,bi,or_false]at H;rcases H with rfl|rfl|rfl|rfl|rfl|rfl<;>kernel_rfl
theorem Jl(x:Nat):(iw x).length<=100:=by
 rw[mX,mX,mX];have H:(":":Str).length=1:=by decide+kernel
 have H:(pG:Str).length=0:=by decide+kernel
 show 0+1+1+1<=100;decide
noncomputable def bn(H:List Str)(y:Nat->Nat):List Value:=H.mapIdx λi s=>ag.str s (y (100+i))
structure az where
 f:Option (Nat×Nat)
 c:Nat
 x:Nat
def az.o(κ:az):Obj:=match κ.f with
 |none=>jJ #[]|some p=>iC (p.1+5)
def az.o'(κ:az)(y:Nat->Nat):Obj:=match κ.f with
 |none=>iC (y 6+5)|some p=>iC (p.1+5)
def az.tag(κ:az):Str:=match κ.c with
 |0=>cS|_=>iv κ.x
variable {tag:Str}
def az.ws(κ:az)(a:AT):List Str:=["<"++zS κ.c κ.x,mH (wa κ.c κ.x a),">"]
def az.aX(κ:az)(y:Nat->Nat):List Value:=nc (match κ.c with
 |2=>[aN (y 8)]|_=>[])
variable {aX:List ag}
def az.lP(κ:az):Nat:=nc (match κ.c with
 |2=>1|_=>0)
def az.ex(κ:az)(y:Nat->Nat):List (af×ar):=(match κ.f with
 |none=>[(y 6+5,lM (y 6) (y 7))]|some _=>[])++match κ.c with
 |2=>[(y 8,⟨.type "tuple",none, .seq #[.str (bv κ.x) (y 9), .str ⟨#[κ.x]⟩ (y 10)] 0,#[]⟩)]|_=>[]
def az.lx(κ:az):List (af×ar):=match κ.f with
 |none=>[]|some p=>[(p.1+5,lM p.1 p.2)]
abbrev D9(κ:az)(w:aj)(G:TG)(a:AT)(S:SX)(ta aQ:Nat):List (af×ar):=(123,κ.o)::QK w G a S ta aQ
abbrev Ea(κ:az)(w:aj)(G:TG)(a:AT)(S:SX)(ta aQ:Nat)(y:Nat->Nat):List (af×ar):=[(123,κ.o' y),(ta,aA (κ.aX y) (aQ+κ.lP)),(G.tg,dX 150 G.td),(G.td,fp w (.ref S.wm) G.b true G.rn G.dl G.ds G.ns G.pm G.ps G.ti G.ep G.kt),(G.ds,aA ((G.cU.map λl=>aN l.a)++[aN ta]) G.dep),(G.ns,aA ((G.aL.map λl=>aN l.a)++[aN (y 2)]) (G.ej+1)),(a.at_,cE w a.es a.ep),(S.wm,fY S.wl),(S.wl,aA (S.wv++bn (κ.ws a) y) (S.we+3)),(G.ps,aA (S.cw++[dY false]++[dY false]) (S.dD+1))]
def az.V(κ:az):Prop:=κ.c=0\/(κ.c=1/\κ.f≠none)\/κ.c=2
@[elab_as_elim] theorem nw{P:az->Prop}{κ:az}(h:κ.V)(a:∀x,P ⟨none,0,x⟩)(b:∀x,P ⟨none,2,x⟩)(c:∀p x,P ⟨some p,0,x⟩)(d:∀p x,P ⟨some p,1,x⟩)(e:∀p x,P ⟨some p,2,x⟩):P κ:=by
 obtain⟨f,k,x⟩:=κ;rcases h with rfl|⟨rfl,h⟩|rfl<;>cases f
 ·exact a x
 ·exact c _ x
 ·exact absurd rfl h
 ·exact d _ x
 ·exact b x
 ·exact e _ x
noncomputable def az.q1(κ:az)(sz:Nat):Nat:=match κ.f with
 |none=>sz+2|some p=>p.1
noncomputable def az.q2(κ:az)(tb:Nat):Nat:=match κ.f with
 |none=>tb+4|some p=>p.2
def az.sk(κ:az):List Str:=match κ.c with
 |0=>DA|_=>Dz κ.x
variable {sk:List Str}
noncomputable def az.l(κ:az):Nat:=match κ.f with
 |none=>8|some _=>2
def az.ix(κ:az):List Nat:=nc (match κ.f with
 |none=>[9,0,1,8]|some _=>[3,0,5,2])
variable {ix:List Nat}
noncomputable def az.i(κ:az):Nat:=match κ.f with
 |none=>15|some _=>10
variable {i:Nat}
def az.s0(κ:az):List Nat:=nc (match κ.f with
 |none=>[3,4,5,6,7,8,9,10,11,12,0,1,2]|some _=>[3,4,5,6,7,8,9,10,11,12,13,0,1,2])
noncomputable def az.m(κ:az):Nat:=match κ.c with
 |0=>5|_=>6
variable {m:Int}
def az.al(κ:az)(H:Xs):List Value:=nc (match κ.c with
 |2=>[.ref (H 6 0+8)]|_=>[])
def az.ae(κ:az):Nat:=nc (match κ.c with
 |2=>3|_=>0)
def az.ti(κ:az)(H:Xs):List Value:=nc (match κ.c with
 |2=>[.ref (H 6 6)]|_=>[])
def az.a2(κ:az):Nat:=nc (match κ.c with
 |2=>3|_=>2)
noncomputable def az.a4(κ:az):Nat:=match κ.c with
 |2=>10|_=>4
def az.a5(κ:az):Nat:=nc (match κ.c with
 |2=>13|_=>3)
def az.a6(κ:az):Nat:=nc (match κ.c with
 |2=>11|_=>5)
def az.pd(κ:az)(H:Xs):List DE:=[⟨⟨#[99]⟩,H 0 4, .ref (H 1 2)⟩,⟨⟨#[104]⟩,H 0 5, .ref (H 2 2)⟩,⟨⟨#[108]⟩,H 0 6, .ref (H 3 2)⟩,⟨⟨#[110]⟩,H 0 7, .ref (H 4 2)⟩,⟨⟨#[115]⟩,H 0 8, .ref (H 5 2)⟩]++match κ.c with
 |0=>[]|_=>[⟨iv κ.x,H 0 9, .ref (H 6 2)⟩]
def az.xr(κ:az)(H:Xs):List (af×ar):=match κ.c with
 |2=>[DM κ.x (H 6),(H 6 0+8,lN (ru κ.x) (H 6 1+9) (.str (bv κ.x) (H 6 7)))]|_=>[]
def az.It(κ:az)(H:Xs):List (af×ar):=match κ.c with
 |0=>[]|1=>[oM (iw κ.x) cS (bv κ.x) (H 6)]|_=>[oM (iw κ.x) cS (bv κ.x) (H 6),DM κ.x (H 6),(H 6 0+8,lN (ru κ.x) (H 6 1+9) (.str (bv κ.x) (H 6 7)))]
def az.r(κ:az)(H:Xs)(y z m:Nat):yh:=match κ.c with
 |0=>⟨H 1 2,⟨#[99]⟩,⟨#[99]⟩,"",H 1 3,H 1 4,H 1 5,y,z,m⟩|_=>⟨H 6 2,iw κ.x,cS,bv κ.x,H 6 3,H 6 4,H 6 5,y,z,m⟩
variable {r:UInt64}
def az.ps(κ:az)(a:AT)(Q:Q5)(x:_root_.Fin 5->Nat)(H:Xs):List FT:=(match κ.c with
 |2=>[⟨H 6 0+8,ru κ.x,H 6 1+9,bv κ.x,H 6 7⟩]|_=>[])++wb a Q x
abbrev kQ(H:Xs):Q5:=nc (⟨λi=>H (i.val+1) 2,λi=>H (i.val+1) 3,λi=>H (i.val+1) 4,λi=>H (i.val+1) 5⟩)
def az.eA(κ:az):List Nat:=match κ.f,κ.c with
 |none,0=>(dM 220 0x8e35c05c05c05d78882088a20482092080080080071c71c000240001015d1451471c81c70070070061861800023c000f11c10410618718600600600514514000238000e0db0c30c514614500500500410410000234000d09a0820841051040040040030c30c000230000c0590410430c40c300300300004004004108000028a28401000038e00000000018014500000000014000000538f3c600514000014000000538f3cf)|none,_=>(dM 352 0x28a28a208208200200208208b471c71c71edb411c78071c01c01c01861801801000040000041041040410480410010010412010400400410480410010010401c01c71c30c37030c00c00c000101901966464064064065990a28a92404a28b28a00a00a00924924000244001119e1861882092080080080071c71c000240001015d1451471c81c70070070061861800023c000f11c10410618718600600600514514000238000e0db0c30c514614500500500410410000234000d09a0820841051040040040030c30c000230000c0590410430c40c300300300004004004108000028a28401000038e00000000018014500000000014000000538f3c600514000014000000538f3cf)|some _,0=>(dN 217 0x1ef48120481297508477a14212840100400e739c001280051705294e741ce0380e0318c60004900124b9084318e6300c0300a5294001200040ec318ca5314a0280a02108400047000e2a8842210a4200802006318c0011800306810846320c6018060004010042200004044007bc0000000380c600000000c0000067c207018c0000c0000067c210)|some _,1=>(dM 243 0x1f7d30130130134de24925e78124928924024024020820800008b0002c66461862082482002002001c71c700008a0002856051451c72071c01c01c01861860000890002445c41041861c61801801801451450000880002035830c31451851401401401041040000870001c25420821041441001001000c30c30000860001815010410c31030c00c00c00010010010420000040110003cf0000000001c01860000000001800000063d04070061800001800000063d0410)|some _,_=>(dM 349 0xa28a2882082080080082082281c71c71c7a280471db1c70070070061860060040001000001041041010412010400400410480410010010412010400400410070071c70c30d70c30030030000405005147d401401401451f28a29f7c128a2ca28028028024924900008b0002c66461862082482002002001c71c700008a0002856051451c72071c01c01c01861860000890002445c41041861c61801801801451450000880002035830c31451851401401401041040000870001c25420821041441001001000c30c30000860001815010410c31030c00c00c00010010010420000040110003cf0000000001c01860000000001800000063d04070061800001800000063d0410)
def az.eB(κ:az):List Nat:=match κ.f,κ.c with
 |none,0=>(dM 226 0x8e35c05c05c05d78882088a20482092080080080071c71c000240001015d1451471c81c70070070061861800023c000f11c10410618718600600600514514000238000e0db0c30c514614500500500410410000234000d09a0820841051040040040030c30c000230000c0590410430c40c30030030030030030c004004004108000028a28401000038e00000000018014500000000014000000538f3c600514000014000000538f3cf)|none,_=>(dM 364 0x28a28a208208200200208208b471c71c71edb411c78071c01c01c01861801801000040000041041040410480410010010412010400400410480410010010401c01c71c30c37030c00c00c00c00c00c300101901966464064064065990a28a92404a28b28a00a00a00924924000244001119e1861882092080080080071c71c000240001015d1451471c81c70070070061861800023c000f11c10410618718600600600514514000238000e0db0c30c514614500500500410410000234000d09a0820841051040040040030c30c000230000c0590410430c40c30030030030030030c004004004108000028a28401000038e00000000018014500000000014000000538f3c600514000014000000538f3cf)|some _,0=>(dN 223 0x7bd20481204a5d4211de85084a1004010039ce70004a00145c14a539d07380e0380c63180012400492e4210c6398c0300c0294a50004800103b0c63294c5280a0280842100011c0038aa210884290802008018c6300046000c1a042118c83180601806018063004010042200004044007bc0000000380c600000000c0000067c207018c0000c0000067c210)|some _,1=>(dM 249 0x1f7d30130130134de24925e78124928924024024020820800008b0002c66461862082482002002001c71c700008a0002856051451c72071c01c01c01861860000890002445c41041861c61801801801451450000880002035830c31451851401401401041040000870001c25420821041441001001000c30c30000860001815010410c31030c00c00c00c00c00c30010010010420000040110003cf0000000001c01860000000001800000063d04070061800001800000063d0410)|some _,_=>(dM 361 0xa28a2882082080080082082281c71c71c7a280471db1c70070070061860060040001000001041041010412010400400410480410010010412010400400410070071c70c30d70c30030030030030030c00405005147d401401401451f28a29f7c128a2ca28028028024924900008b0002c66461862082482002002001c71c700008a0002856051451c72071c01c01c01861860000890002445c41041861c61801801801451450000880002035830c31451851401401401041040000870001c25420821041441001001000c30c30000860001815010410c31030c00c00c00c00c00c30010010010420000040110003cf0000000001c01860000000001800000063d04070061800001800000063d0410)
def az.s2(κ:az):List Nat:=nc (match κ.f,κ.c with
 |none,0=>[9,7,6,5,4,3,0,22,13,23,24,25,26,27,28,29,30,31,32,33,34]|none,_=>[21,19,18,17,16,15,13,14,4,9,34,25,35,36,37,38,39,40,41,42,43,44,45,46]|some _,0=>[9,7,6,5,4,3,0,16,17,18,19,20,21,22,23,24,25,26,27,28,29]|some _,1=>[10,8,7,6,5,4,3,0,17,18,19,20,21,22,23,24,25,26,27,28,29,30]|some _,_=>[21,19,18,17,16,15,13,14,4,9,28,29,30,31,32,33,34,35,36,37,38,39,40,41])
def az.s8(κ:az):List Nat:=nc (match κ.f,κ.c with
 |none,0=>[5,6,11,12,23,21,22,18,17,20,24,25,13,0,1,2,3,4,14,15,16,19]|none,_=>[5,26,11,12,23,21,22,18,17,20,24,25,13,0,1,2,3,4,27,28,14,15,16,19]|some _,0=>[5,6,11,12,23,21,22,18,17,20,24,25,13,0,1,2,3,4,14,15,16,19]|some _,1=>[5,26,11,12,23,21,22,18,17,20,24,25,13,0,1,2,3,4,14,15,16,19]|some _,_=>[5,26,11,12,23,21,22,18,17,20,24,25,13,0,1,2,3,4,27,28,14,15,16,19])
def az.s9(κ:az):List Nat:=nc (match κ.f,κ.c with
 |none,0=>[0,14,13,15,6,5,16,7,1,3,4,2]|none,_=>[0,16,13,15,17,6,5,18,7,1,3,4,2]|some _,0=>[0,13,15,6,5,16,7,1,3,4,2,14]|some _,1=>[0,13,15,6,5,16,7,1,3,4,2,14]|some _,_=>[0,13,15,17,6,5,18,7,1,3,4,2,16])
def az.so(κ:az)(J:Nat)(H:ar)(sz tb:Nat):List (af×ar):=[(J,H),(sz+κ.l,tW (κ.q1 sz+5)),(κ.q1 sz+5,lM (κ.q1 sz) (κ.q2 tb)),(sz,eD)]
variable {so:ar}
section
variable (κ:az)(w:aj)(G:TG)(a:AT)(S:SX)(ta aQ:Nat)(t:ab)
def az.o6(s:Nat->Nat):aF:=match κ.c with
 |0=> .nil|1=>qoO (κ.i+5) w (gW G S.wm) ta aQ κ.x (s 9) λ_=> .nil|_=>qnO (κ.i+5) w (gW G S.wm) ta aQ κ.x (s 9) λ_=> .nil
def az.os(H:Nat)(J:ar)(sz tb:Nat):aF:= .cons none (IC H (sz+κ.l)) κ.ix (κ.so H J sz tb) (P9 κ.sk (κ.so H J sz tb)) λs=>AC κ.i w (gW G S.wm) ta aQ 99 (s 4) λ_=>AC (κ.i+1) w (gW G S.wm) ta aQ 104 (s 5) λ_=>AC (κ.i+2) w (gW G S.wm) ta aQ 108 (s 6) λ_=>AC (κ.i+3) w (gW G S.wm) ta aQ 110 (s 7) λ_=>AC (κ.i+4) w (gW G S.wm) ta aQ 115 (s 8) λ_=>κ.o6 w G S ta aQ s
abbrev az.led(L tk H Y:Nat)(J:ar):List (af×ar):=(H,J)::(123,κ.o)::(κ.lx++(QK w G a S ta aQ++IQ w G a ta κ.tag t L tk H Y))
def az.run(L tk J Y:Nat)(H:ar)(sz tb:Nat)(Z:Xs):=(Mine.Internal.run ⟨⟨Rw.prog,w.params⟩,K w.params,2,0,some L⟩ 500).S [] Z ⟨κ.led w G a S ta aQ t L tk J Y H,sz,tb,evW w κ.eA κ.eB,κ.os w G S ta aQ J H sz tb⟩ (aV ((fC.drop 2).take 6) (jT L)) fin
def az.sq(L tk Y J sz tb:Nat)(H:Xs):SQ:=nc (⟨L,tk,Y,J,sz,tb,tb+2,H 0 0+1,H κ.m 1+1,H κ.m 0+κ.a2,H κ.m 1+κ.a4,sz+1⟩)
def az.end(L tk Y J sz tb:Nat)(H:Xs):List (af×ar):=(κ.sq L tk Y J sz tb H).led w G a S ta (κ.ti H) (aQ+κ.lP) κ.tag t (κ.pd H) κ.m (κ.al H) κ.ae ((kQ H).led++κ.It H) [(123,iC (κ.q1 sz+5)),(κ.q1 sz+5,lM (κ.q1 sz) (κ.q2 tb))]
abbrev az.bE:List (af×ar):=D9 κ w G a S ta aQ++κ.lx
abbrev az.P(y:Nat->Nat):List (af×ar):=Ea κ w G a S ta aQ y++κ.lx
end
variable {led:List (af×ar)}
section
variable {κ:az}(h:κ.V)(w:aj)(G:TG)(a:AT)(S:SX)(ta aQ:Nat)(t:ab)(L' tk:Nat)(σ:Xs)
include h
theorem az.b0:Ends (fI (κ.bE w G a S ta aQ).length) ((Mine.Internal.run ⟨⟨Rw.prog,w.params⟩,K w.params,0,0,none⟩ 400).S [] σ ⟨κ.bE w G a S ta aQ,L',tk,[0], .nil⟩ (md rt (Dh G a ta κ.tag t)) fin) (.ok (Rz G a ta κ.tag t),(κ.bE w G a S ta aQ).map some,L',tk):=by refine nw h ?_ ?_ ?_ ?_ ?_<;>intros<;>kernel_rfl
theorem az.n0:Ends κ.s0 ((Mine.Internal.run ⟨⟨Rw.prog,w.params⟩,K w.params,0,0,none⟩ 400).S [] σ ⟨κ.bE w G a S ta aQ,L',tk,[2,2,3,3,3,3,3,3,3,3], .nil⟩ (me rt.scope rt.globals rt.closure (Rz G a ta κ.tag t) (rt.qualname++".<locals>.") (some 126) rt.code none rt.builtins) fin) (.ok (su stQ ⟨.function,D6.names,D6.isGenerator,D6.isCoroutine,D6.more⟩ L' 126 (.ref 125) [("parse_qname",L'+1+1),("self",L'+1)]),(κ.bE w G a S ta aQ++aEu w a.at_ ta κ.tag t G.tg L' tk).map some,L'+3,tk+4):=by refine nw h ?_ ?_ ?_ ?_ ?_<;>intros<;>kernel_rfl
theorem az.b1(L J H:Nat)(Y:ar)(sz tb:Nat):Ends κ.s2 (κ.run w G a S ta aQ t L tk J H Y sz tb σ) (.ok .next,(κ.end w G a S ta aQ t L tk J H sz tb σ).map some,σ κ.m 0+κ.a5,σ κ.m 1+κ.a6):=by revert w;refine bW (λw=>?_) (λw=>?_)<;>(revert w;refine byRow2 "comprehension-iter-twice" (λw=>?_) (λw=>?_)<;>refine nw h ?_ ?_ ?_ ?_ ?_<;>intros<;>kernel_rfl)
omit h
theorem az.ixs(h:κ.V):κ.s0.Nodup/\κ.s2.Nodup/\κ.s8.Nodup/\κ.s9.Nodup/\κ.ix.Nodup:=by refine nw h ?_ ?_ ?_ ?_ ?_<;>intros<;>exact of_decide_eq_true (by kernel_rfl)
end
section
variable {κ:az}(h:κ.V)(hx:κ.c≠0->κ.x∈dS)
include h hx
theorem az.skk:((["n","c","s","l","h"]:List Str).foldl gN [κ.tag]).Perm κ.sk/\Dx oH κ.sk κ.m/\Aw κ.sk=true:=by
 revert hx;refine nw h ?_ ?_ ?_ ?_ ?_;·exact λz z=>⟨P5,qf.sort P3 rfl (.inl rfl),P8⟩
 ·exact λx hx=>have hx:=hx nofun;⟨Iy hx,qf.sort (Ix hx) rfl (.inr rfl),IB hx⟩
 ·exact λz z z=>⟨P5,qf.sort P3 rfl (.inl rfl),P8⟩
 ·exact λp x hx=>have hx:=hx nofun;⟨Iy hx,qf.sort (Ix hx) rfl (.inr rfl),IB hx⟩
 ·exact λp x hx=>have hx:=hx nofun;⟨Iy hx,qf.sort (Ix hx) rfl (.inr rfl),IB hx⟩
theorem az.RD(H:Xs)(y z m:Nat):((κ.pd H).map (·.k)).Nodup/\g7 (fZ (κ.pd H)) κ.tag=some (.ref (κ.r H y z m).qt):=by
 have g:κ.c≠0->(([⟨#[99]⟩,⟨#[104]⟩,⟨#[108]⟩,⟨#[110]⟩,⟨#[115]⟩,iv κ.x]:List Str)).Nodup:=λn=>by have:=hx n;unfold dS at this;simp only[a9,bi,or_false]at this;rcases this with e|e|e|e|e|e<;>refine rR e ?_<;>decide+kernel
 revert hx g;refine nw h ?_ ?_ ?_ ?_ ?_;·exact λj j j=>⟨by show aXa [(⟨#[99]⟩:Str),⟨#[104]⟩,⟨#[108]⟩,⟨#[110]⟩,⟨#[115]⟩];decide+kernel,rfl⟩
 ·exact λx hx g=>⟨g nofun,Jk (hx nofun) ..⟩
 ·exact λj j j j=>⟨by show aXa [(⟨#[99]⟩:Str),⟨#[104]⟩,⟨#[108]⟩,⟨#[110]⟩,⟨#[115]⟩];decide+kernel,rfl⟩
 ·exact λp x hx g=>⟨g nofun,Jk (hx nofun) ..⟩
 ·exact λp x hx g=>⟨g nofun,Jk (hx nofun) ..⟩
end
section
variable {κ:az}(h:κ.V){G:TG}{a:AT}{S:SX}{σ:Xs}
include h
theorem az.psk(H:qi a)(Q:Q5)(x:_root_.Fin 5->Nat):∃n,D5 (κ.ps a Q x σ) n ⟨x 4,⟨#[115]⟩,Q.u 4,a.s,a.ts⟩:=by
 refine nw h ?_ ?_ ?_ ?_ ?_;·exact λz=>⟨_,D8 H Q x⟩
 ·exact λz=>⟨_,RC H ..⟩
 ·exact λz z=>⟨_,D8 H Q x⟩
 ·exact λz z=>⟨_,D8 H Q x⟩
 ·exact λz z=>⟨_,RC H ..⟩
theorem az.psm(Q:Q5)(x:_root_.Fin 5->Nat)(R:List (af×ar)):∀p∈κ.ps a Q x σ,(p.a,p.o)∈yc a Q x++(κ.xr σ++R):=by
 have m:∀p∈wb ..,∀R,_∈yc a Q x++R:=λp hp R=>bL _ (aJs hp);refine nw h ?_ ?_ ?_ ?_ ?_;·exact λz p hp=>m p hp _
 ·intro H p hp;rcases a9.mp hp with rfl|hp
  ·exact bD _ (aB ay)
  ·exact m p hp _
 ·exact λz z p hp=>m p hp _
 ·exact λz z p hp=>m p hp _
 ·intro q H p hp;rcases a9.mp hp with rfl|hp
  ·exact bD _ (aB ay)
  ·exact m p hp _
theorem az.psj(Q:Q5)(x:_root_.Fin 5->Nat)(y z m:Nat):(κ.ps a Q x σ).map fJ=wa κ.c κ.x a/\(κ.r σ y z m).z=zS κ.c κ.x/\(κ.r σ y z m).z.length<=100:=by
 refine nw h ?_ ?_ ?_ ?_ ?_;·exact λj=>⟨rfl,rfl,dk rfl⟩
 ·exact λj=>⟨rfl,rfl,Jl _⟩
 ·exact λj j=>⟨rfl,rfl,dk rfl⟩
 ·exact λj j=>⟨rfl,rfl,Jl _⟩
 ·exact λj j=>⟨rfl,rfl,Jl _⟩
abbrev kD(G:TG)(ta e:Nat)(J:List ag)(H Y:Nat):List (af×ar):=[(123,iC (H+5)),(H+5,lM H Y),(ta,aA J e),(G.ds,aA ((G.cU.map λl=>aN l.a)++[aN ta]) G.dep)]
theorem az.e8(tag:Str)(q:SQ)(Q:Q5)(hQ:Q=kQ σ)(Z:List DE)(n:Nat)(x:_root_.Fin 5->Nat)(y z m H Y e:Nat)(J:List ag)(C:List (af×ar))(hC:C=[(123,iC (H+5)),(H+5,lM H Y),(ta,listOf J.toArray e),(G.tg,dX 150 G.td),(G.td,fp w (.ref S.wm) G.b G.rs G.rn G.dl G.ds G.ns G.pm G.ps G.ti G.ep G.kt),(G.ds,listOf ((G.cU.map λl=>aN l.a)++[aN ta]).toArray G.dep),(G.ns,listOf (G.aL.map λl=>aN l.a).toArray G.ej),(S.wm,fY S.wl),(S.wl,listOf S.wv.toArray S.we),(G.ps,listOf (S.cw++[dY false]).toArray S.dD),(q.L+1+1,np (some (.ref q.cm))),(q.L+1,np (some (.ref G.tg)))]):pick (I6 w G a ta tag t q Q Z n (κ.al σ) κ.ae x y z m++(C++κ.It σ)) κ.s8=(Jh w G a S ta tag t q Q (κ.r σ y z m) Z n ((κ.ps a Q x σ).map λp=>aN p.a) (κ.ae+5)++(yc a Q x++(κ.xr σ++kD G ta e J H Y))).map some:=by subst hQ hC;refine nw h ?_ ?_ ?_ ?_ ?_<;>intros<;>rfl
abbrev kY(sz tk H Y Z:Nat)(σ:Xs)(t1 t2 J:Nat):Nat->Nat:=nc (λi=>match i with
 |0=>sz|1=>tk|2=>H|6=>Y|7=>Z|8=>σ 6 6|9=>σ 6 7|10=>σ 6 8|100=>t1|101=>t2|_=>J)
theorem az.e9(Q:Q5)(x:_root_.Fin 5->Nat)(z J:Str)(t1 t2 Y sz tk H Z q2 e:Nat)(hq:κ.f=none\/κ.f=some (Z,q2)):pick (D3 w G a S z J t1 t2 Y H++(yc a Q x++(κ.xr σ++kD G ta e (κ.ti σ) Z q2))) κ.s9=(((H,aA [] 0)::κ.ex (kY sz tk H Z q2 σ t1 t2 Y))++([(123,κ.o' (kY sz tk H Z q2 σ t1 t2 Y)),(ta,aA (κ.aX (kY sz tk H Z q2 σ t1 t2 Y)) e),(G.tg,dX 150 G.td),(G.td,fp w (.ref S.wm) G.b true G.rn G.dl G.ds G.ns G.pm G.ps G.ti G.ep G.kt),(G.ds,aA ((G.cU.map λl=>aN l.a)++[aN ta]) G.dep),(G.ns,aA ((G.aL.map λl=>aN l.a)++[aN H]) (G.ej+1)),(a.at_,cE w a.es a.ep),(S.wm,fY S.wl),(S.wl,aA (S.wv++[ag.str ("<"++z) t1]++[ag.str J t2]++[ag.str ">" Y]) (S.we+3)),(G.ps,aA (S.cw++[dY false]++[dY false]) (S.dD+1))]++κ.lx)).map some:=by revert hq;refine nw h ?_ ?_ ?_ ?_ ?_<;>intros<;>first|rfl|(rename_i hq;rcases hq with hq|hq<;>cases hq;rfl)
theorem az.aJt:(κ.al σ).length<=900:=by refine nw h ?_ ?_ ?_ ?_ ?_<;>intros<;>exact dk rfl
omit h
theorem az.ixl(κ:az):κ.ix.length=4:=by obtain⟨_|p,c,x⟩:=κ<;>rfl
theorem az.q_f(κ:az)(sz tb:Nat):κ.f=none\/κ.f=some (κ.q1 sz,κ.q2 tb):=by
 obtain⟨_|p,c,x⟩:=κ;·exact .inl rfl
 ·exact .inr rfl
end
def rx:FuncData:=match u5.1.data with
 | .func f=>f|_=>default
abbrev Eb:List Stmt:=bodyOf u5.1
abbrev RE(L:af):Env:=mD u5.1 120 L
abbrev fP(G:TG):TG:=nc ({ G with dep:=G.dep+1 })
abbrev ny(w:aj)(G:TG)(a:AT)(S:SX)(tb:List (af×ar))(J:List ag)(H:Nat):List (af×ar):=tb++[(G.tg,dX 150 G.td),(G.td,fp w (.ref S.wm) G.b G.rs G.rn G.dl G.ds G.ns G.pm G.ps G.ti G.ep G.kt),(G.ds,listOf (G.cU.map λl=>aN l.a).toArray G.dep),(G.ns,listOf (G.aL.map λl=>aN l.a).toArray G.ej),(G.dl,listOf J.toArray H),(a.at_,cE w a.es a.ep),(S.wm,fY S.wl),(S.wl,listOf S.wv.toArray S.we),(G.ps,listOf (S.cw++[dY false]).toArray S.dD)]
abbrev Jm(w:aj)(G:TG)(a:AT)(tag:Str)(t:ab)(L tk:Nat):List (af×ar):=nc ([(L,⟨.type "frame",none, .dict (cF [⟨aS w.params "self", .str "self" tk, .ref G.tg⟩,⟨aS w.params "tag", .str "tag" (tk+1), .str tag t⟩,⟨aS w.params "attrs", .str "attrs" (tk+2), .ref a.at_⟩]) 3,#[]⟩)])
abbrev yj(G:TG)(a:AT)(tag:Str)(t:ab):Args:=nc (⟨[.ref G.tg, .str tag t, .ref a.at_],[]⟩)
abbrev RF(ix:List Nat)(w:aj)(G:TG)(S:SX)(x:Str)(t:ab)(H:Nat)(next:aM):aF:= .cons none (gG 106 [.ref G.tg]) ix (oO w G S x t H) (v9 w G S x H) next
theorem aJu{c:bB}{Z Y:List (af×ar)}{fc H:(Nat->Nat)->Out}(h:nW w c n Z fc)(J:Z.Perm Y)(e:∀x,∃y,(fc x).res=(H y).res/\(fc x).sz=(H y).sz/\(fc x).tk=(H y).tk/\(fc x).new.Perm (H y).new/\(fc x).post.Perm (H y).post):nW w c n Y H:=by intro k m news s R H F N Y dj Z hu hb hR;exact h k m news s R H F (λp H=>N p ((J.append_right news).mem_iff.mp H)) (((J.map (·.1)).nodup_iff).mpr Y) (λq Y p H=>dj q Y p (J.mem_iff.mp H)) Z hu hb λx s' h1 h2 h3 h4 F' N' mq hf hl=>MO (e x) λy e1 e2 e3 Z e5=>e1▸hR y s' (h1.trans e2) (h2.trans e3) h3 h4 F' (λp H=>N' p ((Z.append (e5.append_right news)).mem_iff.mpr H)) (((Z.map (·.1)).nodup_iff).mp mq) (λp H q Y=>hf p (Z.mem_iff.mpr H) q ((J.append_right news).mem_iff.mpr Y)) hl
noncomputable def mI(n:Nat)(H J Y:Nat->Nat):Nat->Nat:=λi=>if i< 100 then H i else if i< 100+n then J i else Y (i - n)
theorem yk(a:List Str)(y:Nat->Nat):(bn a y).length=a.length:=by exact rR Ge rfl
theorem ue(a b:List Str)(Y H J:Nat->Nat):bn (a++b) (mI a.length Y H J)=bn a H++bn b J:=by
 unfold bn mI;refine rR List.mapIdx_append (congr (congrArg _ ?_) ?_)
 ·refine jH λi=>?_;simp only[gB,gB];induction z:a[i]? with
  |none=>rfl|some s=>have:i< a.length:=(r9.mp z).1;exact rR (if_neg (dA.mpr (fG ..))) (rR (if_pos (WA this _)) rfl)
 ·refine jH λi=>?_;simp only[gB,gB];induction z:b[i]? with
  |none=>rfl|some s=>exact rR (if_neg (dA.mpr (fG ..))) (rR (if_neg (by exact dA.mpr (aT [] (lE (100+Y0) (100+(Y1+Y0))) rfl))) (rR (show 100+_ - a.length=100+i by exact c8 (b8 [eQ (Y0+Y2) (100+(Y1+Y2))] (lE Y0 (100+Y1)) rfl (bY (aT [] (lE Y0 (100+(Y1+Y0))) rfl))) (cA [eQ (Y1+Y2) (100+(Y0+Y2))] (lE (100+Y0) Y1) [-1] 1 rfl (bY (aT [] (lE Y0 (100+(Y1+Y0))) rfl)))) rfl))
theorem AQ{A l':List (af×ar)}(H:ax True aa ak (A++led) s)(Y:ix.Nodup)(e:pick led ix=l'.map some):ax True aa ak (A++l') s:=by
 refine lO H (ix:=fI A.length++ix.map (· +A.length)) ?_ ?_
 ·rw[fj];refine⟨uW,aZe _ (λa b(h:a≠b)=>(Nat.lt_or_gt_of_ne h).elim (λH=>dw (aXb H _)) (λH=>jd (aXb H _))) Y,λx Z y H e=>?_⟩;refine aO (bq.mp H) λi j J=>?_;subst J;have:=aUg.mp Z;exact jI 0 (cA [eQ Y0 (Y1+Y2),lL Y0 Y2] (lL 0 0) [-1,1] 0 rfl e this)
 ·show qH _ _=_;simp only[bM,bM,BH];refine congr (congrArg _ ?_) ?_
  ·refine jH λi=>?_;simp only[dP,dP];by_cases h:i< A.length;·simp only[WW h,gF h,F8,F8,aWg h,gF h]
   ·rw[uQ (WX▸aT [lE Y0 Y1] (lE Y0 Y1) rfl (dA.mp h)),uQ (by exact aT [lE Y0 Y1] (lE Y0 Y1) rfl (dA.mp h))];rfl
  ·refine rL e (Wz λi z=>?_);show _[i+A.length]?=_;rw[aWh (dG ..),Nat.add_sub_cancel]
def oQ(b:Bool)(xs:Str):List Str:=match (iZ b xs).cps.toList with
 |[]=>[]|_=>[v8 (iZ b xs)]
structure az.Ok(κ:az)(G:TG)(wm:Nat):Prop where
 g:(κ.c=0)\/(κ.c=1/\κ.f≠none/\(gW G wm).Tag κ.x/\∃e∈G.ents,e.u=bv κ.x)\/(κ.c=2/\(gW G wm).Tag κ.x/\∀e∈G.ents,e.u≠bv κ.x)
def Jn(κ:az)(w:aj)(G:TG)(a:AT)(S:SX)(ta aQ:Nat):(Nat->Nat)->Out:=λy=>⟨.ok (.ret .none),Ea κ w G a S ta aQ y++(G.ro++κ.lx),(y 2,aA [] 0)::κ.ex y,y 0,y 1⟩
theorem aJv(κ:az)(a:AT)(S:SX)(t1 t2 H:Nat)(y:Nat->Nat)(Y:y 100=t1)(J:y 101=t2)(Z:y 102=H):S.wv++[ag.str ("<"++zS κ.c κ.x) t1]++[ag.str (mH (wa κ.c κ.x a)) t2]++[ag.str ">" H]=S.wv++bn (κ.ws a) y:=by subst Y J Z;refine rR (bH ..) (rR (bH ..) ?_);rfl
theorem RH(X l R:List α):((X++l)++R).Perm (X++(R++l)):=bH X l R▸jM.append_left X
theorem aJw(p:α)(F e Z:List α):(p::((F++e)++Z)).Perm (e++(p::(F++Z))):=rR (bH ..) (List.perm_append_comm_assoc (p::F) e Z)
theorem wc(i:Nat):[i,i+1,i+2,i+3,i+4].Nodup:=X4 (n:=5)
theorem az.Ok.v{κ:az}{G:TG}(h:κ.Ok G wm):κ.V:=h.g.imp id (.imp (λh=>⟨h.1,h.2.1⟩) And.left)
theorem az.Ok.let{κ:az}{G:TG}(h:κ.Ok G wm)(n:κ.c≠0):κ.x∈dS:=by
 rcases h.g with e|⟨z,z,g,z⟩|⟨z,g,z⟩
 ·exact absurd e n
 ·exact g.hx
 ·exact g.hx
theorem az.Ok.o6{κ:az}{G:TG}{S:SX}(h:κ.Ok G S.wm){k:KX}(Z:k.Ok w)(r:tZ k aq (gW G S.wm))(Y:U+240< dQ)(g:(gW G S.wm).Ok ta [])(s:Nat->Nat)(lv:List af):(κ.o6 w G S ta aQ s).Ok True (av w) k.bE U (some k.L) aq lv:=by
 obtain⟨f,c,x⟩:=κ;rcases h.g with rfl|⟨rfl,j,J,H⟩|⟨rfl,J,H⟩
 ·trivial
 ·exact⟨rfl,wc _,QJ Z r Y g J H,λz z z=>True.intro⟩
 ·exact⟨rfl,wc _,aH1 Z r Y g J H,λz z z=>True.intro⟩
theorem aJx(X l N:List α):((X++l)++N).Perm (l++(X++N)):=rL (bH ..) (jM.append_right N)
theorem Jo{X l B C:List (af×ar)}(J:ax True aa ak X s)(p:X.Perm (l++led))(H:ix.Nodup)(e:pick led ix=(B++C).map some):ax True aa ak (B++(C++l)) s:=bj (AQ (bj J p) H e) (bH B C l▸jM)
theorem aJy(w:aj)(κ:az)(G:TG)(a:AT)(S:SX)(ta aQ:Nat)(t:ab)(g:(gW G S.wm).Ok ta [])(gk:κ.Ok G S.wm)(ha:qi a)(oP:S.cw.length<=900)(fq:S.wv.length<=900)(rr:G.aL.length<=900):nW w (.call (.ref 126) (Dh G a ta κ.tag t)) 8 (D9 κ w G a S ta aQ++(G.ro++κ.lx)) (Jn κ w G a S ta aQ):=by
 have V:=gk.v;refine qI (az.ixs V) λnd0 qO AR nd9 ndi=>aJu (fc:=λy=>⟨.ok _,κ.P w G a S ta aQ y++G.ro,_::κ.ex y,y 0,y 1⟩) (xZ _ (aJo w) rfl rfl (body:=fC) (by kernel_rfl) (by kernel_rfl) _ [0] (az.b0 V w G a S ta aQ t) _ 3 4 [2,2,3,3,3,3,3,3,3,3] _ nd0 (az.n0 V w G a S ta aQ t) (λ_=>rfl) (λ_=>rfl) ?_) (RH ..) λy=>⟨y,rfl,rfl,rfl, .refl _,RH ..⟩;intro k tk s ak Q' E aq H hL bz jw aZ b6 f7 SR hz ht dq;have X1:aK w aq:=λb o e=>aZ _ _ (H.X b o e);have S1:=Jo (B:=xY ..) (C:=[(123,κ.o),_,_,_,_,_,_,_]) SR (aJx ..) (ix:=[2,3,10,11,12,0,1,4,5,6,7,8,9]) (by decide) rfl;refine cJ (kG S1) λSB hrb gu=>begun rfl (λb o e=>gu _ _ (X1 b o e)) SB ht (hrb (a.at_,cE ..) (bL _ (aB (aB (aB (aB ay)))))) ha.sys λY S0 oS kq hS S2 Jp Dy=>?_;have S4:ax True aq ak (κ.led ..) Y:=bj (Jo (B:=[]) (C:=_::_::_) (q6 S1 S2) (by exact rL (bH ..) jM) (ix:=[0,6,7,1,2,8,9,10,11,12,13,3,4,5]) (by decide) rfl) ((jM.cons _).cons _);have nD:tZ k aq (gW G S.wm):=⟨aZ,b6,f7,hL,aT [lL (Y0+8) (Y1+1)] (lL (Y0+6) Y1) rfl bz⟩
 have Z:=aT [lL (Y0+(.m 40 8)) (Y1+3)] (lL (Y0+240) Y1) rfl jw;refine cJ (az.skk V gk.let) λsp so ss=>rR aJp (da ?_);refine wp_run S4 X1 rfl 2 0 500 _ κ.s2 _ (λ_=>?_) (λ_=>⟨H.T.nolimit.keeps aZ,aT [lL (Y0+8) (Y1+1)] (lE (Y0+2) Y1) rfl bz⟩) (U:=k.un) (a8 _) qO _ _ _ _ (λσ=>az.b1 V ..) λσ s5 S5 _ _ G5=>?_;·exact⟨κ.ixl,ndi,aGw H hL (aT [lL (Y0+8) (Y1+1)] (lE (Y0+1) Y1) rfl bz) (aT [lL (Y0+(.m 40 8)) (Y1+3)] (lL (Y0+3) Y1) rfl jw) aZ hS sp so ss (b8 [lE Y0 Y2,lL Y2 Y1] (lE Y0 Y1) rfl hL Dy),λs _ _=>⟨rfl,wc _,xX H nD Z g 99 (by decide),λq1 _ _=>⟨rfl,wc _,xX H nD Z g 104 (by decide),λq2 _ _=>⟨rfl,wc _,xX H nD Z g 108 (by decide),λq3 _ _=>⟨rfl,wc _,xX H nD Z g 110 (by decide),λq4 _ _=>⟨rfl,wc _,xX H nD Z g 115 (by decide),λq5 _ _=>gk.o6 H nD Z g s _⟩⟩⟩⟩⟩⟩
 obtain⟨q,hq⟩:∃q,q=κ.sq k.L tk S0 kq Y.heap.objs.size Y.toks σ:=⟨_,rfl⟩
 have qL:q.L=k.L:=congrArg SQ.L hq;unfold az.end at S5;rw[<-hq]at S5;obtain⟨Q,J⟩:∃Q,Q=kQ σ:=⟨_,rfl⟩
 rw[<-J]at S5;obtain⟨pn,_⟩:=az.RD V gk.let σ 0 0 0;show aG _ _ (aV (_++_) (jT k.L)) _ _ _;refine da (rL qL ?_);refine aJg rfl X1 (Jo (B:=I5 w G a ta κ.tag t q Q _ κ.m _ κ.ae) (C:=[(123,iC _),_,_,_,_,_,_,_,_,_,_,_]) S5 (aJw ..) (ix:=[0,1,2,3,4,5,6,14,20,7,8,9,10,11,12,13,15,16,17,18,19]) (by decide) rfl) pn (by refine rR J ?_;rfl) (by refine rR J ?_;rfl) (by refine rR J ?_;rfl) (by refine rR J ?_;rfl) (by refine rR J ?_;rfl) (az.aJt V) ha.sys λZ xx y1 z1 m1 S7 Jq=>?_;obtain⟨n,pok⟩:=az.psk V ha Q xx;refine cJ (az.psj V (a:=a) Q xx ..) λpj rz Z=>aJn H X1 aZ hL (aT [lL (Y0+8) (Y1+1)] (lL (Y0+3) Y1) rfl bz) (aT [lL (Y0+(.m 40 8)) (Y1+3)] (lL (Y0+123) Y1) rfl jw) qL (lO S7 AR (az.e8 V κ.tag q Q J _ κ.m xx y1 z1 m1 _ _ _ _ _ rfl)) pn (az.RD V gk.let ..).2 ha.sys pok (az.psm V Q xx _) oP fq rr Z λH t1 t2 J nl S9 Z=>?_;rw[rz,pj]at S9;have yl:=lO S9 nd9 (az.e9 V Q xx _ _ t1 t2 J H.heap.objs.size H.toks nl _ _ _ (κ.q_f Y.heap.objs.size Y.toks));refine dq (kY H.heap.objs.size H.toks nl (κ.q1 Y.heap.objs.size) (κ.q2 Y.toks) σ t1 t2 J) .next H rfl rfl rfl ?_ (ik.trans Jp (ik.trans G5.live (ik.trans Jq Z)));rw[(aJv κ a S t1 t2 J (kY H.heap.objs.size H.toks nl _ _ σ t1 t2 J) rfl rfl rfl)]at yl;exact yl
theorem RI(w:aj):(K w.params).lookup 120=some ⟨u5.1.cls,u5.1.dict, .func rx,u5.1.slots⟩:=by kernel_rfl
abbrev srQ:Str:=nc ("C14NWriterTarget.start")
def Ec:Scope:=nc (rx.scope)
abbrev RJ(G:TG)(a:AT)(tag:Str)(t:ab):List (Str×ag):=nc ([("self", .ref G.tg),("tag", .str tag t),("attrs", .ref a.at_)])
theorem RK(y:Str)(t:ab):(qh y t).length<=1:=by
 unfold qh;split;·exact f4 _
 ·exact a8 _
theorem aJz{G:TG}(g:(gW (fP G) wm).Ok ta aX):(gW (fP { G with rs:=true }) wm).Ok ta aX:=⟨g.hy,g.js,g.jS,g.mF,g.oA,g.hz,g.tN,g.ra,g.rb,g.rf,g.rh⟩
theorem RL{G:TG}{x:Nat}(g:(gW (fP G) wm).Tag x):(gW (fP { G with rs:=true }) wm).Tag x:=⟨g.hx,g.nj,g.fX,g.hex⟩
abbrev RM(κ:az)(w:aj)(G:TG)(a:AT)(S:SX)(t:ab)(ta:Nat)(out:Nat->SX->(Nat->Nat)->Out):aF:= .cons none (.call (.ref 126) (Dh G a ta κ.tag t)) [1,0,2,3,4,5,7,8,9,10] (D9 κ w G a S ta 0) (λy=>⟨.ok (.ret .none),(out ta S y).post,(out ta S y).new,(out ta S y).sz,(out ta S y).tk⟩) λ_=> .nil
abbrev SX.fl(S:SX)(b:Bool)(xs:Str)(y:Nat):SX:={ S with wv:=S.wv++qh (iZ b xs) y,we:=S.we+AK (iZ b xs) }
def RN(κ:az)(w:aj)(G:TG)(a:AT)(S:SX)(t:ab)(sz:Nat)(out:Nat->SX->(Nat->Nat)->Out):aF:=il 4 G.ds (G.cU.map λl=>aN l.a) G.dep (.ref sz) λH=>RM κ w (fP G) a S t sz out
def RO(κ:az)(w:aj)(G:TG)(a:AT)(S:SX)(t u:ab)(xs:Str)(H:Nat)(out:Nat->SX->(Nat->Nat)->Out):aF:=RF [1,2,5,9,7,8] w { G with rs:=true } S xs u H λH=>il 4 G.ds (G.cU.map λl=>aN l.a) G.dep (.ref (H 0)) λJ=>RM κ w (fP { G with rs:=true }) a (S.fl G.b xs (H 2)) t (H 0) out
def RP:List Nat:=(dN 93 0x20318c20c0000060000600006c2006300003000001b04c294a52006300003000001b18c300c0300c618042000020000012c6010800008000004b)
def RQ:List Nat:=(dN 111 0x80c630830000018000180001b08018c0000c000006c130a52948018c0000c000006c630401880000040000400004b300c0300c618042000020000012c6010800008000004b)
abbrev RR(κ:az)(w:aj)(G:TG)(a:AT)(S:SX)(t:ab)(H ta L tk J:Nat):List (af×ar):=(ta,listOf ([]:List ag).toArray 0)::(ny w G a S [(123,κ.o)] [] H).set 3 (G.ds,listOf ((G.cU.map λl=>aN l.a)++[aN ta]).toArray (G.dep+1))++[(L,⟨.type "frame",none, .dict (cF [⟨aS w.params "self", .str "self" tk, .ref G.tg⟩,⟨aS w.params "tag", .str "tag" (tk+1), .str κ.tag t⟩,⟨aS w.params "attrs", .str "attrs" (tk+2), .ref a.at_⟩,⟨aS w.params "new_namespaces", .str "new_namespaces" J, .ref ta⟩]) 4,#[]⟩)]
section
variable (κ:az)(w:aj)(G:TG)(a:AT)(S:SX)(t u:ab)(xs:Str)(de:Nat)(out:Nat->SX->(Nat->Nat)->Out)(L tk:Nat)
theorem aJ0(sz tb:Nat)(H:Xs):bA ((aI w 0 0 (some L) 500).S [] H ⟨ny w G a S [(123,κ.o)] [] de++Jm w G a κ.tag t L tk,sz,tb,RP,RN κ w G a S t sz out⟩ (aV Eb (RE L)) fin) (.ok .next,(out sz S (H 1)).new++putAll (RR κ w G a S t de sz L tk (tb+4)) [1,0,2,3,4,5,7,8,9,10] (out sz S (H 1)).post,(out sz S (H 1)).sz,(out sz S (H 1)).tk):=by kernel_rfl
theorem aJ1(sz tb:Nat)(H:Xs):bA ((aI w 0 0 (some L) 500).S [] H ⟨ny w { G with rs:=true } a S [(123,κ.o)] [ag.str xs u] de++Jm w G a κ.tag t L tk,sz,tb,RQ,RO κ w G a S t u xs de out⟩ (aV Eb (RE L)) fin) (.ok .next,(out (H 0 0) (S.fl G.b xs (H 0 2)) (H 2)).new++putAll (RR κ w { G with rs:=true } a (S.fl G.b xs (H 0 2)) t (de+1) (H 0 0) L tk (H 0 1)) [1,0,2,3,4,5,7,8,9,10] (out (H 0 0) (S.fl G.b xs (H 0 2)) (H 2)).post,(out (H 0 0) (S.fl G.b xs (H 0 2)) (H 2)).sz,(out (H 0 0) (S.fl G.b xs (H 0 2)) (H 2)).tk):=by kernel_rfl
theorem RS(H:List ag)(J:Xs):Ends [1,2,3,4,5,6,7,8,9,10,0] ((aI w 0 0 none 400).S [] J ⟨ny w G a S [(123,κ.o)] H de,L,tk,[1,1,1,1,1,1], .nil⟩ (me rx.scope rx.globals rx.closure (RJ G a κ.tag t) (rx.qualname++".<locals>.") (some 120) rx.code none rx.builtins) fin) (.ok (su srQ ⟨.function,Ec.names,Ec.isGenerator,Ec.isCoroutine,Ec.more⟩ L 120 (.ref 119) []),(ny w G a S [(123,κ.o)] H de++Jm w G a κ.tag t L tk).map some,L+1,tk+3):=by kernel_rfl
theorem RU(H:List ag)(J:Xs):Ends (fI (ny w G a S [(123,κ.o)] H de).length) ((aI w 0 0 none 400).S [] J ⟨ny w G a S [(123,κ.o)] H de,L,tk,[], .nil⟩ (md rx (yj G a κ.tag t)) fin) (.ok (RJ G a κ.tag t),(ny w G a S [(123,κ.o)] H de).map some,L,tk):=by kernel_rfl
end
def Ed(c:Prop)[Decidable c](o:Out):Out:=if c then o else { o with new:=[(0,aA [] 0),(0,aA [] 0)] }
theorem Jr{c:Prop}[Decidable c]{o:Out}(h:c):Ed c o=o:=if_pos h
theorem RW{c:Prop}[Decidable c]{o:Out}{l:List (af×ar)}(H:ax True aa ak ((Ed c o).new++l) s):c:=by
 by_cases h:c;·exact h
 ·unfold Ed at H;rw[if_neg h]at H;exact absurd H.h.nd (λH=>(cj.mp H).1 ay)
theorem RX(b:Bool)(xs:Str)(t:ab):qh (iZ b xs) t=bn (oQ b xs) (λ_=>t):=by unfold qh oQ;cases (iZ b xs).cps.toList<;>rfl
abbrev AS(κ:az)(w:aj)(G:TG)(a:AT)(S:SX)(H:List Str)(ta:Nat)(y:Nat->Nat):List (af×ar):=[(123,κ.o' y),(G.tg,dX 150 G.td),(G.td,fp w (.ref S.wm) G.b true G.rn G.dl G.ds G.ns G.pm G.ps G.ti G.ep G.kt),(G.ds,aA ((G.cU.map λl=>aN l.a)++[aN ta]) (G.dep+1)),(G.ns,aA ((G.aL.map λl=>aN l.a)++[aN (y 2)]) (G.ej+1)),(G.dl,aA [] (y 13)),(a.at_,cE w a.es a.ep),(S.wm,fY S.wl),(S.wl,aA (S.wv++bn (H++κ.ws a) y) (y 14)),(G.ps,aA (S.cw++[dY false]++[dY false]) (S.dD+1))]
abbrev RY(κ:az)(w:aj)(G:TG)(a:AT)(S:SX)(H:List Str):(Nat->Nat)->Out:=λy=>⟨.ok (.ret .none),AS κ w G a S H (G.ds+1+y 11) y++(G.ro++κ.lx),(y 2,aA [] 0)::(κ.ex y++[(G.ds+1+y 11,aA (κ.aX y) (0+κ.lP))]),y 0,y 1⟩
abbrev mJ(κ:az)(w:aj)(G:TG)(a:AT)(ta:Nat)(S:SX)(y:Nat->Nat):Out:=Ed (G.ds< ta) ⟨.ok (.ret .none),Ea κ w (fP G) a S ta 0 y,(Jn κ w (fP G) a S ta 0 y).new,y 0,y 1⟩
theorem aJ2{κ:az}{G:TG}(g:κ.Ok (fP G) wm):κ.Ok (fP { G with rs:=true }) wm:=by
 obtain⟨g⟩:=g;refine⟨?_⟩;rcases g with h|⟨J,Z,Y,H⟩|⟨J,Y,H⟩
 ·exact .inl h
 ·exact .inr (.inl ⟨J,Z,RL Y,H⟩)
 ·exact .inr (.inr ⟨J,RL Y,H⟩)
section
variable (κ:az)(w:aj)(G:TG)(a:AT)(S:SX)(t u:ab)(xs:Str)(de:Nat)
theorem RZ{k:KX}(ok:k.Ok w)(hL:k.aa.objs.size<=k.L)(hn:k.dp+8< bk)(hU:U+320< dQ)(aZ:∀b o,k.aa.get? b=some o->aq.get? b=some o)(J:∀p∈G.ro++κ.lx,aq.get? p.1=some p.2/\p.1≠k.L/\k.aa.get? p.1=none)(Z:((G.ro++κ.lx).map (·.1)).Nodup)(H:G.ds< ta)(g:∀ta,G.ds< ta->(gW (fP G) S.wm).Ok ta [])(Y:κ.Ok (fP G) S.wm)(ha:qi a)(oP:S.cw.length<=900)(fq:S.wv.length<=900)(rr:G.aL.length<=900):Told True (av w) k.bE U (some k.L) aq (.call (.ref 126) (Dh (fP G) a ta κ.tag t)) (D9 κ w (fP G) a S ta 0) (λy=>⟨.ok (.ret .none),(mJ κ w G a ta S y).post,(mJ κ w G a ta S y).new,(mJ κ w G a ta S y).sz,(mJ κ w G a ta S y).tk⟩):=by
 have e:(λy=>(⟨.ok _,(mJ ..).post,(mJ ..).new,(mJ ..).sz,(mJ ..).tk⟩:Out))=λy=>⟨.ok (.ret .none),Ea κ w (fP G) a S ta 0 y,(Jn κ w (fP G) a S ta 0 y).new,y 0,y 1⟩:=funext λy=>by unfold mJ;exact rR (Jr H) rfl
 exact rR e (q8 (aJy w κ _ a S ta 0 t (g _ H) Y ha oP fq rr) ok hL hn hU aZ (.refl _) J Z (λz=>⟨rfl,rfl,rfl,rfl, .refl _⟩) (λz=>rfl))
def yS(x:Nat->Nat)(ta de we:Nat):Nat->Nat:=nc (λi=>match i with
 |11=>ta|13=>de|14=>we|i=>x i)
theorem aJ3(g:∀ta,G.ds< ta->(gW (fP G) S.wm).Ok ta [])(gk:κ.Ok (fP G) S.wm)(ha:qi a)(mE:G.cU.length<=900)(oP:S.cw.length<=900)(fq:S.wv.length<=890)(rr:G.aL.length<=900):nW w (.call (.ref 120) (yj G a κ.tag t)) 10 (ny w G a S [(123,κ.o)] [] de++(G.ro++κ.lx)) (RY κ w G a S []):=by
 refine xZ _ (RI w) rfl rfl (body:=Eb) (by kernel_rfl) (by kernel_rfl) _ [] (λL tk=>RU κ w G a S t de L tk []) _ 1 3 [1,1,1,1,1,1] _ (by decide) (λL tk=>RS κ w G a S t de L tk []) (λj=>rfl) (λj=>rfl) ?_;intro k tk s ak Q' E aq ok hL bz jw aZ b6 f7 SR hz ht dq;refine gL SR (λb o e=>aZ _ _ (ok.X b o e)) rfl 0 0 500 RP (RN κ w G a S t s.heap.objs.size (mJ κ w G a)) (λlow=>?_) nofun (a8 _) _ _ _ _ (λJ=>aJ0 ..) λJ s' H Y jU G'=>?_
 ·exact lu (rR (dB ..) (aE mE (by decide))) λap j=>⟨rfl,by decide,RZ κ w G a S t ok hL (aT [lL (Y0+10) (Y1+1)] (lL (Y0+8) Y1) rfl bz) (aT [lL (Y0+(.m 40 10)) (Y1+3)] (lL (Y0+320) Y1) rfl jw) aZ b6 f7 (low _ (aB (aB (aB ay)))) g gk ha oP (bu [lE Y0 890] (lE Y0 900) rfl fq) rr,λj j j=>True.intro⟩
 ·have Z:=RW H;obtain⟨z,oj⟩:∃z,s.heap.objs.size=G.ds+1+z:=⟨s.heap.objs.size - (G.ds+1),c8 (cA [eQ (Y2+(Y1+1)) Y0] (lE Y0 (Y1+1+Y2)) [-1] 1 rfl (bY (aT [lL Y0 Y1] (lE (Y0+1) Y1) rfl Z))) (b8 [eQ (Y1+(Y0+1)) Y2] (lE (Y0+1+Y1) Y2) rfl (bY (aT [lL Y0 Y1] (lE (Y0+1) Y1) rfl Z)))⟩
  unfold mJ at H Y jU;rw[Jr Z]at H Y jU;have Z:=AQ H (ix:=[0,1,2,3,4,5,6,7,8,9,10]) (l':=_::AS κ w G a S [] s.heap.objs.size (yS (J 1) z de _)) (by decide) rfl;rw[oj]at Z;refine dq (yS (J 1) z de (S.we+3)) .next s' rfl Y jU ?_ G'.live;exact rR sj (rR (bH ..) Z)
theorem aJ4(g:∀ta,G.ds< ta->(gW (fP G) S.wm).Ok ta [])(gk:κ.Ok (fP G) S.wm)(ha:qi a)(hx:xs.length<=100)(hy:(iZ G.b xs).length<=100)(mE:G.cU.length<=900)(oP:S.cw.length<=900)(fq:S.wv.length<=890)(rr:G.aL.length<=900):nW w (.call (.ref 120) (yj G a κ.tag t)) 10 (ny w { G with rs:=true } a S [(123,κ.o)] [ag.str xs u] de++(G.ro++κ.lx)) (RY κ w G a S (oQ G.b xs)):=by
 refine xZ _ (RI w) rfl rfl (body:=Eb) (by kernel_rfl) (by kernel_rfl) _ [] (λL tk=>RU κ w { G with rs:=true } a S t de L tk [ag.str xs u]) _ 1 3 [1,1,1,1,1,1] _ (by decide) (λL tk=>RS κ w { G with rs:=true } a S t de L tk [ag.str xs u]) (λj=>rfl) (λj=>rfl) ?_;intro k tk s ak Q' E aq Y hL bz jw aZ b6 f7 SR hz ht dq;have hl:∀y,(S.fl ..).wv.length<=900:=λy=>by rw[bQ];have:=RK (iZ G.b xs) y;exact aT [lE Y0 890,lE Y1 1] (lE (Y0+Y1) 900) rfl fq this
 refine gL SR (λb o e=>aZ _ _ (Y.X b o e)) rfl 0 0 500 RQ (RO κ w G a S t u xs de (mJ κ w { G with rs:=true } a)) (λlow=>?_) nofun (a8 _) _ _ _ _ (λH=>aJ1 ..) λH s' J gH jU G'=>?_
 ·exact⟨rfl,by decide,q8 (Q6 w { G with rs:=true } S xs u de hx hy (aE fq (by decide))) Y hL (aT [lL (Y0+10) (Y1+1)] (lL (Y0+5) Y1) rfl bz) (aT [lL (Y0+(Ax.m 40 10)) (Y1+3)] (lL (Y0+(Ax.m 40 5)) Y1) rfl jw) aZ (by rw[dR]) (λj h=>absurd h bi) bN (λj=>⟨rfl,rfl,rfl,rfl,by rw[dR]⟩) (λj=>rfl),λfl Z j=>lu (rR (dB ..) (aE mE (by decide))) λap j=>⟨rfl,by decide,RZ κ w { G with rs:=true } a _ t Y hL (aT [lL (Y0+10) (Y1+1)] (lL (Y0+8) Y1) rfl bz) (aT [lL (Y0+(.m 40 10)) (Y1+3)] (lL (Y0+320) Y1) rfl jw) aZ b6 f7 (Z G.ds (bL _ (aB (aB (aB ay))))).1 (λta h=>aJz (g ta h)) (aJ2 gk) ha oP (hl _) rr,λj j j=>True.intro⟩⟩
 ·have hc:=RW J;obtain⟨z,oj⟩:∃z,H 0 0=G.ds+1+z:=⟨H 0 0 - (G.ds+1),by have:G.ds< H 0 0:=hc;exact c8 (cA [eQ (Y2+(Y1+1)) Y0] (lE Y0 (Y1+1+Y2)) [-1] 1 rfl (bY (aT [lL Y0 Y1] (lE (Y0+1) Y1) rfl this))) (b8 [eQ (Y1+(Y0+1)) Y2] (lE (Y0+1+Y1) Y2) rfl (bY (aT [lL Y0 Y1] (lE (Y0+1) Y1) rfl this)))⟩
  unfold mJ at J gH jU;rw[Jr hc]at J gH jU;let y:=mI (oQ G.b xs).length (yS (H 2) z (de+1) (S.we+AK (iZ G.b xs)+3)) (λj=>H 0 2) (H 2);have Y:S.wv++qh (iZ G.b xs) (H 0 2)++bn (κ.ws a) (H 2)=S.wv++bn (oQ G.b xs++κ.ws a) y:=by rw[ue,<-RX,bH]
  have H:=AQ J (ix:=[0,1,2,3,4,5,6,7,8,9,10]) (l':=_::(AS κ w G a S _ _ y)) (by decide) (by unfold AS;refine rL Y ?_;rfl);simp only[oj]at H;refine dq y .next s' rfl gH jU ?_ G'.live;simp only[sj,bH];exact H
end
def ry:FuncData:=match u7.1.data with
 | .func f=>f|_=>default
abbrev R3:List Stmt:=bodyOf u7.1
abbrev enE(L:af):Env:=mD u7.1 133 L
structure EX where
 ta:Nat
 aX:List ag
 aQ:Nat
 AU:List ag
 wf:List ag
 na:Nat
abbrev ym(w:aj)(G:TG)(S:SX)(x:EX):List (af×ar):=[(x.ta,listOf x.aX.toArray x.aQ),(G.tg,dX 150 G.td),(G.td,fp w (.ref S.wm) G.b true G.rn G.dl G.ds G.ns G.pm G.ps G.ti G.ep G.kt),(G.ds,listOf (x.AU++[aN x.ta]).toArray G.dep),(G.ns,listOf (x.wf++[aN x.na]).toArray G.ej)]
abbrev uf(w:aj)(G:TG)(S:SX)(x:EX)(J:List ag)(H:Nat):List (af×ar):=ym w G S x++[(G.dl,listOf J.toArray H),(G.ps,listOf (S.cw++[dY false]).toArray S.dD),(S.wm,fY S.wl),(S.wl,listOf S.wv.toArray S.we)]
abbrev R4(w:aj)(G:TG)(tag:Str)(t:ab)(L tk:Nat):List (af×ar):=nc ([(L,⟨.type "frame",none, .dict (cF [⟨aS w.params "self", .str "self" tk, .ref G.tg⟩,⟨aS w.params "tag", .str "tag" (tk+1), .str tag t⟩]) 2,#[]⟩)])
abbrev enQ(ix:List Nat)(w:aj)(G:TG)(S:SX)(x:EX)(tag:Str)(t:ab)(z y v:Str)(next:aM):aF:= .cons none (oK G tag t) ix (ym w G S x) (λe=>⟨.ok (.ret (.ref (e 2))),ym w G S x,[oM z y v e],e 0,e 1⟩) next
abbrev R5(k:Int)(t u:ab)(b:Bool)(next:aM):aF:=cM "int.__eq__" [.int k t, .int 1 u] (λ_=> .bool b) next
theorem aJ5(w:aj):(K w.params).lookup 133=some ⟨u7.1.cls,u7.1.dict, .func ry,u7.1.slots⟩:=by kernel_rfl
abbrev aJ6:Str:=nc ("C14NWriterTarget.end")
def Ee:Scope:=nc (ry.scope)
abbrev R6(G:TG)(tag:Str)(t:ab):List (Str×ag):=nc ([("self", .ref G.tg),("tag", .str tag t)])
def AV(w:aj)(n:Nat):Nat:=nc (match w.params.followText "fstring-hands-on-the-str" with
 |true=>n+3|false=>n+2)
theorem R7{G:TG}(g:(gW G wm).Ok ta aX):(gW { G with rs:=true } wm).Ok ta aX:=⟨g.hy,g.js,g.jS,g.mF,g.oA,g.hz,g.tN,g.ra,g.rb,g.rf,g.rh⟩
theorem aJ7{G:TG}{x:Nat}(g:(gW G wm).Tag x):(gW { G with rs:=true } wm).Tag x:=⟨g.hx,g.nj,g.fX,g.hex⟩
theorem aJ8{k:Int}{b:Bool}{next:aM}(H:(k==1)=b)(c:bJ next ao w A U fr aa):(R5 k t u b next).Ok ao (av w) A U fr aa lv:=dZ (λz=>eO (r:=λz=> .bool b) slot_int_eq aXc (args_int_eq _ _) (PySem.gives_int_eq k 1 t u) (λs=>jK ..) λQ s h=>by exact rR H (h 0 s.toks)) λe z=>c e lv
def oU(c x:Nat):Str:=match c with
 |0=>cS|_=>iw x
def rA(c x:Nat):Str:=match c with
 |0=>cS|_=>iv x
def R8(c x:Nat):Str:=match c with
 |0=>""|_=>bv x
abbrev Jt(w:aj)(G:TG)(S:SX)(e:EX)(c x k:Nat)(b:Bool)(t:ab):aF:=enQ [0,1,2,3,4] w G S e (rA c x) t (oU c x) cS (R8 c x) λq=>rk 9 S.wl S.wv S.we (.str ("</"++oU c x++">") (AV w (q 1))) λa=>xg 7 G.ps S.cw (.bool false) S.dD λp=>vj 7 G.ps S.cw (S.dD+1) k λH=>R5 k (H 2) (H 1) b λH=>xg 4 G.ds e.AU (.ref e.ta) G.dep λ_=>xg 5 G.ns e.wf (.ref e.na) G.ej λ_=> .nil
def R9(w:aj)(G:TG)(S:SX)(e:EX)(c x k:Nat)(b:Bool)(t u:ab)(xs:Str)(H:Nat)(p:Nat):aF:=match p with
 |0=>Jt w G S e c x k b t|_=>RF [1,2,5,6,7,8] w { G with rs:=true } S xs u H λH=>Jt w G (S.fl G.b xs (H 2)) e c x k b t
def wg(xs:Str)(u:ab)(p:Nat):List Value:=nc (match p with
 |0=>[]|_=>[ag.str xs u])
def aJ9(p:Nat):List Nat:=(dN 51 0x1000010000128c0300c03186010800008000004a0006010800008000004a)++((match p with
 |0=>[]|_=>(dN 18 0x800008000094200c40))++(dN 146 0x2318c62006300003000001ac02294a52006300003000001ac84200600006018003000001ac5f1008018c0000c000006b000484210400c6000060000035894a5240900401004211014310000008000080000943008400004000002))
def ug(p:Nat):Nat:=nc (match p with
 |0=>0|_=>1)
noncomputable def uh(G:TG)(S:SX)(xs:Str)(p:Nat)(f:Nat):SX:=match p with
 |0=>S|_=>S.fl G.b xs f
def Ju(H p:Nat):Nat:=nc (match p with
 |0=>H|_=>H+1)
abbrev Jw(w:aj)(G:TG)(S:SX)(e:EX)(c x:Nat)(b:Bool)(H J:Nat):List (af×ar):=[(e.ta,listOf e.aX.toArray e.aQ),(G.tg,dX 150 G.td),(G.td,fp w (.ref S.wm) G.b true b G.dl G.ds G.ns G.pm G.ps G.ti G.ep G.kt),(G.ds,listOf e.AU.toArray (G.dep+1)),(G.ns,listOf e.wf.toArray (G.ej+1)),(G.dl,listOf ([]:List ag).toArray H),(G.ps,listOf S.cw.toArray (S.dD+1)),(S.wm,fY S.wl),(S.wl,listOf (S.wv++[ag.str ("</"++oU c x++">") J]).toArray (S.we+1))]
section
variable (w:aj)(G:TG)(S:SX)(e:EX)(c x k:Nat)(b:Bool)(xs:Str)(t u:ab)(de p:Nat)(hc:c=0\/c=1)(hp:p=0\/p=1)
include hc hp
theorem aKa(L tk sz tb:Nat)(H:Xs):Ends [1,2,3,4,5,6,7,8,9] ((aI w 0 0 (some L) 500).S [] H ⟨uf w G S e (wg xs u p) de++R4 w G (rA c x) t L tk,sz,tb,aJ9 p,R9 w G S e c x k b t u xs de p⟩ (aV R3 (enE L)) fin) (.ok .next,(Jw w G (uh G S xs p (H 0 2)) e c x b (Ju de p) (AV w (H (ug p) 1))).map some,H (ug p+6) 0,H (ug p+6) 1):=by rcases hc with rfl|rfl<;>rcases hp with rfl|rfl<;>(revert w;refine byRow2 "fstring-hands-on-the-str" (λw=>?_) (λw=>?_)<;>kernel_rfl)
theorem aKb(H tk:Nat)(J:Xs):Ends [1,2,3,4,5,6,7,8,9,0] ((aI w 0 0 none 400).S [] J ⟨uf w G S e (wg xs u p) de,H,tk,[1,1,1,1], .nil⟩ (me ry.scope ry.globals ry.closure (R6 G (rA c x) t) (ry.qualname++".<locals>.") (some 133) ry.code none ry.builtins) fin) (.ok (su aJ6 ⟨.function,Ee.names,Ee.isGenerator,Ee.isCoroutine,Ee.more⟩ H 133 (.ref 132) []),(uf w G S e (wg xs u p) de++R4 w G (rA c x) t H tk).map some,H+1,tk+2):=by kernel_rfl
theorem aKc(H tk:Nat)(J:Xs):Ends (fI (uf w G S e (wg xs u p) de).length) ((aI w 0 0 none 400).S [] J ⟨uf w G S e (wg xs u p) de,H,tk,[], .nil⟩ (md ry ⟨[.ref G.tg, .str (rA c x) t],[]⟩) fin) (.ok (R6 G (rA c x) t),(uf w G S e (wg xs u p) de).map some,H,tk):=by kernel_rfl
end
def yn(b:Bool)(xs:Str)(p:Nat):List Str:=match p with
 |0=>[]|_=>oQ b xs
abbrev Ef(w:aj)(G:TG)(S:SX)(e:EX)(c x:Nat)(b:Bool)(H:List Str)(y:Nat->Nat):List (af×ar):=[(e.ta,listOf e.aX.toArray e.aQ),(G.tg,dX 150 G.td),(G.td,fp w (.ref S.wm) G.b true b G.dl G.ds G.ns G.pm G.ps G.ti G.ep G.kt),(G.ds,listOf e.AU.toArray (G.dep+1)),(G.ns,listOf e.wf.toArray (G.ej+1)),(G.dl,listOf ([]:List ag).toArray (y 13)),(G.ps,listOf S.cw.toArray (S.dD+1)),(S.wm,fY S.wl),(S.wl,listOf (S.wv++bn (H++["</"++oU c x++">"]) y).toArray (y 14))]
abbrev aKd(w:aj)(G:TG)(S:SX)(e:EX)(c x:Nat)(b:Bool)(H:List Str):(Nat->Nat)->Out:=λy=>⟨.ok (.ret .none),Ef w G S e c x b H y++G.ro,[],y 0,y 1⟩
abbrev Sc(G:TG)(tag:Str)(t:ab):Code:=nc (.call (.ref 133) ⟨[.ref G.tg, .str tag t],[]⟩)
theorem aKe{G:TG}{S:SX}{xs:Str}{p:Nat}(h:S.wv.length<=890):(uh G S xs p f).wv.length<=1000:=by
 unfold uh;split;·exact aE h (dG ..)
 ·simp only[bQ];have:=RK (iZ G.b xs) f;exact aT [lE Y0 890,lE Y1 1] (lE (Y0+Y1) 1000) rfl h this
theorem aKf(G:TG)(S:SX)(xs:Str)(p f:Nat):(uh G S xs p f).wv=S.wv++bn (yn G.b xs p) (λ_=>f):=by
 unfold uh yn;split
 ·show S.wv=S.wv++[]
  rw[dR]
 ·show S.wv++qh _ _=_;rw[RX]
theorem ent(w:aj)(G:TG)(S:SX)(e:EX)(c x k:Nat)(b:Bool)(xs:Str)(t u:ab)(J p:Nat)(hc:c=0\/(c=1/\(gW G S.wm).Tag x/\∃e∈G.ents,e.u=bv x))(Z:p=0\/p=1)(g:(gW G S.wm).Ok e.ta e.aX)(hx:xs.length<=100)(hy:(iZ G.b xs).length<=100)(vN:e.AU=G.cU.map λl=>aN l.a)(nh:e.wf++[aN e.na]=G.aL.map λl=>aN l.a)(aKg:e.wf.length<=1000)(mE:G.cU.length<=900)(hk:S.cw.length=k)(Sd:k<=900)(hb:(((k:Int)==1)=b))(fq:S.wv.length<=890):nW w (Sc G (rA c x) t) 9 (uf w G S e (wg xs u p) J++G.ro) (aKd w G S e c x b (yn G.b xs p)):=by
 have AW:=hc.imp id And.left;refine xZ _ (aJ5 w) rfl rfl (body:=R3) (by kernel_rfl) (by kernel_rfl) _ [] (aKc w G S e c x xs t u J p AW Z) _ 1 2 [1,1,1,1] _ (by decide) (aKb w G S e c x xs t u J p AW Z) (λz=>rfl) (λz=>rfl) ?_;intro k0 tk s ak Q' E aq H hL bz jw aZ b6 f7 SR hz ht dq;have Se:(gW { G with rs:=true } S.wm).p1 w e.ta e.aX e.aQ=ym w G S e:=by show [_,_,_,_,_]=_;exact rL vN (rL nh rfl)
 have nD:tZ k0 aq (gW { G with rs:=true } S.wm):=⟨aZ,b6,f7,hL,aT [lL (Y0+9) (Y1+1)] (lL (Y0+6) Y1) rfl bz⟩
 have qt:Told True (av w) k0.bE k0.un (some k0.L) aq (oK G (rA c x) t) (ym w G S e) (λq=>⟨.ok (.ret (.ref (q 2))),ym w G S e,[oM (oU c x) cS (R8 c x) q],q 0,q 1⟩):=by
  rcases hc with rfl|⟨rfl,gx,Ia⟩
  ·exact Se▸xX H nD (aT [lL (Y0+(.m 40 9)) (Y1+3)] (lL (Y0+240) Y1) rfl jw) (R7 g) 99 (by decide)
  ·exact Se▸QJ H nD (aT [lL (Y0+(.m 40 9)) (Y1+3)] (lL (Y0+240) Y1) rfl jw) (R7 g) (aJ7 gx) Ia
 have rest:∀(Y:SX)lv,Y.wm=S.wm->Y.cw=S.cw->Y.wv.length<=1000->(Jt w G Y e c x k b t).Ok True _ k0.bE k0.un _ aq lv:=λY lv e1 e2 hw=>by refine⟨rfl,by decide,(show Told True (av w) k0.bE k0.un _ aq _ _ _ from ?_),λq z z=>v5 hw λz z=>nY (λA' z z=>xf _ _ _ _ (e2▸aT [eQ Y0 Y1,lE Y1 900] (lE Y0 1000) rfl hk Sd)) λz z z=>AP (e2▸hk) (bu [lE Y0 900] (lE Y0 1001) rfl Sd) λln z=>aJ8 hb λz z=>nY (λA' z z=>xf _ _ _ _ (rR (vN ..) (rR (dB ..) (aE mE (dG ..))))) λz z z=>nY (λA' z z=>xf _ _ _ _ aKg) λz z z=>True.intro⟩;show Told True _ k0.bE k0.un _ aq _ ((e.ta,_)::_::_::_) (λq=>⟨_,_::_::_::_,_,_,_⟩);exact rR e1 qt
 have oks:∀lv,(R9 w G S e c x k b t u xs J p).Ok True (av w) k0.bE k0.un (some k0.L) aq lv:=λlv=>by
  rcases Z with rfl|rfl
  ·exact rest S lv rfl rfl (bu [lE Y0 890] (lE Y0 1000) rfl fq)
  ·exact⟨rfl,by decide,q8 (Q6 w { G with rs:=true } S xs u J hx hy (bu [lE Y0 890] (lE Y0 900) rfl fq)) H hL (aT [lL (Y0+9) (Y1+1)] (lL (Y0+5) Y1) rfl bz) (aT [lL (Y0+(Ax.m 40 9)) (Y1+3)] (lL (Y0+(Ax.m 40 5)) Y1) rfl jw) aZ (by rw[dR]) (λz h=>absurd h bi) bN (λz=>⟨rfl,rfl,rfl,rfl,by rw[dR]⟩) (λz=>rfl),λfl z z=>rest _ _ rfl rfl (aKe (p:=1) fq)⟩
 refine wp_run SR (λb o e=>aZ _ _ (H.X b o e)) rfl 0 0 500 _ [1,2,3,4,5,6,7,8,9] _ (λz=>oks _) nofun (a8 _) (by decide) _ _ _ _ (λH=>aKa w G S e c x k b xs t u J p AW Z k0.L tk _ _ H) λH s' Y gH jU G'=>?_
 let y:=mI (yn G.b xs p).length (λi=>match i with|0=>H (ug p+6) 0|1=>H (ug p+6) 1|13=>Ju J p|_=>(uh G S xs p (H 0 2)).we+1) (λz=>H 0 2) (λz=>AV w (H (ug p) 1));have ey:(uh G S xs p (H 0 2)).wv++[ag.str ("</"++oU c x++">") (AV w (H (ug p) 1))]=S.wv++bn (yn G.b xs p++["</"++oU c x++">"]) y:=by rw[aKf,ue,bH];rfl
 have e3:Jw w G (uh G S xs p (H 0 2)) e c x b (Ju J p) (AV w (H (ug p) 1))=Ef w G S e c x b (yn G.b xs p) y:=by unfold Jw Ef;refine rL ey ?_;rcases Z with rfl|rfl<;>rfl
 exact dq y .next s' rfl gH jU (e3▸Y) G'.live
abbrev TG.dict(G:TG)(w:aj):Obj:=fp w G.wr G.b G.rs G.rn G.dl G.ds G.ns G.pm G.ps G.ti G.ep G.kt
abbrev wi(G:TG)(w:aj)(J:List ag)(H:Nat):List (af×ar):=[(G.tg,dX 150 G.td),(G.td,G.dict w),(G.dl,aA J H)]
abbrev Jx(G:TG)(x:Str)(t:ab):Code:=nc (.call (.ref 97) ⟨[.ref G.tg, .str x t],[]⟩)
abbrev ui(G:TG)(w:aj)(H:Nat)(J:List ag)(Z:Nat)(fe:List ag)(Y:Nat):List (af×ar):=[(G.tg,dX 150 G.td),(G.td,G.dict w),(G.dl,aA [] Y),(G.ns,aA (fe++[aN H]) G.ej),(H,aA J Z)]
abbrev Jy(G:TG)(p u:Str)(t t2:ab):Code:=nc (.call (.ref 113) ⟨[.ref G.tg, .str p t, .str u t2],[]⟩)
def Sf:List Nat:=(dN 42 0x4121084180420000200000104001804200002000001040108421)
def dtR(w:aj)(G:TG)(J:List ag)(H:Nat)(x:Str)(t:ab)(sz tk:Nat)(Y:Xs):=(aI w 2 0 none 500).C [] Y ⟨wi G w J H,sz,tk,Sf,il 3 G.dl J H (.str x t) λ_=> .nil⟩ (Jx G x t) fin
def Jz(w:aj)(G:TG)(J:List ag)(H:Nat)(x:Str)(t:ab):(Nat->Nat)->Out:=λe=>⟨.ok (.ret .none),wi G w (J++[.str x t]) (H+1),[],e 0,e 1⟩
theorem aKh(w:aj)(G:TG)(J:List ag)(H:Nat)(x:Str)(t:ab)(sz tk:Nat)(Y:Xs):Ends [1,2,3] (dtR w G J H x t sz tk Y) (bX (Jz w G J H x t λi=>Y 0 i)):=by kernel_rfl
theorem aKi(Z:aK w aa)(Y:aa.NoLimit)(G:TG)(H:List ag)(J:Nat)(x:Str)(t:ab)(hz:H.length<=1000):Any ao w aa 2 (Jx G x t) (wi G w H J) (Jz w G H J x t):=bS Z Y 500 Sf [1,2,3] (λz z=>il 3 G.dl H J _ λz=> .nil) (by decide) _ (λz=>rfl) (λH H z z z=>lu hz λz z=>True.intro) λsz tk H=>aKh ..
abbrev mK(w:aj)(o:ar)(G:TG)(S:SX)(J:List ag)(H:Nat):List (af×ar):=[(123,o),(G.tg,dX 150 G.td),(G.td,fp w (.ref S.wm) G.b G.rs G.rn G.dl G.ds G.ns G.pm G.ps G.ti G.ep G.kt),(G.ds,listOf (G.cU.map λl=>aN l.a).toArray G.dep),(G.ns,listOf (G.aL.map λl=>aN l.a).toArray G.ej),(G.dl,listOf J.toArray H),(S.wm,fY S.wl),(S.wl,listOf S.wv.toArray S.we),(G.ps,listOf (S.cw++[dY false]).toArray S.dD)]
abbrev TF.f0(T:TF)(w:aj)(D:DS):Obj:=nc (⟨.type "frame",none, .dict (cF [⟨aS w.params "lexer", .str "lexer" (T.k 0), .ref T.lx⟩,⟨aS w.params "target", .str "target" (T.k 1), .ref T.tg⟩,⟨aS w.params "deep", .str "deep" (T.k 2), .int T.dp T.td⟩,⟨aS w.params "red", .str "red" (T.k 3), .float D.r D.tr⟩,⟨aS w.params "green", .str "green" (T.k 4), .float D.g D.tg⟩,⟨aS w.params "blue", .str "blue" (T.k 5), .float D.b D.tb⟩]) 6,#[]⟩)
abbrev Sh(c:bB)(ix:List Nat)(pre:List (af×ar))(out:(Nat->Nat)->Out)(next:aM):aF:=nc (.cons none c ix pre out next)
abbrev TG.bV(G:TG)(b:Bool)(y:Nat->Nat):TG:=nc ({ G with rs:=true,rn:=b,dep:=y 5,ej:=y 6 })
abbrev SX.bV(S:SX)(H:List Str)(y:Nat->Nat):SX:={ S with wv:=S.wv++bn H y,we:=y 8,dD:=y 9 }
abbrev LX.bV(X:LX)(N:Int)(y:Nat->Nat):LX:={ X with n:=N,tn:=y 3,e1:=y 4 }
abbrev gv(w:aj)(o:ar)(G:TG)(S:SX)(J:List ag)(H:Nat)(X:LX)(l:List (Nat×ab))(Y:List ag)(e2:Nat):List (af×ar):=mK w o G S J H++X.cD w l Y e2
abbrev jy(w:aj)(T:TF)(G:TG)(X:LX)(D:DS)(H:HS)(f:Nat):List (af×ar):=nc ([(T.L,{ T with tg:=G.tg,lx:=X.lx }.oB w D H f 1)])
abbrev JA(a b:Int)(t u:ab)(r:Bool)(next:aM):aF:=cM "int.__le__" [.int a t, .int b u] (λ_=> .bool r) next
abbrev Si(ix:List Nat)(X:LX)(w:aj)(W:List Nat)(t:ab)(e2:Nat)(next:aM):aF:= .cons (some 2) (pX X) ix (X.ip w [.str ⟨W.toArray⟩ t] e2) (zM X w ⟨W.toArray⟩ t none e2) next
abbrev Sj(ix:List Nat)(X:LX)(w:aj)(W:List Nat)(t:ab)(e2:Nat)(next:aM):aF:= .cons (some 2) (zL X ⟨W.toArray⟩ t) ix (X.ip w [] e2) (zN X w ⟨W.toArray⟩ t none e2) next
def Sk(w:aj)(o:ar)(G:TG)(S:SX)(X:LX)(H:List Str)(l:List (Nat×ab))(W:List Nat)(N:Int)(b:Bool):(Nat->Nat)->Out:=λy=>
 ⟨.ok (.ret .none),gv w o (G.bV b y) (S.bV H y) [] (y 7) (X.bV N y) l [.str ⟨W.toArray⟩ (y 22)] (y 10),[],y 0,y 1⟩
abbrev Eg(X:LX)(G:TG)(d:Int)(r g b:UInt64)(t1 t2 H J:ab):Code:=nc (.call (.ref 262) ⟨[.ref X.lx, .ref G.tg, .int d t1, .float r t2, .float g H, .float b J],[]⟩)
abbrev aKj(G:TG)(H:HS):Code:=nc (.call (.ref 133) ⟨[.ref G.tg, .str H.tag H.tt],[]⟩)
abbrev TF.rB(T:TF)(F:List Nat)(a:Nat->Nat):TF:=nc ({ T with nm:=⟨F.toArray⟩,tn:=a 2,k:=λi=>bif bZ i.val 6 then a 1 else T.k i })
def Sl:List Nat:=(dN 21 0x2528401040000020000200002a)
def JB(w:aj)(T:TF)(X:LX)(D Dv:DS)(l J Z:List (Nat×ab))(W F:List Nat)(H Y:Int)(f e2:Nat):aF:=zO 0 8 { X with lx:=T.lx } w l J e2 F H λa=> .cons (some 10) (qU T.L) [9,0,1,2,3,4,5,6,7,8] (iq (T.rB F a) { X with n:=H,tn:=a 3,e1:=a 4 } w D 0 J [] e2) (ir (T.rB F a) { X with n:=H,tn:=a 3,e1:=a 4 } w Dv W Z Y f e2) λ_=> .nil
theorem aKk(w:aj)(T:TF)(X:LX)(D Dv:DS)(l l1 Y:List (Nat×ab))(W F:List Nat)(Z J:Int)(f:Nat)(hf:f=1\/f=2)(e2 sz tk:Nat)(H:Xs):Ends [0,1,2,3,4,5,6,7,8,9] ((aI w 12 0 none 900).S [] H ⟨LX.cD { X with lx:=T.lx } w l [] e2++[(T.L,T.f0 w D)],sz,tk,Sl,JB w T X D Dv l l1 Y W F Z J f e2⟩ (aV (iy.take 2) (kC T.L)) fin) (.ok .next,(LX.cD { X with lx:=T.lx,n:=J,tn:=H 1 3,e1:=H 1 4 } w Y [.str ⟨W.toArray⟩ (H 1 22)] (e2+1)++[(T.L,(T.rB F (H 0)).aJ w (Dv.ext W (H 1)) f)]).map some,H 1 0,H 1 1):=by rcases hf with rfl|rfl<;>kernel_rfl
def Sn:List Nat:=(dN 125 0x2004210801f08421003e10842007c2108400f84210801f0005f000000000010000009600000000be000000000020000012c000000017c000000000040000025800002d6a1880000040000400004a)
abbrev oV(T:TF)(H:HS)(U V W:SI)(sz tk:Nat)(a b c:Nat->Nat):AT:=nc (⟨sz,5,T.nm,H.col,U.s,V.s,W.s,T.tn,H.tc,a 2,b 2,c 2,tk,tk+1,tk+2,a 1,b 1⟩)
def JC(w:aj)(T:TF)(H:HS)(G:TG)(S:SX)(o:ar)(J:List ag)(Y:Nat)(U V W:SI)(sz tk:Nat)(out:AT->(Nat->Nat)->Out):aF:=vK H.pu H.tp 1024 (tk+3) U λa=>vK H.lg H.tl 4194304 (a 1+1) V λb=>vK H.hu H.th 64 (b 1+1) W λc=>
 Sh (.call (.ref 120) (yj G (oV T H U V W sz tk a b c) H.tag H.tt)) [1,2,3,4,5,6,0,7,8,9] (ny w G (oV T H U V W sz tk a b c) S [(123,o)] J Y) (λy=>⟨.ok (.ret .none),(out (oV T H U V W sz tk a b c) y).post,(out (oV T H U V W sz tk a b c) y).new,(out (oV T H U V W sz tk a b c) y).sz,(out (oV T H U V W sz tk a b c) y).tk⟩) λ_=> .nil
theorem aKl(w:aj)(T:TF)(X:LX)(D:DS)(H:HS)(G:TG)(S:SX)(o:ar)(f:Nat)(hf:f=1\/f=2)(Z:List ag)(de:Nat)(U V W:SI)(out:AT->(Nat->Nat)->Out)(sz tk:Nat)(J:Xs):bA ((aI w 12 0 (some T.L) 900).S [] J ⟨mK w o G S Z de++[(T.L,{ T with tg:=G.tg }.oB w D H f 1)],sz,tk,Sn,JC w T H G S o Z de U V W sz tk out⟩ (aV ((iy.drop 6).take 1) (kC T.L)) fin) (.ok .next,let Y:=oV T H U V W sz tk (J 2) (J 5) (J 8);(out Y (J 9)).new++putAll ((sz,cE w Y.es Y.ep)::(mK w o G S Z de++[(T.L,{ T with tg:=G.tg }.oB w D H f 1)])) [1,2,3,4,5,6,0,7,8,9] (out Y (J 9)).post,(out (oV T H U V W sz tk (J 2) (J 5) (J 8)) (J 9)).sz,(out (oV T H U V W sz tk (J 2) (J 5) (J 8)) (J 9)).tk):=by rcases hf with rfl|rfl<;>kernel_rfl
def So(b:List cq)(i:Nat):List Stmt:=pB b[i]? 0
def Sp(b:List cq)(i:Nat):PySem.Expr:=pE b[i]? 0
abbrev Eh:List Stmt:=So iy 8
abbrev Ei:PySem.Expr:=Sp iy 8
def Sq(κ:Nat)(w:aj)(T:TF)(X:LX)(W:List Nat)(d:Int)(t:ab)(e2:Nat):aF:=Si [0,1,2] X w W t e2 λa=>match κ with
 |0=>cC ⟨W.toArray⟩ "" t (a 1+1) true λ_=>Sj [0,1,2] X w W t (e2+1) λ_=> .nil|_=>cC ⟨W.toArray⟩ "" t (a 1+1) false λ_=>CS W t d λi=>JA d T.dp (i 2) T.td true λ_=>Sj [0,1,2] X w W t (e2+1) λ_=> .nil
def rkO(w:aj)(T:TF)(o:ar)(G:TG)(S:SX)(J:List ag)(Y:Nat)(X:LX)(l:List (Nat×ab))(W:List Nat)(d:Int)(t:ab)(e2:Nat)(D:DS)(b:Bool)(H:List Str)(l':List (Nat×ab))(Z:List Nat)(N:Int):aF:=Si [9,10,17] X w W t e2 λa=>cC ⟨W.toArray⟩ "" t (a 1+1) false λ_=>CS W t d λi=>JA d T.dp (i 2) T.td false λ_=>CS W t d λj=>
 .cons none (Eg X G d D.r D.g D.b (j 2) D.tr D.tg D.tb) (fI 18) (gv w o G S J Y X l [] (e2+1)) (Sk w o G S X H l' Z N b) λ_=> .nil
def aKm(κ:Nat):List Nat:=match κ with
 |0=>(dN 42 0x402082000001000010000120be42104010400000200002000024)|_=>(dN 49 0x2010410000008000080000905f2088000be42104010400000200002000024)
def Sr:List Nat:=(dN 42 0x409ce62980139805f98a6000bf39cc405a800001400014000153)
def Ss(κ:Nat):Nat:=nc (match κ with
 |0=>2|_=>4)
section
variable (w:aj)(T:TF)(o:ar)(G:TG)(S:SX)(dv:List ag)(de:Nat)(X:LX)(l:List (Nat×ab))(W:List Nat)(d:Int)(t:ab)(e2:Nat)(D:DS)(H:HS)(f:Nat)(hf:f=1\/f=2)
include hf
theorem aKn(κ:Nat)(Y:κ=0\/κ=1)(sz tk:Nat)(J:Xs):Ends [0,1,2,3] ((aI w 2 0 none 500).S [] J ⟨X.ip w [.str ⟨W.toArray⟩ t] e2++jy w T G X D H f,sz,tk,aKm κ,Sq κ w T X W d t e2⟩ (aV Eh (kC T.L)) fin) (.ok .brk,(X.ip w [.str ⟨W.toArray⟩ t] (e2+2)++jy w T G X { D with ky:=W,ty:=t } H f).map some,J (Ss κ) 0,J (Ss κ) 1):=by rcases hf with rfl|rfl<;>rcases Y with rfl|rfl<;>kernel_rfl
theorem aKo(b:Bool)(Y:List Str)(l':List (Nat×ab))(Z:List Nat)(N:Int)(sz tk:Nat)(J:Xs):Ends (fI 19) ((aI w 2 0 (some T.L) 500).S [] J ⟨gv w o G S dv de X l [.str ⟨W.toArray⟩ t] e2++jy w T G X D H f,sz,tk,Sr,rkO w T o G S dv de X l W d t e2 D b Y l' Z N⟩ (aV Eh (kC T.L)) fin) (.ok .next,(gv w o (G.bV b (J 5)) (S.bV Y (J 5)) [] (J 5 7) (X.bV N (J 5)) l' [.str ⟨Z.toArray⟩ (J 5 22)] (J 5 10)++jy w T G X { D with ky:=W,ty:=t } H f).map some,J 5 0,J 5 1):=by rcases hf with rfl|rfl<;>kernel_rfl
end
def Su(w:aj)(T:TF)(G:TG)(S:SX)(J:List ag)(H:Nat):aF:= .cons (some 2) (Jx G T.nm T.tn) [0,1,2] (wi { G with wr:= .ref S.wm } w J H) (Jz w { G with wr:= .ref S.wm } J H T.nm T.tn) λ_=> .nil
abbrev AX(w:aj)(G:TG)(S:SX)(x:EX)(J:List ag)(H:Nat):List (af×ar):=(uf w G S x J H).drop 1
def JD(w:aj)(G:TG)(S:SX)(x:EX)(H:HS)(Y:List ag)(J:Nat)(out:(Nat->Nat)->Out):aF:=Sh (aKj G H) (fI 8) (AX w G S x Y J) (λy=>⟨.ok (.ret .none),(out y).post,[],(out y).sz,(out y).tk⟩) λ_=> .nil
def Sv:List Nat:=(dN 19 0x80410400000200002000024)
def Sw:List Nat:=(dN 19 0x80910400000200002000029)
section
variable (w:aj)(T:TF)(G:TG)(S:SX)(dv:List ag)(de:Nat)(X:LX)(D:DS)(H:HS)(f:Nat)(hf:f=1\/f=2)
include hf
theorem aKp(sz tk:Nat)(J:Xs):Ends (fI 4) ((aI w 2 0 none 500).S [] J ⟨wi { G with wr:= .ref S.wm } w dv de++jy w T G X D H f,sz,tk,Sv,Su w T G S dv de⟩ (aV ((iy.drop 7).take 1) (kC T.L)) fin) (.ok .next,(wi { G with wr:= .ref S.wm } w (dv++[.str T.nm T.tn]) (de+1)++jy w T G X D H f).map some,J 0 0,J 0 1):=by rcases hf with rfl|rfl<;>kernel_rfl
theorem aKq(x:EX)(out:(Nat->Nat)->Out)(sz tk:Nat)(J:Xs):bA ((aI w 2 0 (some T.L) 500).S [] J ⟨AX w G S x dv de++jy w T G X D H f,sz,tk,Sw,JD w G S x H dv de out⟩ (aV ((iy.drop 9).take 1) (kC T.L)) fin) (.ok .next,putAll (AX w G S x dv de++jy w T G X D H f) (fI 8) (out (J 0)).post,(out (J 0)).sz,(out (J 0)).tk):=by rcases hf with rfl|rfl<;>kernel_rfl
end
theorem aKr(w:aj)(L:af)(pre:List (af×ar))(sz tk:Nat)(H:Xs):bA ((aI w 0 0 none 300).S [] H ⟨pre,sz,tk,[], .nil⟩ (MD Ei (kC L) (fy Ei (kC L))) fin) (.ok true,pre,sz,tk):=by kernel_rfl
def roP(b:List cq)(i:Nat):Pos:=(oS b[i]?).pos
theorem aKs:iy=iy.take 2++((iy.drop 2).take 3++((iy.drop 5).take 1++((iy.drop 6).take 1++((iy.drop 7).take 1++([.While Ei Eh [] (roP iy 8)]++(iy.drop 9).take 1))))):=by kernel_rfl
structure SI.Ok(V:SI)(x:UInt64)(k:Int):Prop where
 inf:lh (d7 k)=false
 mul:iJ x (d7 k)=V.r
 int:∃sg m e,BC V.r= .fin sg m e/\BD sg m e=V.i
 lim:V.i.natAbs.log2< 1920
 txt:gD (toString V.i)=V.s
structure JE(U V W:SI)(D:DS)(J:Str):Prop where
 u:U.Ok D.r 2097152
 v:V.Ok D.g 2097152
 w:W.Ok D.b 2097152
 j:jf " " [U.s,V.s,W.s]=J
 tl:sw (([U.s,V.s,W.s]:List Str).toArray.foldl (· +·.length+(" ":Str).length) 0)=false
 jl:J.length<=gA
structure JF(ao:Prop)(w:aj)(aa:aw)(r g b h l p m:UInt64)(k:Int)(x c:Nat):Prop where
 tri:∀t u x:ab,Any ao w aa 5 (gG 175 [.float r t, .float g u, .float b x]) [] (cR h l p)
 way:(c=0/\(kX p 0 !=some .eq)=false)\/(c=1/\(kX p 0 !=some .eq)=true/\iJ h 4618441417868443648=m/\(∃sg n e,BC m= .fin sg n e/\BD sg n e=k)/\
  (decide (k< -(2 ^ 63:Int))||decide (k>=2 ^ 63))=false/\(pC k ("rygcbm":Str).length).bind (("rygcbm":Str).cps[·]?)=some x)
section
variable {next:aM}
theorem aKt{x:UInt64}{i:Int}(H:lh (d7 i)=false)(h:iJ x (d7 i)=r)(k:bJ next ao w A U fr aa):(cM "float.__mul__" [.float x t, .int i u] (λk=> .float r k) next).Ok ao (av w) A U fr aa lv:=by subst h;exact dZ (λz=>eO WF WG (WH _ _) (aU7 x t i u (by refine rR H ?_;decide)) (λs=>rfl) λQ s k=>k _ _) λe z=>k e lv
theorem Sx{x:UInt64}{i:Int}(h:∃J m e,BC x= .fin J m e/\BD J m e=i)(k:bJ next ao w A U fr aa):(zz x i t next).Ok ao (av w) A U fr aa lv:=by refine mY h λJ m e Y H=>?_;subst H;exact dZ (λz=>eO aUt aUu (aUv _) (aUw t Y) (λs=>rfl) λQ s k=>k _ _) λe z=>k e lv
theorem Sy{i:Int}{s:Str}(H:i.natAbs.log2< 1920)(J:gD (toString i)=s)(k:bJ next ao w A U fr aa):(cM "int.__repr__" [.int i t] (λk=> .str s k) next).Ok ao (av w) A U fr aa lv:=by subst J;exact dZ (λz=>eO PySem.F.slot_int_repr PySem.F.entry_int_repr (PySem.F.args_int_repr_1 _) (aXd i t H) (λs=>jK ..) λQ s k=>⟨int_text_fits H,k _ _⟩) λe z=>k e lv
theorem yo{x:UInt64}{n:Int}{V:SI}(H:V.Ok x n)(k:bJ next ao w A U fr aa):(vK x t n u V next).Ok ao (av w) A U fr aa lv:=aKt H.inf H.mul λz z=>Sx H.int λz z=>Sy H.lim H.txt λe lv=>k e lv
theorem Sz{r:Bool}(H:decide (a<=b)=r)(k:bJ next ao w A U fr aa):(JA a b t u r next).Ok ao (av w) A U fr aa lv:=dZ (λz=>eO (r:=λz=> .bool r) PySem.F.slot_int_le PySem.F.entry_int_le (PySem.F.args_int_le_2 _ _) (gives_int_le a b t u) (λs=>jK ..) λQ s h=>H▸h 0 s.toks) λe z=>k e lv
theorem AY{s:Str}{i:Int}{x:Nat}(H:(decide (i< -(2 ^ 63:Int))||decide (i>=2 ^ 63))=false)(h:(pC i s.length).bind (s.cps[·]?)=some x)(k:bJ next ao w A U fr aa):(cM "str.__getitem__" [.str s t, .int i u] (λk=> .str ⟨#[x]⟩ k) next).Ok ao (av w) A U fr aa lv:=dZ (λj=>eO FL WY (WZ _ _) (gives_str_getitem s i t u x H h) (λz=>ic ..) λQ s k=>⟨by show 1<=gA;decide+kernel,k _ _⟩) λe j=>k e lv
end
section
theorem aKu{D:DS}{h l p m:UInt64}{k:Int}{x c:Nat}(H:JF ao w aa D.r D.g D.b h l p m k x c):(Ae D h l p m k x c).Ok ao (av w) A U none aa lv:=by
 refine zP (H.tri _ _ _) λz z=>?_;rcases H.way with ⟨rfl,a⟩|⟨rfl,a,b,c,d,e⟩
 ·exact Nu a λz z=>True.intro
 ·exact Nu a λz z=>sO b λz z=>Sx c λz z=>AY d e λz z=>True.intro
theorem aKv{D:DS}{I V W:SI}{J:Str}(H:JE I V W D J):(HZ D I V W J sz tk).Ok ao (av w) A U none aa lv:=by refine yo H.u λa z=>yo H.v λb z=>yo H.w λc z=>⟨rfl,by decide,λJ z z=>?_,λz z z=>True.intro⟩;have:=IY (ao:=ao) (w:=w) (A:=J) (U:=J.units) (fr:=none) (aa:=aa) (D:=sz+2) (l:=[(I.s,a 2),(V.s,b 2),(W.s,c 2)]) (e:=3) (t:=tk) (dk rfl) H.tl (H.j▸H.jl);simp only[show(([(I.s,a 2),(V.s,b 2),(W.s,c 2)]:List (Str×ab)).map (·.1))=[I.s,V.s,W.s]from rfl,H.j]at this;exact this
theorem aKw(XK:aK w aa)(NL:aa.NoLimit){T:TF}{D:DS}{l H Z:List (Nat×ab)}{F:List Nat}{Y J:Int}(rel:fb H l F)(hz:l.length<=1000)(hW:F.length<=1000)(Ho:Y=X.n+(aL l - aL H))(jq:J=Y+(aL H - aL Z))(hd:∀(T:TF)(X:LX),J=X.n+(aL H - aL Z)->Any ao w aa 10 (qU T.L) (iq T X w D 0 H [] e2) (ir T X w Dv W Z J f e2)):(JB w T X D Dv l H Z W F Y J f e2).Ok ao (av w) A U none aa lv:=CV XK NL (by decide) rel hz hW Ho λa z=>⟨rfl,by decide,hd _ { X with n:=Y,tn:=a 3,e1:=a 4 } jq,λz z z=>True.intro⟩
structure StopW(κ:Nat)(W:List Nat)(d dp:Int):Prop where
 way:(κ=0/\W=[])\/(κ=1/\W≠[]/\W.length<=640/\uO ⟨W.toArray⟩=some d/\d<=dp)
theorem aKx(Y:aK w aa)(J:aa.NoLimit){κ:Nat}{T:TF}{d:Int}(H:StopW κ W d T.dp):(Sq κ w T X W d t e2).Ok ao (av w) A U none aa lv:=by
 refine⟨rfl,by decide,CQ Y J _ _ _ none e2,λa z z=>?_⟩;rcases H.way with ⟨rfl,rfl⟩|⟨rfl,h0,h1,Z,h3⟩
 ·exact dC rfl λz z=>⟨rfl,by decide,CR Y J _ _ _ none _,λz z z=>True.intro⟩
 ·refine dC (by induction W with|nil=>exact absurd rfl h0|cons a W=>rfl) λz z=>⟨rfl,bN,CU Y J W d _ h1 Z,λi z z=>Sz (decide_eq_true h3) λz z=>⟨rfl,by decide,CR Y J _ _ _ none _,λz z z=>True.intro⟩⟩
end
structure fQ(G:TG)(S:SX)(xs:List Nat)(k:Nat):Prop where
 ok:∀ta,G.ds< ta->(gW G S.wm).Ok ta []
 tag:∀x∈dS,(gW G S.wm).Tag x
 us:∀x∈dS,(∃e∈G.ents,e.u=bv x) ↔ x∈xs
 ps:∀e∈G.ents,(∃x∈dS,e.u=bv x/\e.p=⟨#[x]⟩)\/e.p="xml"
 hk:S.cw.length=k
 hd:G.cU.length<=10+k
 hn:G.aL.length<=10+k
 hl:G.ents.length<=10+k
def az.es(κ:az)(y:Nat->Nat):List NE:=match κ.c with
 |2=>[⟨y 8,bv κ.x,y 9,⟨#[κ.x]⟩,y 10⟩]|_=>[]
def az.ls(κ:az)(G:TG)(y:Nat->Nat):LS:=nc (⟨G.ds+1+y 11,0+κ.lP,κ.aX y⟩)
abbrev az.G2(κ:az)(G:TG)(y:Nat->Nat):TG:={ G with rs:=true,cU:=G.cU++[κ.ls G y],dep:=G.dep+1,aL:=G.aL++[⟨y 2,0,[]⟩],ej:=G.ej+1,ents:=κ.es y++G.ents }
abbrev az.G3(κ:az)(G:TG)(y:Nat->Nat):TG:={ G with rs:=true,dep:=G.dep+1,aL:=G.aL++[⟨y 2,0,[]⟩],ej:=G.ej+1,ents:=κ.es y++G.ents }
abbrev az.S2(κ:az)(S:SX)(J:List Str)(H:AT)(y:Nat->Nat):SX:={ S with wv:=S.wv++bn (J++κ.ws H) y,we:=y 14,cw:=S.cw++[dY false],dD:=S.dD+1 }
noncomputable def az.xs(κ:az)(xs:List Nat):List Nat:=match κ.c with
 |2=>κ.x::xs|_=>xs
variable {xs:List Nat}
structure az.Fits(κ:az)(xs:List Nat):Prop where
 g:(κ.c=0)\/(κ.c=1/\κ.f≠none/\κ.x∈dS/\κ.x∈xs)\/(κ.c=2/\κ.x∈dS/\κ.x ∉ xs)
section
variable {κ:az}{G:TG}{S:SX}
theorem fQ.start(H:fQ G S xs k)(ta:Nat)(h:G.ds< ta):(gW (fP G) S.wm).Ok ta []:=by have g:=H.ok ta h;exact⟨g.hy,g.js,g.jS,g.mF,g.oA,g.hz,g.tN,g.ra,g.rb,g.rf,g.rh⟩
theorem fQ.kin(H:fQ G S xs k)(F:κ.Fits xs):κ.Ok (fP G) S.wm:=by
 refine⟨?_⟩;have tg:∀x∈dS,(gW (fP G) S.wm).Tag x:=λx Y=>⟨(H.tag x Y).hx,(H.tag x Y).nj,(H.tag x Y).fX,(H.tag x Y).hex⟩;rcases F.g with h|⟨h,h1,J,Z⟩|⟨h,J,Z⟩
 ·exact .inl h
 ·exact .inr (.inl ⟨h,h1,tg _ J,(H.us _ J).mpr Z⟩)
 ·exact .inr (.inr ⟨h,tg _ J,λe Y hu=>Z ((H.us _ J).mp ⟨e,Y,hu⟩)⟩)
theorem JG{x y:Nat}(h:bv x=bv y):x=y:=by have:=congrArg (λs:Str=>s.cps.toList) h;simp only[uL]at this;exact this.2.2.2.2.1
theorem SC(h:κ.c=2->κ.x∈dS)(y:Nat->Nat):∀e∈κ.es y,κ.c=2/\e.u=bv κ.x/\e.p=⟨#[κ.x]⟩:=λe H=>by
 unfold az.es at H;split at H
 ·rename_i J;obtain rfl:=bI.mp H;exact⟨J,rfl,rfl⟩
 ·contradiction
theorem SD(κ:az)(y:Nat->Nat):κ.aX y=(κ.es y).map ia:=by rcases κ with ⟨f,_|_|_|c,x⟩<;>rfl
theorem fQ.SE(H:fQ G S xs k)(hk:k<=100)(F:κ.Fits xs)(y:Nat->Nat)(ta:Nat)(h:G.ds< ta):(gW (κ.G3 G y) S.wm).Ok ta (κ.aX y):=by
 have g:=H.ok ta h;have Z:κ.c=2->κ.x∈dS/\κ.x ∉ xs:=λY=>by
  rcases F.g with h|⟨h,z⟩|⟨z,h2,h3⟩
  ·rw[h]at Y;injection Y
  ·rw[h]at Y;contradiction
  ·exact⟨h2,h3⟩
 have uj:=SC (λY=>(Z Y).1) y;have J:(κ.es y).length<=1:=by
  unfold az.es;split;·exact a8 _
  ·exact f4 _
 have hl:=H.hl;refine⟨?_,g.js,?_,?_,?_,?_,g.tN,?_,?_,?_,g.rh⟩
 ·refine rR (bM ..) (rL (SD ..) (rL (show _++lK G.cU.reverse=_ from g.hy ..) ?_));rfl
 ·exact rR bQ (b8 [lE Y2 100,lE Y0 1,lE Y1 (10+Y2)] (lE (Y0+Y1) 1000) rfl hk J hl)
 ·rw[bM,fj];refine⟨?_,g.mF,λa ha b hb e=>?_⟩
  ·unfold az.es;split;·exact cj.mpr ⟨bi,bN⟩
   ·exact bN
  ·obtain⟨p,hp,rfl⟩:=bq.mp ha;obtain⟨q,hq,rfl⟩:=bq.mp hb;refine cJ (uj p hp) λY z e2=>?_;rw[e2]at e;rcases H.ps q hq with ⟨x,z,hu,iu⟩|iu
   ·rw[iu]at e;have ex:κ.x=x:=by have:=congrArg (λs:Str=>s.cps.toList) e;rw[uL]at this;exact this.1
    exact(Z Y).2 ((H.us _ (Z Y).1).mp ⟨q,hq,ex▸hu⟩)
   ·rw[iu]at e;have:=congrArg (λs:Str=>s.cps.size) e;exact absurd this (dw (fG ..))
 ·simp only[aWw,show _=false from g.oA,aWx];unfold az.es;split<;>rfl
 ·exact rR (SD ..) (rR (dB ..) (aE J (by decide)))
 ·intro e he;rcases cr.mp he with he|he
  ·rw[(uj e he).2.1];intro q;exact absurd (congrArg (λs:Str=>s.cps.size) q) (jd (nB [] [] (lL 0 5) rfl))
  ·exact g.ra e he
 ·exact rR FW g.rb
 ·intro l hl;rcases cr.mp hl with hl|hl
  ·exact g.rf l hl
  ·exact rR (bI.mp hl) (f4 _)
theorem fQ.SF(H:fQ G S xs k)(F:κ.Fits xs)(y:Nat->Nat)(x:Nat)(Y:x∈dS):(gW (κ.G3 G y) S.wm).Tag x:=by
 have t:=H.tag x Y;refine⟨Y,λe he J=>?_,t.fX,t.hex⟩;rcases cr.mp he with he|he
 ·unfold az.es at he;split at he
  ·obtain rfl:=bI.mp he;have:=JG (show bv κ.x=bv x from J);exact rR this rfl
  ·contradiction
 ·exact t.nj e he J
theorem fQ.aKy(H:fQ G S xs k)(F:κ.Fits xs)(y:Nat->Nat)(Z:κ.c≠0):∃e∈κ.es y++G.ents,e.u=bv κ.x:=by
 rcases F.g with h|⟨h,h1,J,Y⟩|⟨h,J,Y⟩
 ·exact absurd h Z
 ·exact aO ((H.us _ J).mpr Y) λe H J=>⟨e,bD _ H,J⟩
 ·refine⟨(⟨y 8,bv κ.x,y 9,⟨#[κ.x]⟩,y 10⟩:NE),bL _ ?_,rfl⟩;unfold az.es;exact h▸ay
theorem fQ.push(H:fQ G S xs k)(hk:k<=100)(F:κ.Fits xs)(y:Nat->Nat)(pw:List Str)(at_:AT):fQ (κ.G2 G y) (κ.S2 S pw at_ y) (κ.xs xs) (k+1):=by
 have hx:κ.c=2->κ.x∈dS:=λJ=>by
  rcases F.g with h|⟨h,z⟩|⟨z,h2,h3⟩
  ·replace J:=h▸J;injection J
  ·replace J:=h▸J;contradiction
  ·exact h2
 have Y:(κ.es y).length<=1:=by
  unfold az.es;split;·exact a8 _
  ·exact f4 _
 have hl:=H.hl;have hd:=H.hd;refine⟨λta h=>?_,λx hx=>?_,λx hl=>?_,λe he=>?_,?_,?_,?_,?_⟩
 ·have g:=H.SE hk F y ta h;refine⟨?_,?_,g.jS,g.mF,g.oA,f4 _,g.tN,g.ra,g.rb,g.rf,?_⟩;·exact rR FW g.hy
  ·intro l hl;rcases cr.mp hl with hl|hl
   ·exact g.js l hl
   ·exact rR (bI.mp hl) g.hz
  ·exact rR bQ (aT [lE Y1 100,lE Y0 (10+Y1)] (lE (Y0+1) 1000) rfl hk hd)
 ·have t:=H.SF F y x hx;exact⟨t.hx,t.nj,t.fX,t.hex⟩
 ·show(∃e∈κ.es y++G.ents,e.u=bv x) ↔ _;have hu:=H.us x hl;unfold az.es az.xs;split
  ·constructor
   ·rintro ⟨e,he,Z⟩;rcases cr.mp he with he|he
    ·obtain rfl:=bI.mp he;exact rR (JG (show bv κ.x=bv x from Z)) ay
    ·exact aB (hu.mp ⟨e,he,Z⟩)
   ·intro hm;rcases a9.mp hm with rfl|hm
    ·exact⟨_,bL _ ay,rfl⟩
    ·exact aO (hu.mpr hm) λe he Z=>⟨e,bD _ he,Z⟩
  ·exact hu
 ·rcases cr.mp he with he|he
  ·exact cJ (SC hx y e he) λJ Z h2=> .inl ⟨κ.x,hx J,Z,h2⟩
  ·exact H.ps e he
 ·refine rR bQ (rR H.hk ?_);rfl
 ·exact rR bQ (si hd)
 ·exact rR bQ (si H.hn)
 ·exact rR bQ (b8 [lE Y0 1,lE Y1 (10+Y2)] (lE (Y0+Y1) (10+(Y2+1))) rfl Y hl)
end
theorem aKz{tg:cY}{l:af}{e:Nat}{ul:List (af×ar)}(hA:A.handled=none)(J:Nat->List (af×ar)->Prop)(h0:J 0 ul)(turn:∀(u:Nat)(aq:aw)(i:Nat)(x:ag)(led:List (af×ar))(s ak:am)(Q:dm->am->Prop)(E:ag->am->Prop),u<=U->(∀b o,aa.get? b=some o->aq.get? b=some o)->vs[i]?=some x->J i led->ax True aq ak ((I,dh l (i+1))::(l,aA vs e)::led) s->(∀jj s',J (i+1) jj->ax True aq ak ((I,dh l (i+1))::(l,aA vs e)::jj) s'->Q .next s')->aG (av w) { A with units:=u } (uU tg (.ref I) x) (λ_ s=>aG (av w) { A with units:=u } (pF tg env x) (λ_ s=>aG (av w) { A with units:=u } (aV body env) Q E s) E s) E s)(dq:∀(led:List (af×ar))(s:am),J vs.length led->∃y,led.map (·.1)=ul.map (·.1)/\out y=⟨.ok .next,(I,jV vs.length)::(l,aA vs e)::led,[],s.heap.objs.size,s.toks⟩):Told True (av w) A U fr aa (.forLoop tg (.ref I) body [] env) ((I,dh l 0)::(l,aA vs e)::ul) out:=by
 intro u s ak R hu SR j hR;refine cJ (kG (rR (dR ..) SR)) λSA j aZ=>?_;generalize hh:g6 s.heap _=aq at SA aZ;refine Xo (λn s'=>∃i led,n=vs.length - i/\i<=vs.length/\J i led/\ax True aq ak ((I,dh l i)::_::led) s') ?_ _ ⟨0,ul,rfl,f4 _,h0,SA⟩;rintro n s1 ⟨i,led,rfl,hi,hJ,S1⟩;have hI:=S1.h.at_ _ ay;have hl:=S1.h.at_ _ (aB ay);induction hx:vs[i]? with
 |some x=>have bp:=(r9.mp hx).1;refine I8 hI hl hx λh' e1 sb=>?_;have H:=q7 (pre:=[]) S1 e1 sb.extBut;exact turn u aq i x led _ ak _ _ hu aZ hx hJ H λjj s' JH S'=>⟨vs.length - (i+1),lr [eQ (Y0+(Y2+1)) Y3,eQ (Y1+Y2) Y3] (lL Y0 Y1) [1,-1] 1 rfl (bY (aT [lL Y0 Y1] (lE (Y0+1) Y1) rfl bp)) (bY (hi)),i+1,jj,rfl,bp,JH,S'⟩|none=>
  obtain rfl:i=vs.length:=c8 hi (aXe.mp hx);refine I9 hA hI hl hx λh' e1 sb=>?_;have H:=q7 (pre:=[]) S1 e1 sb;refine qC (aO (dq led { s1 with heap:=h' } hJ) λy J Y=>?_);have lH:=hR y { s1 with heap:=h' } (rR Y rfl) (rR Y rfl) (by refine rR Y ?_;show I::l::led.map (·.1)=_;refine rR J ?_;rfl) (Y▸λp Z=>absurd Z bi)
   (by
    exact Y▸⟨⟨H.h.at_,H.h.nd,λb o e=>H.h.keep b o (aZ b o e),λp Z=>by
     induction z:aa.get? p.1 with
     |none=>rfl|some o=>have:=H.h.off p Z;replace this:=(aZ _ _ z)▸this;injection this⟩,H.os,H.gens, .inl True.intro⟩)
   (λb o J nb=>H.h.keep b o (hh▸ke _ J λH=>aO (bq.mp H) λp Z e=>nb p Z e));rw[Y]at lH;exact lH
section
theorem SG{l:af}{Z:List ag}{e e':Nat}{f:Array ag->Array ag}{Y:am}{rest:List (af×ar)}(e1:mT f (listOf vs.toArray e)=listOf Z.toArray e')(H:ax ao aa ak ((l,listOf vs.toArray e)::rest) s)(hs:Y={ s with heap:=s.heap.update l (mT f) }):Y.heap.objs.size=s.heap.objs.size/\ax ao aa ak ((l,listOf Z.toArray e')::rest) Y/\sI ((l,listOf vs.toArray e)::rest) s.heap Y.heap:=by subst hs;have J:=H.h.update (i:=0) (f:=λo=>o.mapSeq f) rfl rfl;have sb:lc l s.heap (s.heap.update l λo=>o.mapSeq f):=ib ..;replace J:f5 aa _ _:=J;rw[e1]at J;exact⟨sb.1,⟨J,H.os,H.gens,H.same⟩,λb o H J=>(sb.2 b (J _ ay).symm).trans H⟩
theorem aK0(l m:af)(a b:List ag)(e k:Nat)(hz:a.length+b.length<=100000)(J:0< b.length):Told ao (av w) A U fr aa (bC "list.extend" [.ref l, .ref m]) [(l,listOf a.toArray e),(m,listOf b.toArray k)] (λx=>⟨.ok (.ret .none),[(l,listOf (a++b).toArray (e+1)),(m,listOf b.toArray k)],[],x 0,x 1⟩):=by intro u s ak R hu H z hR;have Y:=H.h.at_ _ ay;refine dK aXf.plain PySem.F.entry_list_extend (aXf.check _ _ _ _ _ _ _ _ ⟨_,Y,rfl⟩ (PySem.F.args_list_extend_2 _ _) ?_);obtain⟨Z,q2,q3⟩:=SG (by exact rR (aZf ..) (rR (if_neg (by simp only[Array.size_append,pz,pz];intro q;have:=eq_of_beq q;exact jI 0 (fA [lL 0 Y0,eQ (Y1+Y0) Y1] (lL 0 0) [1,1] 0 rfl J this)) ..) (rR (FI ..) rfl))) H rfl;have J:a.toArray.size+b.toArray.size<=sizeLine:=aE hz (by decide+kernel);exact aZg l a.toArray e m b.toArray k (aZh J) (aE (fG _ _) J) (WP J) _ _ _ _ s ⟨Y,(H.h.at_ _ (aB ay)),hR (λi=>bif bZ i 0 then s.heap.objs.size else s.toks) _ Z rfl rfl (λp H=>nomatch H) q2 q3⟩
theorem aK1(l:af)(a:List ag)(e:Nat)(Z:a.length<=1000):Told ao (av w) A U fr aa (bC "list.reverse" [.ref l]) [(l,listOf a.toArray e)] (λx=>⟨.ok (.ret .none),[(l,listOf a.reverse.toArray e)],[],x 0,x 1⟩):=by intro u s ak R Y H z hR;have J:=H.h.at_ _ ay;refine dK aXg.plain PySem.F.entry_list_reverse (aXg.check _ _ _ _ _ _ _ _ ⟨_,J,rfl⟩ (PySem.F.args_list_reverse_1 _) ?_);exact cJ (SG (aZi _ _) H rfl) λH q2 Y=>aZj l a.toArray e (aE Z (by decide+kernel)) _ _ _ _ s ⟨J,hR (λi=>bif bZ i 0 then s.heap.objs.size else s.toks) _ H rfl rfl (λp H=>nomatch H) q2 Y⟩
end
abbrev AZ(x:Str)(t:ab)(i:Int)(u:ab):Obj:=nc (⟨.type "tuple",none, .seq #[.str x t, .int i u] 0,#[]⟩)
section
variable {x y:Str}{i j:Int}{t' u':ab}{a b:af}
theorem aK2{P:Fin->am->Prop}(ha:s.heap.get? a=some (AZ x t i u))(Z:s.heap.get? b=some (AZ y t' j u'))(h:P (.done (.ret (.bool (decide (x=y/\i=j))))) s):aG (aR prog w) A (Builtin.«tuple.__eq__» ⟨[.ref a, .ref b],[]⟩) P E s:=by
 show aG _ _ (Mw _ _>>=_) ..;refine au (mU ⟨_,Z,rfl⟩ isSubtype_tuple_tuple ?_);refine au (aXh ha rfl ?_);refine au (aXh Z rfl ?_);refine au ?_;have no:¬_->P _ s:=λq=>by rw[decide_eq_false q]at h;exact h
 refine aV7 _
  (λrest r s'=>r.1=none/\s'=s/\((rest=[(.str x t, .str y t'),_])\/(rest=[(.int i u, .int j u')]/\x=y)\/(rest=[]/\x=y/\i=j)))
  _ ?_ ?_ _ _ ⟨rfl,rfl, .inl rfl⟩
 ·rintro ⟨Z,Z⟩ rest r s' ⟨hr,rfl,H⟩;rcases H with H|⟨H,Y⟩|⟨H,z⟩
  ·simp only[uL,se]at H;obtain⟨⟨rfl,rfl⟩,rfl⟩:=H;refine au (My ?_);by_cases J:x=y;·exact rR (decide_eq_true J) (aH ⟨by trivial,by trivial, .inr (.inl ⟨by trivial,J⟩)⟩)
   ·exact rR (decide_eq_false J) (au (aH (aH (aH (no λq=>J q.1)))))
  ·simp only[uL,se]at H;obtain⟨⟨rfl,rfl⟩,rfl⟩:=H;refine au (wpAny_eqBool_int ?_);by_cases J:i=j;·exact rR (show _=true from beq_iff_eq.mpr J) (aH ⟨by trivial,by trivial, .inr (.inr ⟨by trivial,Y,J⟩)⟩)
   ·exact rR (show _=false from beq_false_of_ne J) (au (aH (aH (aH (no λq=>J q.2)))))
  ·injection H
 ·rintro ⟨r1,r2⟩ s' ⟨hr,rfl,H⟩;subst hr;refine aH ?_;rcases H with H|⟨H,z⟩|⟨z,hx,hi⟩
  ·injection H
  ·injection H
  ·rw[decide_eq_true ⟨hx,hi⟩]at h;exact h
theorem aK3{Q:Bool->am->Prop}(hu:A.units< dQ)(H:s.heap.get? a=some (AZ x t i u))(J:s.heap.get? b=some (AZ y t' j u'))(Y:a≠b)(h:Q (decide (x=y/\i=j)) s):aG (aR prog w) A (eqBool (.ref a) (.ref b)) Q E s:=by
 unfold eqBool;try with_reducible refine fW ?_
 refine rR (if_neg (λq=>Y (by have:=eq_of_beq q;injection this))) ?_;have ta:s.TypeIs (.ref a) "tuple":=⟨_,H,rfl⟩
 exact au (wpAny_richCompare_same_room ta (⟨_,J,rfl⟩) aXi
   (qz aXi ta F.entry_tuple_eq (aK2 H J ⟨_,rfl,nofun,XJ h⟩) (F.args_tuple_eq_2 _ _)) hu)
end
abbrev A5(H:List af):Obj:=nc (⟨.type "tuple",none, .seq (H.map aN).toArray 0,#[]⟩)
structure Pr where
 a:af
 x:Str
 t:ab
 i:Int
 u:ab
abbrev Pr.e(p:Pr):af×Obj:=(p.a,AZ p.x p.t p.i p.u)
variable {e:Nat}
theorem JI{T:af}{H:List Pr}{p:Pr}{b:Bool}(hU:U+10< dQ)(hb:(H.any λq=>decide (q.x=p.x/\q.i=p.i))=b):Told True (av w) A U fr aa (bC "tuple.__contains__" [.ref T, .ref p.a]) ((T,A5 (H.map (·.a)))::p.e::H.map Pr.e) (λx=>⟨.ok (.ret (.bool b)),(T,A5 (H.map (·.a)))::p.e::H.map Pr.e,[],x 0,x 1⟩):=by
 intro u s ak R hu SR v hR;have h1:=SR.h.at_ _ ay;have hm:∀q∈H,s.heap.get? q.a=some _/\q.a≠p.a:=λq Z=>by have nV:q.e∈H.map Pr.e:=b7 Z;exact⟨SR.h.at_ q.e (aB (aB nV)),λe=>((cj.mp (cj.mp SR.h.nd).2).1) (by show p.a∈_;exact rL e (b7 nV))⟩
 have SH:=hR (λi=>bif bZ i 0 then s.heap.objs.size else s.toks) s rfl rfl rfl (λp hp=>absurd hp bi) SR λb o eb nb=>eb;refine dK L9.plain aU5 (L9.check _ _ _ _ _ _ _ _ ⟨_,h1,rfl⟩ (aU6 _ _) ?_);show aG _ _ (aVo _>>=_) ..;refine au (tupleItemsOf_ ⟨_,h1,rfl,0,by show Xg ((H.map (·.a)).map aN).toArray 0=_;refine rR BH ?_;rfl⟩ ?_);refine au (forIn_array_ _ (λrest c s'=>c.1=none/\s'=s/\∃J,rest=J.map (λq:Pr=>aN q.a)/\(∀q∈J,q∈H)/\(J.any λq=>decide (q.x=p.x/\q.i=p.i))=b) _ ?_ ?_ _ _ ⟨rfl,rfl,H,rfl,λj h=>h,hb⟩)
 ·rintro y rest c s' ⟨hc,rfl,J,Z,vL,Y⟩;induction J using px with
  |nil=>injection Z|cons q J=>
   rw[iK,uL]at Z;obtain⟨rfl,rfl⟩:=Z;obtain⟨GU,hq2⟩:=hm q (vL q ay);simp only[List.any_cons]at Y;refine au (aK3 (b8 [lL (Y2+10) Y1,lE Y0 Y2] (lL (Y0+1) Y1) rfl hU hu) GU (SR.h.at_ _ (aB ay)) hq2 ?_);induction hk:decide (q.x=p.x/\q.i=p.i)with
   |true=>rw[hk,Bool.true_or]at Y;subst Y;exact au (aH (aH (aH (by simpa using SH))))|false=>
    replace Y:=Bool.false_or .. ▸(hk .. ▸Y)
    exact aH ⟨by trivial,rfl,J,rfl,λz H=>vL z (aB H),Y⟩
 ·rintro ⟨H,H⟩ s' ⟨hc,rfl,J,Z,v,Y⟩;induction J with
  |cons q J=>injection Z|nil=>subst hc;simp only[List.any_nil]at Y;subst Y;exact aH (by simpa using SH)
abbrev A6(W:Str)(t:ab)(d:Int)(u:ab):Code:=nc (.call (.ref 245) ⟨[.str W t, .int d u],[]⟩)
abbrev aW(l:List Nat):Str:=nc (⟨l.toArray⟩)
abbrev JJ:Str:=nc ("\"\\ \n\t\r")
def Ek(d:Nat)(m:Bool)(H:List Nat)(J:ab)(c:Nat)(B:Nat)(next:aM):aF:=match d with
 |0=>mu JJ (aW [c]) (B+3) B m λi=>match m with
  |true=>cQ (aW H) "\\" (aW (H++[92])) J (i 1) λx=>cQ (aW (H++[92])) (aW [c]) (aW (H++[92]++[c])) (x 2) B next|false=>cQ (aW H) (aW [c]) (aW (H++[c])) J B next
 |_=>cQ (aW H) "\\" (aW (H++[92])) J (B+3) λx=>cQ (aW (H++[92])) (aW [c]) (aW (H++[92]++[c])) (x 2) B next
def wj(d:Nat)(m:Bool)(H:List Nat)(c:Nat):List Nat:=nc (match d with
 |0=>(match m with
  |true=>H++[92]++[c]|false=>H++[c])
 |_=>H++[92]++[c])
def lwO(d n:Nat)(W:Str)(a b:Nat)(m H:Bool)(t tk:Nat):aF:=cC W "" t (tk+3) false λe=>CX W t λz=>Ek d m [] (e 1) a (z 1) λx=>match n with
 |1=> .nil|_=>Ek d H (wj d m [] a) (x 2) b (x 1+1) λ_=> .nil
def JK(n a b:Nat):Str:=match n with
 |1=>aW [a]|_=>aW [a,b]
def SJ(d n a b:Nat)(m H:Bool):List Nat:=match n with
 |1=>wj d m [] a|_=>wj d H (wj d m [] a) b
def SL(d:Nat)(m:Bool):List Nat:=(dN 14 0xf88420842100401)++((match d with
 |0=>(match m with
  |true=>[2,2,2,2,2,2,2,2,2,2,2]|false=>[2,2,2,2,2,2,2])
 |_=>[2,2,2,2,2,2,2,2,2])++[0])
def aK4(d n:Nat)(m H:Bool):List Nat:=(dN 20 0x45f08422f8400f840108421)++(SL d m++((match n with
 |1=>[]|_=>SL d H)++[1,0,1,0,1,1,1,1,1,0,4]))
def JL(d:Nat)(m:Bool):Nat:=nc (match d with
 |0=>(match m with
  |true=>3|false=>2)
 |_=>2)
def JM(d n:Nat)(m H:Bool):Nat:=match n with
 |1=>1+JL d m|_=>1+JL d m+JL d H
abbrev lwI(d:Nat):Int:=nc (match d with
 |0=>0|_=>2)
theorem aK5(w:aj)(d n a b:Nat)(hd:d=0\/d=1)(hn:n=1\/n=2)(m H:Bool)(t u sz tk:Nat)(J:Xs):Ends [] ((aI w 2 0 none 600).C [] J ⟨[],sz,tk,aK4 d n m H,lwO d n (JK n a b) a b m H t tk⟩ (A6 (JK n a b) t (lwI d) u) fin) (.ok (.ret (.str (aW (SJ d n a b m H)) (J (JM d n m H) 2))),[],J (JM d n m H) 0+2,J (JM d n m H) 1+1):=by
 rcases hd with rfl|rfl
 ·rcases hn with rfl|rfl
  ·induction m<;>kernel_rfl
  ·induction m<;>induction H<;>kernel_rfl
 ·rcases hn with rfl|rfl<;>kernel_rfl
abbrev qj(L:af):Env:=mD u8.1 245 L
abbrev rD:List Stmt:=bodyOf u8.1
def rtE(b:List cq):PySem.Expr:=pE b[0]? 0
def rtP(b:List cq):Pos:=(oS b[0]?).pos
def yp(e:cY):PySem.Expr:=xE e 0
def JN(e:cY):PySem.Expr:=xE e 1
def SM(e:cY):Pos:=nc (e.pos)
abbrev wn:PySem.Expr:=rtE (AF rD)
abbrev lQ:PySem.Expr:=JN (yp wn)
theorem aK6:rD= .If (v7 rD) [.Return (some (.BinOp (.BinOp (yp (yp wn)) .Add (.Call (.Attribute (vY lQ) "replace" (xU lQ)) (vZ lQ) [] (tX lQ)) (SM (yp wn))) .Add (JN wn) (SM wn))) (rtP (AF rD))] [] (IU rD)::rD.drop 1:=by kernel_rfl
abbrev lR(w:aj)(W:Str)(t:ab)(d:Int)(u:ab)(L tk:Nat):List (af×ar):=nc ([(L,⟨.type "frame",none, .dict (cF [⟨aS w.params "word", .str "word" tk, .str W t⟩,⟨aS w.params "dress", .str "dress" (tk+1), .int d u⟩]) 2,#[]⟩)])
abbrev El(κ:Nat):Int:=nc (match κ with
 |0=>1|1=>0|_=>2)
def SN(κ:Nat)(W:Str)(t tk:Nat):aF:=match κ with
 |0=> .nil|_=>cC W "" t (tk+1) true λ_=> .nil
def aK7(κ:Nat):List Nat:=nc (match κ with
 |0=>[1,777,0,0]|_=>[1,777,0,0,1,777,2])
section
variable (w:aj)(W:Str)(t:ab)(d:Int)(u:ab)(L k0 sz tk:Nat)(σ:Xs)
theorem aK8(κ:Nat)(h:κ=0\/κ=1\/κ=2):bA ((aI w 0 0 none 400).S [] σ ⟨lR w W t (El κ) u L k0,sz,tk,aK7 κ,SN κ W t tk⟩ (MD (v7 rD) (qj L) (fy (v7 rD) (qj L))) fin) (.ok true,lR w W t (El κ) u L k0,(match κ with|0=>sz|_=>σ 0 0),(match κ with|0=>tk+1|_=>σ 0 1)):=by rcases h with rfl|rfl|rfl<;>kernel_rfl
theorem aK9:bA ((aI w 0 0 none 400).S [] σ ⟨lR w W t d u L k0,sz,tk,[], .nil⟩ (fy (yp (yp wn)) (qj L)) fin) (.ok (.str "\"" tk),lR w W t d u L k0,sz,tk+1):=by kernel_rfl
theorem aLa(r:Str):bA ((aI w 0 0 none 400).S [] σ ⟨lR w W t d u L k0,sz,tk,[1,2],vB W "\\" "\\\\" r t tk (tk+1) λ_=> .nil⟩ (attributeBase (vY lQ) "replace" (qj L) (fy (vY lQ) (qj L))) fin) (.ok (.str r (σ 0 2)),lR w W t d u L k0,σ 0 0,σ 0 1):=by kernel_rfl
theorem aLb(r r2:Str)(v:ab):bA ((aI w 0 0 none 400).S [] σ ⟨lR w W t d u L k0,sz,tk,[2],vB r "\"" "\\\"" r2 v tk (tk+1) λ_=> .nil⟩ (do Ga (xU lQ).atName;methodCall (vY lQ) "replace" (xU lQ) (tX lQ) (qj L) (.str r v) ((vZ lQ).length+([]:List XR).length) (y6 (tX lQ) (w5 (vZ lQ) (qj L))) (y7 (tX lQ) (y8 [] (qj L)))) fin) (.ok (.str r2 (σ 0 2)),lR w W t d u L k0,σ 0 0,σ 0 1):=by kernel_rfl
theorem SO(x y z:Str)(v H:ab):bA ((aI w 0 0 none 400).S [] σ ⟨lR w W t d u L k0,sz,tk,[2],cQ x y z v H λ_=> .nil⟩ (binaryOp .Add (.str x v) (.str y H)) fin) (.ok (.str z (σ 0 2)),lR w W t d u L k0,σ 0 0,σ 0 1):=by kernel_rfl
theorem aLc:bA ((aI w 0 0 none 400).S [] σ ⟨lR w W t d u L k0,sz,tk,[], .nil⟩ (fy (JN wn) (qj L)) fin) (.ok (.str "\"" tk),lR w W t d u L k0,sz,tk+1):=by kernel_rfl
end
def um:FuncData:=match u8.1.data with
 | .func f=>f|_=>default
theorem aLd(w:aj):(K w.params).lookup 245=some ⟨u8.1.cls,u8.1.dict, .func um,u8.1.slots⟩:=by kernel_rfl
theorem aLe(w:aj)(W:Str)(t:ab)(d:Int)(u:ab)(sz tk:Nat)(H:Xs):bA ((aI w 0 0 none 400).S [] H ⟨[],sz,tk,[], .nil⟩ (md um ⟨[.str W t, .int d u],[]⟩) fin) (.ok [("word", .str W t),("dress", .int d u)],[],sz,tk):=by kernel_rfl
theorem aLf(w:aj)(W:Str)(t:ab)(d:Int)(u:ab)(sz tk:Nat)(H:Xs):bA ((aI w 0 0 none 400).S [] H ⟨[],sz,tk,[1,1,1,1], .nil⟩ (me um.scope um.globals um.closure [("word", .str W t),("dress", .int d u)] (um.qualname++".<locals>.") (some 245) um.code none um.builtins) fin) (.ok (qj sz),lR w W t d u sz tk,sz+1,tk+2):=by kernel_rfl
theorem aLg(J:aK w aa)(NL:aa.NoLimit)(κ:Nat)(om:κ=0\/κ=1\/κ=2)(W:Str)(hW:κ≠0->W="")(hx:W.length<=1000)(t u:ab)(r r2 r3 r4:Str)(h1:Txt.replace W "\\" "\\\\"=r)(h2:Txt.replace r "\"" "\\\""=r2)(h3:("\"":Str)++r2=r3)(h4:r3++"\""=r4)(hr:r.length<=10000)(x9:r2.length<=100000):Any True w aa 2 (A6 W t (El κ) u) [] (λx=>⟨.ok (.ret (.str r4 (x 2))),[],[],x 0,x 1⟩):=by
 intro A' Y hd un s ak R hu SR j hR;have hX:aK w s.heap:=λb o e=>SR.h.keep _ _ (J b o e);refine FA (show A'.depth< bk by exact aT [lE (Y0+2) Y1] (lL Y0 Y1) rfl (hd (by decide))) (hX _ _ (aLd w)) rfl rfl rfl (body:=rD) (by kernel_rfl) (BJ hX (by kernel_rfl)) (gL SR J Y 0 0 400 [] .nil (λz=>True.intro) nofun (a8 _) _ _ _ _ (λH=>aLe w W t _ ..) λz s1 S1 z z G1=>?_);refine gL S1 J Y 0 0 400 [1,1,1,1] .nil (λz=>True.intro) nofun (a8 _) _ _ _ _ (λH=>aLf w W t _ ..) λz s2 S2 z qT G2=>⟨NL.keeps S2.h.keep,Mi ?_⟩
 have Al:∀b o,s.heap.get? b=some o->s1.heap.get? b=some o/\b≠s1.heap.objs.size:=λb o e=>have e1:=G1.keep b o e (λp Z=>absurd Z bi);⟨e1,dw (dJ e1)⟩;have Ds:∀b o,s.heap.get? b=some o->b≠s1.heap.objs.size:=λb o e=>(Al b o e).2;generalize s1.heap.objs.size=L at S2 Ds ⊢;generalize s1.toks=k0 at S2 qT;refine rR aK6 (mW (wpAny_If ?_));refine gL S2 J Y 0 0 400 _ _ (λz=>?_) nofun (a8 _) _ _ _ _ (λH=>aK8 w W t u L k0 _ _ H κ om) λH s3 S3 z IP G3=>?_
 ·unfold SN;split;·trivial
  ·rename_i cB;exact dC (by refine rR (hW cB) ?_;rfl) λz z=>True.intro
 refine mW (aXj (wpAny_BinOp (wpAny_BinOp ?_)));refine gL S3 J Y 0 0 400 [] .nil (λz=>True.intro) nofun (a8 _) _ _ _ _ (λH=>aK9 w W t _ ..) λz s4 S4 z ht4 G4=>?_
 have p4:1<=s4.toks:=rR ht4 (si (f4 _));refine au (XU p4 ?_);have nz:∀n:Nat,1<=n->(n==0||n+1==0)=false:=λn h=>by
  induction n with
  |zero=>contradiction|succ n=>rfl
 have nn:∀n:Nat,(n==n+1)=false:=λn=>beq_false_of_ne (dw (a8 _));refine gL S4 J Y 0 0 400 [1,2] (vB W "\\" "\\\\" r t s4.toks _ λz=> .nil) (λz=>Hu (nz _ p4) (nn _) rfl (aE hx (by decide)) (by decide) h1 λz z=>True.intro) nofun (a8 _) _ _ _ _ (λH=>aLa w W t _ ..) λNb s5 S5 z z G5=>λp5=>gL S5 J Y 0 0 400 [2] (vB r "\"" "\\\"" r2 _ s5.toks _ λz=> .nil) (λz=>Hu (nz _ p5) (nn _) rfl (aE hr (by decide)) (by decide) h2 λz z=>True.intro) nofun (a8 _) _ _ _ _ (λH=>aLb w W t _ ..) λzo s6 S6 z z G6=>gL S6 J Y 0 0 400 [2] (cQ "\"" r2 r3 s3.toks _ λz=> .nil) (λz=>n6 h3 (aE (yP x9 1) (by decide)) λz z=>True.intro) nofun (a8 _) _ _ _ _ (λH=>SO w W t _ u L k0 _ _ H "\"" r2 ..) λyq s7 S7 z z G7=>gL S7 J Y 0 0 400 [] .nil (λz=>True.intro) nofun (a8 _) _ _ _ _ (λH=>aLc w W t _ ..) λz s8 S8 z z G8=>gL S8 J Y 0 0 400 [2] (cQ r3 "\"" r4 _ s7.toks λz=> .nil) (λz=>n6 h4 (by subst h3;rw[X5];exact aE (yR (yP x9 1) 1) (by decide)) λz z=>True.intro) nofun (a8 _) _ _ _ _ (λH=>SO w W t _ u L k0 _ _ H r3 "\"" r4 _ _) λH H S9 SU Y J=>?_
 refine hR _ H SU Y rfl (λp Z=>absurd Z bi) (qb S9) λb o e z=>?_;have H:∀p∈lR w W t (El κ) u L k0,p.1≠b:=λp Z=>by exact rR (bI.mp Z) ((Ds b o e).symm)
 exact J.keep b o (G8.keep b o (G7.keep b o (G6.keep b o (G5.keep b o (G4.keep b o (G3.keep b o ((λb o e=>G2.keep b o (Al b o e).1 (λp Z=>absurd Z bi)) b o e) H) H) H) H) H) H) H
theorem SY:∀l:List Nat,cV 34 [92,34] (cV 92 [92,92] l)=qX l
 |[]=>rfl|c::l=>by
  simp only[show cV 92 [92,92] (c::l)=_++cV 92 [92,92] l from rfl,AE,(SY l)];show _=_++qX l;by_cases h:c=92;·subst h;rfl
  ·by_cases H:c=34;·subst H;rfl
   ·refine rR (if_neg h) (rR (if_neg (λq=>q.elim h H)) ?_);show((if c=34 then [92,34]else [c])++[])++_=_;refine rR (if_neg H) ?_;rfl
theorem aLh:∀c:_root_.Fin 128,(!(kb JJ ⟨#[c.val]⟩ 0 JJ.length 1).isEmpty)=lB c.val:=by decide+kernel
theorem SZ{d c:Nat}{m:Bool}{H:List Nat}{Y:ab}{next:aM}(hc:c< 128)(hm:lB c=m)(ha:H.length<=100)(k:bJ next True w A U fr aa):(Ek d m H Y c B next).Ok True (av w) A U fr aa lv:=by
 have Z:∀n,n<=200->n<=sizeLine:=λn h=>aE h (by decide);have ad:∀(l:List Nat)(x:Nat),aW l++aW [x]=aW _:=λl x=>by show(⟨l.toArray++[x].toArray⟩:Str)=_;rw[FI]
 have ln:∀l:List Nat,(aW l).length=l.length:=λl=>pz ..;have s2:(aW (H++[92])).length+(aW [c]).length<=sizeLine:=Z _ (by simp only[ln,ln,bQ];exact bu [lE Y0 100] (lE (Y0+1+1) 200) rfl ha);have J:∀{Y:ab}{u u2:Nat->Nat->ab}(t2:ab)lv,(cQ _ "\\" _ Y t2 λx=>cQ _ _ _ (x 2) B next).Ok True _ A U fr aa lv:=λt2 lv=>n6 (ad H 92) (Z _ (bu [lE Y0 100] (lE (Y0+1) 200) rfl ha)) λz z=>n6 (ad _ c) s2 k;unfold Ek;split
 ·refine nZ ((aLh ⟨c,hc⟩).trans hm) λi lv=>?_;induction m with
  |true=>exact J (u:=λz z=>0) (u2:=λz z=>0) _ _|false=>exact n6 (ad H c) (Z _ (bu [lE Y0 100] (lE (Y0+1) 200) rfl ha)) k
 ·exact J (u:=λz z=>0) (u2:=λz z=>0) _ _
theorem Em(d c:Nat)(H:List Nat)(hd:d=0\/d=1):wj d (lB c) H c=H++pZ (d==1) [c]:=by
 rcases hd with rfl|rfl
 ·show(match lB c with|true=>_|false=>_)=H++((if _=true then [92,c]else [c])++[])
  induction lB c;·rfl
  ·simp only[bH];rfl
 ·show H++[92]++[c]=H++_;rw[bH];rfl
abbrev JO(l:List Nat):(Nat->Nat)->Out:=λx=>⟨.ok (.ret (.str (aW l) (x 2))),[],[],x 0,x 1⟩
theorem aLi(Y:W.length<=2)(J:W≠[])(H:∀c∈W,c< 128):∃n a b,(n=1\/n=2)/\W=(match n with|1=>[a]|j=>[a,b])/\a< 128/\b< 128:=by
 induction W using px with
 |nil=>exact absurd rfl J|cons a W=>
  induction W using px with
  |nil=>exact⟨1,a,0, .inl rfl,rfl,H a ay,by decide⟩|cons b W=>
   induction W using px with
   |nil=>exact⟨2,a,b, .inr rfl,rfl,H a ay,H b (aB ay)⟩|cons c W=>exact absurd (LR (LR Y)) (Nat.not_succ_le_zero _)
theorem aLj(XK:aK w aa)(NL:aa.NoLimit)(gr:Nat)(hd:gr=0\/gr=1\/gr=2)(W:List Nat)(Y:W.length<=2)(ha:∀c∈W,c< 128)(t u:ab):Any True w aa 2 (A6 (aW W) t gr u) [] (JO (gK gr W)):=by
 have ad:∀(a b:List Nat),aW a++aW b=aW _:=λa b=>by show(⟨a.toArray++b.toArray⟩:Str)=_;rw[FI]
 have l1:=IT 92 [92,92] W 2 (by decide) (by decide);have xu:∀κ,_->(κ≠0->W=[])->Any True w aa 2 _ [] (JO _):=λκ om J=>by
  refine aLg XK NL κ om (aW W) (λh=>by rw[J h];rfl) (aE Y (by decide)) t u _ _ (aW ([34]++qX W)) _ (IS ..) (IS ..) ?_ (ad _ [34]) ?_ ?_
  ·show aW [34]++aW (cV 34 [92,34] (cV 92 [92,92] W))=_;rw[SY,ad]
  ·exact fA [lE Y1 2,lE Y0 (.m 2 Y1)] (lE Y0 10000) [2,1] 1 rfl Y l1
  ·exact cA [lE Y1 2,lE Y2 (.m 2 Y1),lE Y0 (.m 2 Y2)] (lE Y0 100000) [4,2,1] 1 rfl Y l1 (IT 34 [92,34] _ 2 (by decide) (by decide))
 have H:∀d,_->W≠[]->Any True w aa 2 (A6 (aW W) ..) [] (JO (pZ _ W)):=λd hd cB=>by
  have e0:((aW W).cps.toList==([]:List Nat))=false:=by
   induction W with
   |nil=>exact absurd rfl cB|cons _ _=>rfl
  have e1:(aW W).cps.all (· < 128)=true:=by exact rR aXk (r5.mpr λc hc=>decide_eq_true (ha c hc))
  obtain⟨n,a,b,hn,J,aLk,Z⟩:=aLi Y cB ha;have eW:aW W=JK n a b:=by rcases hn with rfl|rfl<;>(refine rR J ?_;rfl)
  have eR:SJ d n a b (lB a) (lB b)=pZ (d==1) W:=by
   rcases hn with rfl|rfl
   ·rw[J];show wj d _ [] a=_;rw[Em d a [] hd];rfl
   ·rw[J];show wj d _ _ b=_;rw[Em d a [] hd,Em d b _ hd];show([]++((if _=true then [92,a]else [a])++[]))++((if _=true then [92,b]else [b])++[])=_++((if _=true then [92,b]else [b])++[])
    simp only[uP,dR]
  refine rL eR ?_;rw[eW]at e0 e1 ⊢;refine bS XK NL 600 _ [] _ bN (λz z J i=>match i with|0=>J _ 0+2|1=>J _ 1+1|i=>J _ i) (λz=>rfl) (λY Y sz tk z=>?_) λsz tk J=>aK5 w d n a b hd hn _ _ t u sz tk J;refine dC e0 λz z=>Hw e1 λz z=>SZ aLk rfl (f4 _) λz z=>?_;split;·trivial
  ·refine SZ Z rfl ?_ λz z=>True.intro;rw[Em d a [] hd];show((if _=true then [92,a]else [a])++[]).length<=100;split;·exact dk rfl
   ·exact dk rfl
 rcases hd with rfl|rfl|rfl
 ·induction W with
  |nil=>exact xu 1 (.inr (.inl rfl)) λz=>rfl|cons c r=>exact H 0 (.inl rfl) nofun
 ·exact xu 0 (.inl rfl) λh=>absurd rfl h
 ·induction W with
  |nil=>exact xu 2 (.inr (.inr rfl)) λz=>rfl|cons c r=>exact H 1 (.inr rfl) nofun
def uo:FuncData:=match u9.1.data with
 | .func f=>f|_=>default
abbrev fE:List Stmt:=bodyOf u9.1
abbrev jW(L:af):Env:={ mD u9.1 250 L with cells:=[("words",L+1)] }
def nE(b:List cq)(i:Nat):List Stmt:=pB b[i]? 0
def mL(b:List cq)(i:Nat):PySem.Expr:=pE b[i]? 0
structure FR where
 a:af
 dp:Int
 nm:List Nat
 dr:Nat
 tu:Int
 sh:Int
 va:Int
 t0:ab
 t1:ab
 t2:ab
 t3:ab
 t4:ab
 t5:ab
variable {rows:List FR}{r0 r1 r2 r3:FR}
abbrev FR.o(r:FR):Obj:=⟨.type "tuple",none, .seq #[.int r.dp r.t0, .str (aW r.nm) r.t1, .int r.dr r.t2, .int r.tu r.t3, .int r.sh r.t4, .int r.va r.t5] 0,#[]⟩
structure FD where
 D:af
 ky:Str
 tk:ab
 fg:Int
 tf:ab
 k8:ab
 k9:ab
noncomputable abbrev FK:=_root_.Fin 8->ab
abbrev JP(w:aj)(k:FK)(R:af)(r:FR):List DictEntry:=[⟨aS w.params "rows", .str "rows" (k 0), .ref R⟩,⟨aS w.params "deep", .str "deep" (k 1), .int r.dp r.t0⟩,⟨aS w.params "name", .str "name" (k 2), .str (aW r.nm) r.t1⟩,⟨aS w.params "dress", .str "dress" (k 3), .int r.dr r.t2⟩,⟨aS w.params "turn", .str "turn" (k 4), .int r.tu r.t3⟩,⟨aS w.params "share", .str "share" (k 5), .int r.sh r.t4⟩,⟨aS w.params "value", .str "value" (k 6), .int r.va r.t5⟩]
abbrev jX(w:aj)(k:FK)(R:af)(r:FR)(d:FD)(f:Nat):Obj:=match f with
 |0=>⟨.type "frame",none, .dict #[⟨aS w.params "rows", .str "rows" (k 0), .ref R⟩] 1,#[]⟩|1=>⟨.type "frame",none, .dict (cF (JP w k R r)) 7,#[]⟩|2=>⟨.type "frame",none, .dict (cF (JP w k R r++[⟨aS w.params "deeds", .str "deeds" (k 7), .ref d.D⟩])) 8,#[]⟩|_=>⟨.type "frame",none, .dict (cF (JP w k R r++[⟨aS w.params "deeds", .str "deeds" (k 7), .ref d.D⟩,⟨aS w.params "key", .str "key" d.k8, .str d.ky d.tk⟩,⟨aS w.params "figure", .str "figure" d.k9, .int d.fg d.tf⟩])) 10,#[]⟩
abbrev A7(z B:Nat):List Pr:=nc ([⟨z,"h",B+1,0,B+2⟩,⟨z+1,"s",B+3,4,B+4⟩,⟨z+2,"v",B+5,4,B+6⟩])
abbrev JQ(ix:List Nat)(z B:Nat)(p:Pr)(b:Bool)(next:aM):aF:= .cons none (bC "tuple.__contains__" [.ref (z+3), .ref p.a]) ix ((z+3,A5 ((A7 z B).map (·.a)))::p.e::(A7 z B).map Pr.e) (λx=>⟨.ok (.ret (.bool b)),(z+3,A5 ((A7 z B).map (·.a)))::p.e::(A7 z B).map Pr.e,[],x 0,x 1⟩) next
def Ta:PySem.Expr:=pE (nE fE 1)[0]? 0
def aLm:Scope:=(eL Ta).2.2
abbrev En(L I D C:af):Code:= .compStart Ta 0 (.ref I) (.ref D) (XY aLm [] C (jW L))
abbrev Eo(T:af)(i:Nat):Obj:=nc (⟨.type "tuple_iterator",none, .fields #[.ref T, .int i 0],#[]⟩)
abbrev yr(C D I T:af)(c:ar)(ds:List ag)(e:Nat)(i:ar)(p q r:Pr):List (af×ar):=[(C,c),(D,aA ds e),(I,i),(T,A5 [p.a,q.a,r.a]),p.e,q.e,r.e]
def JR(b:Bool)(n:Nat):List Nat:=nc (match b with
 |true=>[]|false=>[n,0,n+1,0,n+1,n+1,n+1])
def aLn(Y Z J H:Bool):List Nat:=(match Y with
 |true=>(dN 17 0x20842108c6418c0300c00)|false=>(dN 24 0x104210846320c601806018060f8c60))++(JR Z 5++((dN 16 0x10425294e741ce0380e0)++(JR J 9++((dN 16 0x104294a56b62d6058160)++(JR H 13++[0,15,0,15,0,15,15,16,15,15,1])))))
def dfO(p q r:Pr)(H J Y:Bool)(sz tk:Nat):aF:=JQ [0,8,3,2,1] sz tk p H λa=>JQ [0,13,3,2,1] (a 0) (a 1) q J λb=>JQ [0,18,3,2,1] (b 0) (b 1) r Y λ_=> .nil
def mM(b:Bool)(p:Pr):List Value:=nc (match b with
 |true=>[]|false=>[.ref p.a])
def nF(b:Bool):Nat:=nc (match b with
 |true=>0|false=>1)
abbrev Tb(w:aj)(k:ab)(r:Pr):Obj:=nc (⟨.type "dict",none, .dict #[⟨aS w.params "pair", .str "pair" k, .ref r.a⟩] 1,#[]⟩)
abbrev Tc:Obj:=nc (⟨.type "tuple_iterator",none, .fields #[.none, .int 3 0],#[]⟩)
theorem aLo(w:aj)(L C D I T:af)(p q r:Pr)(H J Y:Bool)(sz tk:Nat)(Z:Xs):Ends [14,15,16,17,18,19,20] ((aI w 2 5 none 600).C [] Z ⟨yr C D I T mG [] 0 (Eo T 0) p q r,sz,tk,aLn (w.params.followText "comprehension-iter-twice") H J Y,dfO p q r H J Y sz tk⟩ (En L I D C) fin) (.ok .next,(yr C D I T (Tb w tk r) (mM H p++(mM J q++mM Y r)) (nF H+nF J+nF Y) Tc p q r).map some,Z 2 0+2,Z 2 1):=by induction H<;>induction J<;>induction Y<;>(revert w;refine byRow2 "comprehension-iter-twice" (λw=>?_) (λw=>?_)<;>kernel_rfl)
abbrev JS(w:aj)(C D I T:af)(p q r:Pr)(J:List ag)(H:Nat):(Nat->Nat)->Out:=λx=>⟨.ok .next,yr C D I T (Tb w (x 2) r) J H Tc p q r,[],x 0,x 1⟩
abbrev aLp(ix:List Nat)(w:aj)(L C D I T:af)(p q r:Pr)(J:List ag)(H:Nat)(next:aM):aF:= .cons none (En L I D C) ix (yr C D I T mG [] 0 (Eo T 0) p q r) (JS w C D I T p q r J H) next
abbrev Ep(a b m:Int)(t u:ab)(next:aM):aF:=cM "int.__mod__" [.int a t, .int b u] (λk=> .int m k) next
abbrev aLq(i:Nat)(l:af)(vs:List ag)(e:Nat)(next:aM):aF:= .cons (some 0) (bC "list.reverse" [.ref l]) [i] [(l,listOf vs.toArray e)] (λx=>⟨.ok (.ret .none),[(l,listOf vs.reverse.toArray e)],[],x 0,x 1⟩) next
abbrev JT(ix:List Nat)(l m:af)(a b:List ag)(e k:Nat)(next:aM):aF:= .cons (some 0) (bC "list.extend" [.ref l, .ref m]) ix [(l,aA a e),(m,aA b k)] (λx=>⟨.ok (.ret .none),[(l,aA (a++b) (e+1)),(m,aA b k)],[],x 0,x 1⟩) next
abbrev JU(i:Int)(s:Str)(t:ab)(next:aM):aF:=cM "int.__repr__" [.int i t] (λk=> .str s k) next
abbrev A8(W:Str)(t:ab)(d:Int)(u:ab)(S:Str)(next:aM):aF:= .cons (some 2) (A6 W t d u) [] [] (λx=>⟨.ok (.ret (.str S (x 2))),[],[],x 0,x 1⟩) next
abbrev iE(W:af):Obj:=nc (⟨.type "cell",none, .cell (some (.ref W)),#[]⟩)
abbrev Td(L I:af):Code:= .forLoop (mL (nE fE 1) 3) (.ref I) (nE (nE fE 1) 3) [] (jW L)
theorem aLr{K:uI}{c:bB}(X:K.In aa)(hA:A.handled=none)(dep ub n:Nat)(ev J:List Nat)(H:Nat->Nat->aF)(gq:∀sz tk,(H sz tk).Ok ao (aR prog w) A (U+ub) fr aa (pre.map (·.1)))(hd:0< dep->aa.NoLimit/\A.depth+dep<=bk)(nd:J.Nodup)(Z:Nat->Nat->Xs->Nat->Nat)(jk:∀x,(out x).post.map (·.1)=pre.map (·.1))(e:∀sz tk Y,Ends J ((run ⟨⟨prog,w.params⟩,K,dep,ub,fr⟩ n).C [] Y ⟨pre,sz,tk,ev,H sz tk⟩ c fin) ((out (Z sz tk Y)).res,((out (Z sz tk Y)).new++(out (Z sz tk Y)).post).map some,(out (Z sz tk Y)).sz,(out (Z sz tk Y)).tk)):Told ao (aR prog w) A U fr aa c pre out:=by
 intro u s ak R hu SR j hR;have un:∀(H:aF)n,H.Ok ao (aR prog w) A (U+ub) fr aa n->H.Ok ao (aR prog w) { A with units:=u } (U+ub) fr aa n:=by
  intro H;induction H with
  |nil=>exact λz=>id|cons any c ix pre out next ih=>exact λn h=>⟨h.1,h.2.1,(by induction any<;>exact h.2.2.1),λx hx Z=>ih x _ (h.2.2.2 x hx Z)⟩
 refine(zt (A:={ A with units:=u }) (P:=λo:cz×WS=>∃x,(o.1,J.map (λi=>o.2.led[i]?),o.2.sz,o.2.tk)=((out x).res,((out x).new++(out x).post).map some,(out x).sz,(out x).tk)) X hA hd (yR hu ub) n).C [] ⟨pre,s.heap.objs.size,s.toks,ev,H s.heap.objs.size s.toks⟩ c fin R s ak ⟨SR,rfl,rfl⟩ ⟨_,λz=>id,un _ _ (gq _ _)⟩
  (λY=>Cn (e ..) λr H h=>⟨_,h⟩) λr H s' F z G hm=>?_;obtain⟨j,j,e1,j,x,e2⟩:=hm λz z=>0;cases e1;simp only[se]at e2;obtain⟨rfl,e3,e4,e5⟩:=e2;have R':=F.r.h.sel nd e3;have G':=G.sel e3;refine hR x s' (F.sz.trans e4) (F.tk.trans e5) (jk x) (λp hp=>?_) ⟨R',F.r.os,F.r.gens,F.r.same⟩ G'.keep;rcases G'.new p (bL _ hp)with h|⟨q,hq,e⟩
 ·exact h
 ·have H:=R'.nd;rw[bM,fj]at H;refine absurd rfl (H.2.2 p.1 (b7 hp) p.1 ?_);exact rR (jk x) (rL e (b7 hq))
def b9(p:Pr):Bool:=(A7 0 0).any λq=>decide (q.x=p.x/\q.i=p.i)
theorem aLs(XK:aK w aa)(J:aa.NoLimit)(Z:A.handled=none)(hd:A.depth+2<=bk)(H:U+15< dQ)(L C D I T:af)(p q r:Pr):Told True (av w) A U fr aa (En L I D C) (yr C D I T mG [] 0 (Eo T 0) p q r) (JS w C D I T p q r (mM (b9 p) p++(mM (b9 q) q++mM (b9 r) r)) (nF (b9 p)+nF (b9 q)+nF (b9 r))):=by
 have Y:Told True (av w) A U none aa (En L I D C) (yr C D I T mG [] 0 (Eo T 0) p q r) (JS w C D I T p q r (mM (b9 p) p++(mM (b9 q) q++mM (b9 r) r)) (nF (b9 p)+nF (b9 q)+nF (b9 r))):=by refine aLr XK Z 2 5 600 _ [14,15,16,17,18,19,20] _ (λsz tk=>?_) (λz=>⟨J,hd⟩) (by decide) (λsz tk J i=>match i with|0=>J 2 0+2|1=>J 2 1|_=>tk) (λz=>rfl) λsz tk J=>aLo ..;exact⟨rfl,by decide,JI (aE H (dG ..)) rfl,λa z z=>⟨rfl,by decide,JI (aE H (by decide)) rfl,λb z z=>⟨rfl,by decide,JI (aE H (by decide)) rfl,λz z z=>True.intro⟩⟩⟩
 exact λu s ak R J H z Z=>Y u s ak R J H (λL h=>nomatch h) Z
def FD.next(d:FD)(p:Pr)(f tk:Nat):FD:=nc (⟨d.D,p.x,p.t,p.i,p.u,(match f with
 |2=>tk|_=>d.k8),match f with
 |2=>tk+1|_=>d.k9⟩)
variable {next:aM}
section
variable (w:aj)(k:FK)(R L W I:af)(i:Nat)(r:FR)(d:FD)(p:Pr)(sz tk:Nat)(σ:Xs)
theorem aLt(a:af):bA ((aI w 0 0 none 300).S [] σ ⟨[(I,dh R i)],sz,tk,[1], .nil⟩ (uU (mL (nE fE 1) 3) (.ref I) (.ref a)) fin) (.ok (),[(I,dh R i)],sz,tk):=by kernel_rfl
theorem aLu(f:Nat)(H:f=2\/f=3):Ends [3,4] ((aI w 0 0 none 600).S [] σ ⟨[p.e,(L,jX w k R r d f)],sz,tk,(dN 40 0x294a50842208401004211042008021088210040108020f8421), .nil⟩ (pF (mL (nE fE 1) 3) (jW L) (.ref p.a)) fin) (.ok (),[p.e,(L,jX w k R r (d.next p f tk) 3)].map some,sz+3,tk+2):=by rcases H with rfl|rfl<;>kernel_rfl
def Te(r:FR)(d:FD)(W:af)(Z:List ag)(we:Nat)(Y J H:Str):aF:=A8 d.ky d.tk r.dr r.t2 Y λa=>JU d.fg J d.tf λb=>A8 J (b 2) r.dr r.t2 H λc=>JT [1,0] W (c 0) Z [.str Y (a 2), .str H (c 2)] we 0 λx=> .nil
theorem aLv(H:List ag)(we:Nat)(Y Z J:Str):Ends [1,2,3] ((aI w 2 0 none 900).S [] σ ⟨[(W,aA H we),(L+1,iE W),(L,jX w k R r d 3)],sz,tk,(dN 28 0x108030005f00000000600004018c0108422),Te r d W H we Y Z J⟩ (aV (nE (nE fE 1) 3) (jW L)) fin) (.ok .next,[(W,aA (H++[ag.str Y (σ 0 2),ag.str J (σ 2 2)]) (we+1)),(L+1,iE W),(L,jX w k R r d 3)].map some,σ 3 0,σ 3 1):=by kernel_rfl
end
def jz(p:Option Str)(u:ab):List Value:=nc (match p with
 |none=>[]|some x=>[ag.str x u])
abbrev uq(q:Nat×Nat):List (af×ar):=[(q.1+5,lM q.1 q.2)]
noncomputable abbrev TG.run(G:TG)(rs:Bool):TG:={ G with rs:=rs,rn:=false }
def JV(w:aj)(n:Nat)(xs:List Nat)(k:Nat)(b:Bool)(p:Option Str)(d:Int)(r g Z:UInt64)(l:List (Nat×ab))(H:List Str)(l':List (Nat×ab))(W':List Nat):Prop:=∀(G:TG)(S:SX)(X:LX)(q:Nat×Nat)(de e2:Nat)(u t1 t2 J Y:ab),fQ G S xs k->G.b=b->S.wv.length+H.length<=880->nW w (Eg X G d r g Z t1 t2 J Y) n (gv w (iC (q.1+5)) (G.run true) S (jz p u) de X l [] e2++(G.ro++uq q))
   (λy=>⟨.ok (.ret .none),(Sk w (iC (q.1+5)) (G.run true) S X H l' W' (X.n+(aL l - aL l')) false y).post++(G.ro++uq q),[],y 0,y 1⟩)
inductive rE(w:aj)(n:Nat)(xs:List Nat)(k:Nat)(b:Bool)(dp:Int)(r g bl:UInt64)(l2:List (Nat×ab))(W2:List Nat)(p2:Option Str):Nat->Option Str->List (Nat×ab)->List Nat->List Str->Prop
 |stop (κ:Nat) (d:Int):StopW κ W2 d dp->rE w n xs k b dp r g bl l2 W2 p2 0 p2 l2 W2 []
 |Tf {m p l W o1 l1 W1 o2:_} (d:Int):W≠[]->W.length<=640->uO ⟨W.toArray⟩=some d->¬d<=dp->JV w n xs k b p d r g bl l o1 l1 W1->rE w n xs k b dp r g bl l2 W2 p2 m none l1 W1 o2->rE w n xs k b dp r g bl l2 W2 p2 (m+1) p l W (o1++o2)
theorem fQ.bV{G:TG}{S:SX}(H:fQ G S xs k)(b:Bool)(o:List Str)(y z:Nat->Nat):fQ (G.bV b y) (S.bV o z) xs k:=⟨λta h=>have g:=H.ok ta h;⟨g.hy,g.js,g.jS,g.mF,g.oA,g.hz,g.tN,g.ra,g.rb,g.rf,g.rh⟩,λx J=>have t:=H.tag x J;⟨t.hx,t.nj,t.fX,t.hex⟩,H.us,H.ps,H.hk,H.hd,H.hn,H.hl⟩
abbrev Er(w:aj)(q:Nat×Nat)(T:TF)(G:TG)(S:SX)(X:LX)(D:DS)(H:HS)(f:Nat)(Z:List (Nat×ab))(u:ab)(p:Option Str)(l:List (Nat×ab))(W:List Nat)(Y:List Str)(J:Nat->Nat)(ky:List Nat)(ty:ab):List (af×ar):=gv w (iC (q.1+5)) (G.bV false J) (S.bV Y J) (jz p u) (J 7) (X.bV (X.n+(aL Z - aL l)) J) l [.str ⟨W.toArray⟩ (J 22)] (J 10)++jy w T G X { D with ky:=ky,ty:=ty } H f
noncomputable def wq(H J:Nat->Nat):Nat->Nat:=λi=>if i< 100 then H i else J i
theorem Es(a:List Str)(J H:Nat->Nat):bn a (wq J H)=bn a H:=by unfold bn wq;exact jH λi=>rR (gB) (rR (gB) (rR (if_neg (dA.mpr (fG ..))) rfl))
theorem aLw{k:KX}{h:aw}(ok:k.Ok w)(hL:k.aa.objs.size<=k.L)(hn:k.dp+n< bk)(Tg:k.dp+2<=bk)(hU:k.un+40*n< dQ)(aZ:∀b o,k.aa.get? b=some o->h.get? b=some o){T:TF}(hT:T.L=k.L){G:TG}{S:SX}{D:DS}{H:HS}(hf:f=1\/f=2){q:Nat×Nat}{l0 l l2:List (Nat×ab)}{W2:List Nat}{p p2:Option Str}{m:Nat}{Z J:List Str}(b6:∀p∈G.ro++uq q,h.get? p.1=some p.2/\p.1≠k.L/\k.aa.get? p.1=none)(f7:((G.ro++uq q).map (·.1)).Nodup)(SK:fQ G S xs kk)(hz:S.wv.length+(Z++J).length<=880)(KR:rE w n xs kk G.b T.dp D.r D.g D.b l2 W2 p2 m p l W J){Y:Nat->Nat}{ky:List Nat}{ty:ab}(SR:ax True h ak (Er w q T G S X D H f l0 u p l W Z Y ky ty) s)(hR:∀y s',ax True h ak (Er w q T G S X D H f l0 u p2 l2 W2 (Z++J) y W2 (y 2)) s'->ik s.heap s'.heap->R (.ok .next) s'):eH (av w) k.bE (.whileLoop Ei Eh [] (kC T.L)) R s:=by
 have XK:aK w h:=λb o e=>aZ _ _ (ok.X b o e);have NL:=ok.T.nolimit.keeps aZ;refine aXl (λm s'=>∃p l W a b Y ky ty,rE w n xs kk G.b T.dp D.r D.g D.b l2 W2 p2 m p l W b/\a++b=Z++J/\ax True h ak (Er w q T G S X D H f l0 u p l W a Y ky ty) s'/\ik s.heap s'.heap) ?_ m ⟨p,l,W,Z,J,Y,ky,ty,KR,rfl,SR,λb o e=>⟨o,e⟩⟩;rintro m s1 ⟨p,l,W,a,b,Y,ky,ty,KR,eo,SR,lv⟩;refine gL SR XK rfl 0 0 300 [] .nil (λz=>True.intro) nofun (a8 _) _ _ _ _ (λσ=>aKr ..) λσ s2 S2 z z G2=>?_
 induction KR with
 |stop κ d hs=>
  obtain rfl:a=Z++J:=by simp only[<-eo,dR]
  have S3:ax True h ak (((X.bV _ Y).ip w [.str ⟨W2.toArray⟩ _] _++jy w T G _ { D with ky:=ky,ty:=ty } H f)++(mK w _ _ _ _ _++((X.bV _ Y).led w l2).drop 2)) s2:=lO S2 (ix:=[9,10,17,18,0,1,2,3,4,5,6,7,8,11,12,13,14,15,16]) (by decide) rfl;refine fO S3 XK NL rfl 2 500 _ [0,1,2,3] _ (λaP z X2 N2 z=>aKx X2 N2 hs) Tg (by decide) _ _ _ _ (λσ=>aKn w T G _ W2 d _ _ { D with ky:=ky,ty:=ty } H f hf κ (hs.way.imp And.left And.left) ..) λσ s3 S4 z z JW=>?_;let y:=wq (λi=>match i with|2=>Y 22|10=>Y 10+2|i=>Y i) Y;refine hR y s3 ?_ (lv.trans (G2.live.trans JW));have ew:S.wv++bn (Z++J) y=S.wv++bn (Z++J) Y:=by rw[Es]
  show ax True h ak (gv w _ _ { S with wv:=S.wv++bn _ y,we:=Y 8,dD:=Y 9 } _ _ _ l2 [.str ⟨W2.toArray⟩ _] _++jy w T G X { D with ky:=W2,ty:=Y 22 } H f) s3;exact rR ew (lO S4 (ix:=[4,5,6,7,8,9,10,11,12,0,1,13,14,15,16,17,18,2,3]) (by decide) rfl)
 |@Tf m p l W o1 l1 W1 o2 d h1 h2 h3 h4 ht KR=>
  have e0:(W.toArray.toList==([]:List Nat))=false:=by
   induction W with
   |nil=>exact absurd rfl h1|cons _ _=>rfl
  have hlen:(S.bV a Y).wv.length+o1.length<=880:=by have:=congrArg Mz eo;rw[bQ,bQ]at this;exact rR (bQ ..) (rR (yk ..) (nB [_,_,_,_,_] [lE (Y0+Y3) 880,eQ (Y1+(Y2+Y4)) Y3] (lE (Y0+Y1+Y2) 880) rfl hz this))
  refine wp_run S2 XK rfl 2 0 500 Sr _ _ (λz=>?_) (λz=>⟨NL,Tg⟩) (a8 _) uW _ _ _ _ (λσ=>aKo w T _ _ _ _ _ _ l W d _ _ { D with ky:=ky,ty:=ty } H f hf false o1 l1 W1 (X.n+(aL l0 - aL l)+(aL l - aL l1)) ..) λσ s3 S3 z z G3=>?_
  ·refine⟨rfl,by decide,CQ XK NL _ _ _ none _,λJ z z=>dC e0 λz z=>⟨rfl,bN,CU XK NL W d _ h2 h3,λi z z=>Sz (decide_eq_false h4) λz z=>⟨rfl,bN,CU XK NL W d _ h2 h3,λj z z=>⟨rfl,uW,?_,λz z z=>True.intro⟩⟩⟩⟩;simp only[hT];exact q8 (ht _ _ _ q _ _ u (j 2) D.tr D.tg D.tb (SK.bV ..) rfl hlen) ok hL hn hU aZ (.refl _) b6 f7 (λz=>⟨rfl,rfl,rfl,rfl, .refl _⟩) (λz=>rfl)
  ·refine⟨m,wW _,none,l1,W1,a++o1,o2,mI a.length (σ 5) Y (σ 5),W,Y 22,KR,by rw[bH];exact eo,?_,lv.trans (G2.live.trans G3.live)⟩;have J:S.wv++bn a Y++bn o1 (σ 5)=S.wv++bn (a++o1) (mI a.length (σ 5) Y (σ 5)):=by simp only[ue,bH]
   have e2:X.n+(aL l0 - aL l)+(aL l - aL l1)=X.n+_:=bw (Cc [] (lE (Y0+(Y1-Y2)+(Y2-Y3)) (Y0+(Y1-Y3))) rfl) (Cc [] (lE (Y0+(Y1-Y2)) (Y0+(Y1-Y3)+(Y3-Y2))) rfl);rw[e2]at S3;show ax True h ak (gv w _ _ { S with wv:=S.wv++bn _ _,we:=σ 5 8,dD:=σ 5 9 } [] _ _ l1 [.str ⟨W1.toArray⟩ _] _++jy w T G X { D with ky:=W,ty:=Y 22 } H f) s3;exact J▸S3
def eX(i:Int):List Nat:=nc ((gD (toString i)).cps.toList)
theorem aLx(i:Int):gD (toString i)=aW (eX i):=rfl
structure yt(W:List Nat):Prop where
 l:W.length<=2
 a:∀c∈W,c< 128
def oW(dr:Nat)(p:Pr):List Str:=[aW (gK dr p.x.cps.toList),aW (gK dr (eX p.i))]
structure A9(p:Pr):Prop where
 x:yt p.x.cps.toList
 i:yt (eX p.i)
 n:p.i.natAbs.log2< 1920
theorem Th{i:Int}(H:i.natAbs.log2< 1920)(k:bJ next ao w A U fr aa):(JU i (aW (eX i)) t next).Ok ao (av w) A U fr aa lv:=Sy H (aLx i) k
theorem Et(Y:aK w aa)(J:aa.NoLimit)(hd:dr=0\/dr=1\/dr=2)(H:yt W)(k:bJ next True w A U fr aa):(A8 (aW W) t dr u (aW (gK dr W)) next).Ok True (av w) A U fr aa lv:=⟨rfl,bN,aLj Y J dr hd W H.l H.a t u,λx z z=>k x _⟩
theorem Ti{l m:af}{a b:List ag}(J:ix.length=2)(H:ix.Nodup)(Z:a.length+b.length<=100000)(Y:0< b.length)(c:bJ next ao w A U fr aa):(JT ix l m a b e k next).Ok ao (av w) A U fr aa lv:=⟨J,H,λH z z=>aK0 l m a b e k Z Y,λx z z=>c x _⟩
noncomputable def mN(f n:Nat):Nat:=match n with
 |0=>f|_=>3
abbrev Eu(w:aj)(k:FK)(R L W:af)(r:FR)(d:FD)(f:Nat)(H:List ag)(we:Nat)(P:List (af×ar)):List (af×ar):=(W,aA H we)::(L+1,iE W)::(L,jX w k R r d f)::P
noncomputable def FD.at_(d:FD)(H:List Pr)(y:Nat->Nat):FD:=match H.getLast? with
 |none=>d|some p=>⟨d.D,p.x,p.t,p.i,p.u,y 14,y 15⟩
abbrev aLy(w:aj)(k:FK)(R L W I:af)(r:FR)(d:FD)(f Y:Nat)(H:List Pr)(J:List ag)(we:Nat)(P:List (af×ar)):(Nat->Nat)->Out:=λy=>⟨.ok .next,(I,jV H.length)::(d.D,aA (H.map λp=>aN p.a) Y)::Eu w k R L W r (d.at_ H y) (mN f H.length) (J++bn (H.flatMap (oW r.dr)) y) (we+H.length) P,[],y 0,y 1⟩
open Classical in
theorem JX(I D W c F s p t:List α):cH (I++(D++(W++(c++(F++(s++(p++t))))))) (p++(F++(I++(D++(W++(c++(s++t))))))):=by rw[jg];intro x;simp only[ig];ac_rfl
open Classical in
theorem Tj(I D W c F s p t:List α):cH (p++(F++(I++(D++(W++(c++(s++t))))))) (W++(c++(F++(I++(D++(p++(s++t))))))):=by rw[jg];intro x;simp only[ig];ac_rfl
open Classical in
theorem Tk(I D W c F s p t:List α):cH (W++(c++(F++(I++(D++(p++(s++t))))))) (I++(D++(W++(c++(F++(s++(p++t))))))):=by rw[jg];intro x;simp only[ig];ac_rfl
theorem aLz(XK:aK w aa)(NL:aa.NoLimit)(hA:A.handled=none)(hd:A.depth+2<=bk)(k:FK)(R L W I:af)(r:FR)(hr:r.dr=0\/r.dr=1\/r.dr=2)(d:FD)(f:Nat)(hf:f=2\/f=3)(de:Nat)(H:List Pr)(H6:∀p∈H,A9 p)(Y:List ag)(we:Nat)(fq:Y.length+2*H.length<=1000)(P:List (af×ar))(hP:∀p∈H,p.e∈P):Told True (av w) A U fr aa (Td L I) ((I,dh d.D 0)::(d.D,aA (H.map λp=>aN p.a) de)::Eu w k R L W r d f Y we P) (aLy w k R L W I r d f de H Y we P):=by
 refine aKz hA (λi led=>∃y,led=Eu w k R L W r (d.at_ (H.take i) y) (mN f i) (Y++bn ((H.take i).flatMap (oW r.dr)) y) (we+i) P) ⟨λz=>0,?_⟩ ?_ ?_
 ·show _=Eu w k R L W r d f (Y++[]) we P;rw[dR]
 ·intro u aq i x led s ak Q E hu aZ Z hJ SR hQ;obtain⟨y,rfl⟩:=hJ;rw[dP]at Z;induction hp:H[i]? with
  |none=>replace Z:=hp▸Z;injection Z|some p=>
   rw[hp]at Z;obtain rfl:aN p.a=x:=dH Z;have hm:=jb hp;have hi:=(r9.mp hp).1;refine hO λZ aY=>?_;obtain⟨hx1,hx2,hx3⟩:=H6 p hm;refine ve (F7 (hP p hm)) λP1 P2 eq1=>?_;subst eq1;refine aY ?_;have X1:aK w aq:=λb o e=>aZ _ _ (XK b o e);have aU:=NL.keeps aZ;refine du SR X1 aU hA 0 300 [1] .nil (λz z z z z=>True.intro) (aE (fG _ 2) hd) _ _ _ _ (λσ=>aLt ..) λz s1 S1 z z z=>?_;have f1:mN f i=2\/mN f i=3:=by
    unfold mN;split;·exact hf
    ·exact .inr rfl
   refine fO (ro:=_::_::_::_::(P1++P2)) (bj S1 (JX [_] [_] [_] [_] [_] P1 [p.e] P2)) X1 aU hA 0 600 _ _ .nil (λz z z z z=>True.intro) (aE (fG _ 2) hd) (by decide) _ _ _ _ (λσ=>aLu w k R L r _ p _ _ σ _ f1) λσ Z S3 z z z=>?_;let J:=(d.at_ (H.take i) y).next p (mN f i) s1.toks;have JY:(Y++bn ((H.take i).flatMap (oW r.dr)) y).length<=1000:=by
    simp only[bQ,yk];have:((H.take i).flatMap (oW r.dr)).length=2*(H.take i).length:=by
     induction H.take i with
     |nil=>rfl|cons a l ih=>simp only[jh,bQ,ih,eI];exact c8 (bu [] (lE (2+(Ax.m 2 Y0)) (Ax.m 2 (Y0+1))) rfl) (bu [] (lE (Ax.m 2 (Y0+1)) (2+(Ax.m 2 Y0))) rfl)
    exact rR this (rR wY (lr [lE (Y0+(Ax.m 2 Y2)) 1000,lL Y3 Y2,eQ Y1 Y3] (lE (Y0+(Ax.m 2 Y1)) 1000) [1,2,2] 1 rfl fq hi (rZ (cT hi))))
   refine fO (ro:=_::_::p.e::_) (bj S3 (Tj [_] [_] [_] [_] [_] P1 [_] P2)) X1 aU hA 2 900 _ _ (Te r J ..) (λaP z X2 Z z=>Et X2 Z hr hx1 λz z=>Th hx3 λz z=>Et X2 Z hr hx2 λz z=>Ti rfl (by decide) (bu [lE Y0 1000] (lE (Y0+2) 100000) rfl JY) (by show 0< 2;decide) λz z=>True.intro) hd (by decide) _ _ _ _ (λσ=>aLv ..) λZ s3 S5 z z z=>hQ _ s3 ⟨mI ((H.take i).flatMap (oW r.dr)).length (λj=>match j with|14=>J.k8|15=>J.k9|_=>0) y (λj=>match j with|100=>Z 0 2|_=>Z 2 2),?_⟩ (bj S5 (Tk [_] [_] [_] [_] [_] P1 [_] P2));have et:H.take (i+1)=H.take i++[p]:=by refine rR Gd (rR hp ?_);rfl
   refine rR (et ..) (rR (za ..) (rR (jh ..) (rR (nS ..) (rR (dR ..) (rR (ue ..) (rL (bH Y ..) ?_))))));have e1:mN f (i+1)=3:=rfl;have e2:d.at_ (H.take i++[p]) (mI ((H.take i).flatMap (oW r.dr)).length (λj=>match j with|14=>J.k8|15=>J.k9|_=>0) y (λj=>match j with|100=>Z 0 2|_=>Z 2 2))=J:=by
    unfold FD.at_;rw[List.getLast?_concat];show FD.mk d.D p.x p.t p.i p.u J.k8 J.k9=J;have eD:(d.at_ (H.take i) y).D=d.D:=by unfold FD.at_;split<;>rfl
    show _=FD.mk (d.at_ _ y).D p.x p.t p.i p.u J.k8 J.k9;exact rR eD rfl
   refine rR e1 (rR e2 ?_);rfl
 ·rintro led s ⟨y,rfl⟩;refine rR (dB ..) (rR (BV ..) ?_);exact⟨wq _ y,rfl,by
   have e2:d.at_ H (wq (λj=>match j with|0=>s.heap.objs.size|1=>s.toks|j=>y j) y)=d.at_ H y:=by unfold FD.at_;split<;>rfl
   show Out.mk _ _ [] _ _=_;refine rR (Es ..) (rR e2 ?_);rfl⟩
noncomputable abbrev jY(r:FR)(sz tk:Nat):Pr:=⟨sz,"h",tk,r.tu,r.t3⟩
noncomputable abbrev jZ(r:FR)(sz tk:Nat):Pr:=⟨sz+1,"s",tk+1,r.sh,r.t4⟩
noncomputable abbrev j0(r:FR)(sz tk:Nat):Pr:=⟨sz+2,"v",tk+2,r.va,r.t5⟩
def rvV(H:Bool)(J:List ag):List Value:=nc (match H with
 |true=>J.reverse|false=>J)
structure DO where
 io:(Nat->Nat)->ar
 do_:(Nat->Nat)->ar
 wo:(Nat->Nat)->ar
 fo:(Nat->Nat)->ar
def JZ(w:aj)(k:FK)(R L W:af)(r:FR)(d:FD)(f:Nat)(Z:List ag)(we:Nat)(sz tk:Nat)(dv:List ag)(de:Nat)(H J Y:Str)(g:(Nat->Nat)->(Nat->Nat)->(Nat->Nat)->DO)(ft:Nat->ar)(c:Nat->Nat):aF:=JU r.dp H r.t0 λa=>A8 H (a 2) r.dr r.t2 J λb=>A8 (aW r.nm) r.t1 r.dr r.t2 Y λH=>JT [8,0] W (H 0) Z [.str J (b 2), .str Y (H 2)] we 0 λx=>
 .cons (some 2) (Td L (x 0)) [0,3,9,10,11,8,7,6] [(x 0,dh (sz+5) 0),(sz+5,aA dv de),(W,aA (Z++[ag.str J (b 2),ag.str Y (H 2)]) (we+1)),(L+1,iE W),(L,ft (c 1)),(jY r sz tk).e,(jZ r sz tk).e,(j0 r sz tk).e] (λy=>⟨.ok .next,[(x 0,(g c b H).io y),(sz+5,(g c b H).do_ y),(W,(g c b H).wo y),(L+1,iE W),(L,(g c b H).fo y),(jY r sz tk).e,(jZ r sz tk).e,(j0 r sz tk).e],[],y 0,y 1⟩) λ_=> .nil
def Ev(w:aj)(k:FK)(R:af)(r:FR)(d:FD)(f D:Nat)(t:Nat):Obj:=match f with
 |1=>jX w (λi=>bif bZ i.val 7 then t else k i) R r { d with D:=D } 2|2=>jX w k R r { d with D:=D } 2|_=>jX w k R r { d with D:=D } 3
def Tl(w:aj)(k:FK)(R L W:af)(r:FR)(d:FD)(f:Nat)(Y:Bool)(ws:List ag)(we:Nat)(sz tk:Nat)(H:List ag)(J:Nat)(s1 Z s3:Str)(g:(Nat->Nat)->(Nat->Nat)->(Nat->Nat)->DO):aF:=aLp [0,1,2,3,6,5,4] w L (sz+6) (sz+5) (sz+4) (sz+3) (jY r sz tk) (jZ r sz tk) (j0 r sz tk) H J λc=>match Y with
  |true=>Ep r.tu 2 1 r.t3 (c 1+1) λm=>aLq 1 (sz+5) H J λv=>JZ w k R L W r d f ws we sz tk H.reverse J s1 Z s3 g (Ev w k R r d f (sz+5)) c|false=>Ep r.tu 2 0 r.t3 (c 1+1) λm=>JZ w k R L W r d f ws we sz tk H J s1 Z s3 g (Ev w k R r d f (sz+5)) c
def aL0(H:Bool):List Nat:=(dN 21 0x7c4a0842a50820083e109483)++((match H with
 |true=>[10,2,2,2,2,2]|false=>[])++(dN 37 0x208060f8c6b1080a5004050002f80000000a0000842109))
def rF(H:Bool):Nat:=nc (match H with
 |true=>7|false=>6)
noncomputable def rG(f:Nat):Nat:=match f with
 |0=>1|2=>2|_=>3
def Tm(k:FK)(f tk:Nat):FK:=nc (match f with
 |0=>λi=>bif bZ i.val 0 then k 0 else tk+(i.val - 1)|_=>k)
section
variable (w:aj)(k:FK)(R L W:af)(r0 r:FR)(d:FD)(sz tk:Nat)(σ:Xs)
theorem aL1(f:Nat)(H:f=0\/f=2\/f=3):Ends [3,4] ((aI w 0 0 none 600).S [] σ ⟨[(r.a,r.o),(L,jX w k R r0 d f)],sz,tk,(dN 84 0x294a5294a5294a50842208401004211042008021088210040108441080200842208401004211042008021088210040108020f8421), .nil⟩ (pF (mL fE 1) (jW L) (.ref r.a)) fin) (.ok (),[(r.a,r.o),(L,jX w (Tm k f tk) R r d (rG f))].map some,sz+3,tk+6):=by rcases H with rfl|rfl|rfl<;>kernel_rfl
theorem aL2(I:af)(i:Nat)(a:af):bA ((aI w 0 0 none 300).S [] σ ⟨[(I,dh R i)],sz,tk,[1], .nil⟩ (uU (mL fE 1) (.ref I) (.ref a)) fin) (.ok (),[(I,dh R i)],sz,tk):=by kernel_rfl
theorem aL3(f:Nat)(Y:f=1\/f=2\/f=3)(H:Bool)(J:List ag)(we:Nat)(dv:List ag)(de:Nat)(s1 s2 Z:Str)(g:(Nat->Nat)->(Nat->Nat)->(Nat->Nat)->DO):Ends [9,10,11] ((aI w 4 0 none 900).S [] σ ⟨[(W,aA J we),(L+1,iE W),(L,jX w k R r d f)],sz,tk,aL0 H,Tl w k R L W r d f H J we sz tk dv de s1 s2 Z g⟩ (aV (nE fE 1) (jW L)) fin) (.ok .next,[(W,(g (σ 0) (σ (rF H - 3)) (σ (rF H - 2))).wo (σ (rF H))),(L+1,iE W),(L,(g (σ 0) (σ (rF H - 3)) (σ (rF H - 2))).fo (σ (rF H)))].map some,σ (rF H) 0,σ (rF H) 1):=by rcases Y with rfl|rfl|rfl<;>induction H<;>kernel_rfl
end
theorem Tn{tg:cY}{l:af}{ul:List (af×ar)}(hA:A.handled=none)(J:Nat->List (af×ar)->Prop)(h0:J 0 ul)(SR:ax True aq ak ((I,dh l 0)::(l,aA vs e)::ul) s)(Y:∀(i:Nat)(x:ag)(led:List (af×ar))(s:am)(Q:dm->am->Prop)(E:ag->am->Prop),vs[i]?=some x->J i led->ax True aq ak ((I,dh l (i+1))::(l,aA vs e)::led) s->(∀Z s',J (i+1) Z->ax True aq ak ((I,dh l (i+1))::(l,aA vs e)::Z) s'->Q .next s')->aG (av w) A (uU tg (.ref I) x) (λ_ s=>aG (av w) A (pF tg env x) (λ_ s=>aG (av w) A (aV body env) Q E s) E s) E s)(dq:∀(led:List (af×ar))(s':am),J vs.length led->ax True aq ak ((I,jV vs.length)::(l,aA vs e)::led) s'->R (.ok .next) s'):eH (av w) A (.forLoop tg (.ref I) body [] env) R s:=by
 refine Xo (λn s'=>∃i led,n=vs.length - i/\i<=vs.length/\J i led/\ax True aq ak ((I,dh l i)::_::led) s') ?_ _ ⟨0,ul,rfl,f4 _,h0,SR⟩;rintro n J ⟨i,led,rfl,hi,hJ,S1⟩;have hI:=S1.h.at_ _ ay;have hl:=S1.h.at_ _ (aB ay);induction H:vs[i]? with
 |some x=>have bp:=(r9.mp H).1;refine I8 hI hl H λh' e1 sb=>?_;exact Y i x led _ _ _ H hJ (q7 (pre:=[]) S1 e1 sb.extBut) λZ s' JH S'=>⟨vs.length - (i+1),lr [eQ (Y0+(Y2+1)) Y3,eQ (Y1+Y2) Y3] (lL Y0 Y1) [1,-1] 1 rfl (bY (aT [lL Y0 Y1] (lE (Y0+1) Y1) rfl bp)) (bY (hi)),i+1,Z,rfl,bp,JH,S'⟩|none=>obtain rfl:i=vs.length:=c8 hi (aXe.mp H);exact I9 hA hI hl H λh' e1 sb=>qC (dq led _ hJ (q7 (pre:=[]) S1 e1 sb))
def qk(b:Bool)(p:Pr):List Pr:=nc (match b with
 |true=>[]|false=>[p])
noncomputable def jA(r:FR):Bool:=decide (r.tu % 2=1)
def oX(r:FR)(sz tk:Nat):List Pr:=qk (b9 (jY r sz tk)) (jY r sz tk)++(qk (b9 (jZ r sz tk)) (jZ r sz tk)++qk (b9 (j0 r sz tk)) (j0 r sz tk))
noncomputable def rH(b:Bool)(l:List Pr):List Pr:=match b with
 |true=>l.reverse|false=>l
def cv(r:FR):List Str:=[aW (gK r.dr (eX r.dp)),aW (gK r.dr r.nm)]++(rH (jA r) (oX r 0 0)).flatMap (oW r.dr)
theorem aL4(r:FR)(sz tk:Nat):(rH (jA r) (oX r sz tk)).flatMap (oW r.dr)=(rH (jA r) (oX r 0 0)).flatMap (oW r.dr):=by unfold oX;show(rH _ (qk (b9 (jY r 0 0)) _++(qk (b9 (jZ r 0 0)) _++qk (b9 (j0 r 0 0)) _))).flatMap _=_;induction jA r<;>induction b9 _<;>induction b9 _<;>induction b9 _<;>rfl
theorem J0(b:Bool)(p:Pr):mM b p=(qk b p).map λp=>aN p.a:=by induction b<;>rfl
structure FR.Ok(r:FR):Prop where
 dr:r.dr=0\/r.dr=1\/r.dr=2
 dp:yt (eX r.dp)
 dn:r.dp.natAbs.log2< 1920
 nm:yt r.nm
 p0:A9 (jY r 0 0)
 p1:A9 (jZ r 0 0)
 p2:A9 (j0 r 0 0)
theorem FR.Ok.all{r:FR}(H:r.Ok)(sz tk:Nat):∀p∈rH (jA r) (oX r sz tk),A9 p/\(p=jY r sz tk\/p=jZ r sz tk\/p=j0 r sz tk):=λp J=>by
 have Y:p∈oX r sz tk:=by
  unfold rH at J;split at J;·exact X6.mp J
  ·exact J
 have k:∀b q,p∈qk b q->p=q:=λb q h=>by
  induction b with
  |true=>contradiction|false=>exact bI.mp h
 have c:p=jY r sz tk\/p=jZ r sz tk\/p=j0 r sz tk:=by
  rcases cr.mp Y with h|h
  ·exact .inl (k _ _ h)
  ·rcases cr.mp h with h|h
   ·exact .inr (.inl (k _ _ h))
   ·exact .inr (.inr (k _ _ h))
 refine⟨?_,c⟩;rcases c with rfl|rfl|rfl
 ·exact⟨H.p0.x,H.p0.i,H.p0.n⟩
 ·exact⟨H.p1.x,H.p1.i,H.p1.n⟩
 ·exact⟨H.p2.x,H.p2.i,H.p2.n⟩
noncomputable def To(b:Bool):Int:=match b with
 |true=>1|false=>0
theorem J4(H:¬(b==0)=true)(h:a.fmod b=m)(k:bJ next ao w A U fr aa):(Ep a b m t u next).Ok ao (av w) A U fr aa lv:=by subst h;exact dZ (λz=>eO PySem.F.slot_int_mod PySem.F.entry_int_mod (PySem.F.args_int_mod_2 _ _) (aZk a t b u H) (λs=>jK ..) λQ s k=>k _ _) λe z=>k e lv
theorem aL5(r:FR):r.tu.fmod 2=To (jA r):=by
 refine rR (Gh _ (by decide)) ?_;unfold jA To;have:=Int.emod_two_eq r.tu;rcases this with h|h
 ·refine rR h ?_;rfl
 ·refine rR h ?_;rfl
def J5(w:aj)(R L W:af)(rows:List FR)(P:List (af×ar))(i:Nat)(led:List (af×ar)):Prop:=∃(y:Nat->Nat)(e:Nat)(k:FK)(d:FD)(r:FR)(f:Nat),(f=0\/f=2\/f=3)/\led=(W,aA (bn ((rows.take i).flatMap cv) y) e)::(L+1,iE W)::(L,jX w k R r d f)::P
theorem aL6(r:FR):(cv r).length<=8:=by unfold cv oX;induction jA r<;>induction b9 _<;>induction b9 _<;>induction b9 _<;>exact dk rfl
theorem J6:∀rows:List FR,(rows.flatMap cv).length<=8*rows.length
 |[]=>a8 _|r::l=>by simp only[jh,bQ,eI];exact aE (Fx (aL6 r) (J6 l)) (qu (LO ..))
theorem aL7(X1:aK w aq)(aU:aq.NoLimit)(hA:A.handled=none)(hd:A.depth+4<=bk)(hU:A.units+20< dQ){R W:af}(nf:∀r∈rows,r.Ok)(hlen:rows.length<=10){P:List (af×ar)}(hP:∀r∈rows,(r.a,r.o)∈P){x:ag}(hx:(rows.map λr=>aN r.a)[i]?=some x)(hJ:J5 w R L W rows P i led)(SR:ax True aq ak ((I,dh R (i+1))::(R,aA (rows.map λr=>aN r.a) re)::led) s)(hQ:∀jj s',J5 w R L W rows P (i+1) jj->ax True aq ak ((I,dh R (i+1))::(R,aA (rows.map λr=>aN r.a) re)::jj) s'->Q .next s'):aG (av w) A (uU (mL fE 1) (.ref I) x) (λ_ s=>aG (av w) A (pF (mL fE 1) (jW L) x) (λ_ s=>aG (av w) A (aV (nE fE 1) (jW L)) Q E s) E s) E s:=by
 obtain⟨y,e,k,d,r0,f,hf,rfl⟩:=hJ;replace hx:=(dP)▸hx;induction hp:rows[i]? with
 |none=>replace hx:=hp▸hx;injection hx|some r=>
  rw[hp]at hx;obtain rfl:aN r.a=x:=dH hx;have hm:=jb hp;have ok:=nf r hm;refine ve (F7 (hP r hm)) λP1 P2 eq1=>?_;subst eq1;have d0:=aT [lE (Y0+4) Y1] (lE (Y0+0) Y1) rfl hd;refine du SR X1 aU hA 0 300 [1] .nil (λ_ _ _ _ _=>True.intro) d0 _ _ _ _ (λJ=>aL2 w R _ _ J I _ r.a) λ_ s1 S1 _ _ _=>fO (ro:=_::_::_::_::(P1++P2)) (bj S1 (JX [_] [_] [_] [_] [_] P1 [(r.a,r.o)] P2)) X1 aU hA 0 600 _ _ .nil (λ_ _ _ _ _=>True.intro) d0 (by decide) _ _ _ _ (λJ=>aL1 w k R L r0 r d _ _ J f hf) λJ s2 S3 _ _ _=>?_;have f1:rG f=1\/rG f=2\/rG f=3:=by rcases hf with rfl|rfl|rfl<;>simp[rG]
  let k1:=Tm k f s1.toks;let sz:=s2.heap.objs.size;let tk:=s2.toks;let H:=rH (jA r) (oX r sz tk);let de:=nF (b9 (jY r sz tk))+nF (b9 (jZ r sz tk))+nF (b9 (j0 r sz tk));let dv:=mM (b9 (jY r sz tk)) (jY r sz tk)++(mM (b9 (jZ r sz tk)) (jZ r sz tk)++mM (b9 (j0 r sz tk)) (j0 r sz tk))
  have J7:dv=(oX r sz tk).map λp=>aN p.a:=by show _++_=qH _ (_++_);simp only[bM,bM,J0,J0,J0]
  let kk:(Nat->Nat)->FK:=λc=>match rG f with
   |1=>λi=>bif bZ i.val 7 then c 1 else k1 i|_=>k1
  let Y:Nat:=match rG f with
   |3=>3|_=>2
  have iV:Y=2\/Y=3:=by rcases f1 with h|h|h<;>simp only[Y,h]<;>simp
  let dd:={ d with D:=sz+5 }
  have efr:∀c,Ev w k1 R r d (rG f) _ (c 1)=jX w (kk c) R r dd Y:=λc=>by rcases f1 with h|h|h<;>simp only[kk,Y,h]<;>rfl
  let Ba:=bn ((rows.take i).flatMap cv) y;let J8:(Nat->Nat)->(Nat->Nat)->List Value:=λb c2=>Ba++[ag.str (aW (gK r.dr (eX r.dp))) (b 2),ag.str (aW (gK r.dr r.nm)) (c2 2)]
  let g:_->_->_->DO:=λc b c2=>⟨λ_=>jV H.length,λ_=>aA (H.map λp=>aN p.a) de,λz=>aA (J8 b c2++bn (H.flatMap (oW r.dr)) z) (e+1+H.length),λz=>jX w (kk c) R r (dd.at_ H z) (mN Y H.length)⟩;have Tp:Ba.length<=80:=by rw[yk];have:=J6 (rows.take i);rw[wY]at this;exact cA [lE Y1 10,lE Y0 (Ax.m 8 Y2),lE Y2 Y1] (lE Y0 80) [8,1,8] 1 rfl hlen this (aXm (i) _)
  have Z:∀{aP:aw}_ _(c:Nat->Nat)(lv:List af)(J9:List ag),J9=H.map (λp=>aN p.a)->(JZ w k1 R L W r d (rG f) Ba e sz tk J9 de _ _ _ g (Ev w k1 R r d _ _) c).Ok True (av w) A A.units none aP lv:=λX2 N2 c lv J9 hv=>by
   subst hv;refine Th ok.dn λa _=>Et X2 N2 ok.dr ok.dp λb _=>Et X2 N2 ok.dr ok.nm λc2 _=>Ti rfl (by decide) (bu [lE Y0 80] (lE (Y0+2) 100000) rfl Tp) (by show 0< 2;decide) λx _=>⟨rfl,by decide,λA' nX oq=>?_,λ_ _ _=>True.intro⟩;have hl:(J8 b c2).length+2*H.length<=1000:=by
    have h3:H.length<=3:=by show(rH _ (qk _ _++_)).length<=3;induction jA r<;>cases b9 _<;>cases b9 _<;>cases b9 _<;>exact dk rfl
    have:(J8 b c2).length=Ba.length+2:=bQ;exact cA [lE Y2 80,lE Y1 3,eQ Y0 (Y2+2)] (lE (Y0+(Ax.m 2 Y1)) 1000) [1,2,1] 1 rfl Tp h3 this
   have:=aLz (U:=A'.units) (fr:=none) X2 N2 nX (oq (by decide)) (kk c) R L W (x 0) r ok.dr dd Y iV de H (λp hp=>(ok.all sz tk p hp).1) _ (e+1) hl [(jY ..).e,(jZ ..).e,(j0 ..).e] (λp hp=>by
    rcases (ok.all sz tk p hp).2 with rfl|rfl|rfl
    ·exact ay
    ·exact aB ay
    ·exact aB (aB ay));exact rR (efr ..) this
  refine fO (ro:=_::_::_::(P1++P2)) (bj S3 (Tj [_] [_] [_] [_] [_] P1 [_] P2)) X1 aU hA 4 900 _ [9,10,11] (Tl w k1 R L W r d _ _ Ba e sz tk dv de (aW (eX r.dp)) (aW (gK r.dr (eX r.dp))) (aW (gK r.dr r.nm)) g) (λaP _ X2 N2 _=>?_) hd (by decide) _ _ _ _ (λJ=>aL3 w k1 R L W r d sz tk J _ f1 (jA r) ..) λJ s3 S5 _ _ _=>?_
  ·refine⟨rfl,by decide,aLs X2 N2 hA (aT [lE (Y0+4) Y1] (lE (Y0+2) Y1) rfl hd) (aT [lL (Y0+20) Y1] (lL (Y0+15) Y1) rfl hU) L _ _ _ _ _ _ _,λc _ _=>?_⟩;have em:=aL5 r;have Ew:H=rH _ _:=rfl;induction ho:jA r with
   |true=>rw[ho]at em Ew;refine J4 (by decide) em λm _=>⟨rfl,by decide,λA' _ _=>aK1 _ dv de (by rw[J7,dB];show(qk _ _++_).length<=1000;cases b9 _<;>cases b9 _<;>cases b9 _<;>exact dk rfl),λv _ _=>Z X2 N2 c _ _ ?_⟩;rw[J7,Ew];show(qH _ _).reverse=qH _ (aXn _);rw[aVg]|false=>rw[ho]at em Ew;refine J4 (by decide) em λm _=>Z X2 N2 c _ _ ?_;simp only[J7,Ew];rfl
  ·have S6:=bj S5 (Tk [_] [_] [_] [_] [_] P1 [_] P2);let n:=rF (jA r);have hf3:mN Y H.length=0\/mN Y H.length=2\/mN Y H.length=3:=by
    unfold mN;split
    ·rcases iV with h|h
     ·exact .inr (.inl h)
     ·exact .inr (.inr h)
    ·exact .inr (.inr rfl)
   refine hQ _ s3 ⟨mI ((rows.take i).flatMap cv).length (λ_=>0) y (mI 2 (λ_=>0) (λj=>match j with|100=>J (n - 3) 2|_=>J (n - 2) 2) (J n)),e+1+H.length,kk (J 0),dd.at_ H (J n),r,mN Y H.length,hf3,?_⟩ S6;have Y:rows.take (i+1)=rows.take i++[r]:=by refine rR Gd (rR hp ?_);rfl
   have Z:bn (cv r) (mI 2 (λ_=>0) (λj=>match j with|100=>J (n - 3) 2|_=>J (n - 2) 2) (J n))=[ag.str (aW (gK r.dr (eX r.dp))) (J (n - 3) 2),ag.str (aW (gK r.dr r.nm)) (J (n - 2) 2)]++bn (H.flatMap (oW r.dr)) (J n):=by unfold cv;exact rL (aL4 ..) (ue [aW _,aW _] ..)
   refine rR (Y ..) (rR (za ..) (rR (jh ..) (rR (nS ..) (rR (dR ..) (rR (ue ..) (rR (Z ..) (rL (bH (bn _ y) ..) ?_)))))));rfl
theorem aL8(k:Nat)(h:k<=1000):X7 (k:Int)=true:=by unfold X7;rw[decide_eq_true (kW (by decide) (bG k)),decide_eq_true (jF (show _<=1000 by exact(bK.mpr h)) (by decide))];rfl
theorem aL9(l:af)(vs:List ag)(i:Int)(k:Nat)(x:ag)(e:Nat)(t:ab)(J:X7 i=true)(hi:i=(k:Int))(hx:vs.toArray[k]?=some x):Told ao (av w) A U fr aa (bC "list.__getitem__" [.ref l, .int i t]) [(l,listOf vs.toArray e)] (λy=>⟨.ok (.ret x),[(l,listOf vs.toArray e)],[],y 0,y 1⟩):=by
 intro u s ak R hu H z hR;have Y:=H.h.at_ _ ay;have Z:s.heap.IsList l vs.toArray:=⟨_,Y,rfl,e,rfl⟩
 refine dK BU.plain W7 (BU.check _ _ _ _ _ _ _ _ Z.typeIs (W8 _ _) ?_);show aG _ _ (W9 _>>=_) ..;refine au (aWs J ?_);clear J;subst hi;refine au (au (wpAny_seqItemAt Y rfl (aH ?_)));refine rR hx (aH ?_);exact hR (λi=>bif bZ i 0 then s.heap.objs.size else s.toks) s rfl rfl rfl (λp J=>absurd J bi) ⟨H.h,H.os,H.gens,H.same⟩ λb o H J=>H
abbrev Ex(n:Nat)(t u v:ab):Obj:=nc (⟨.type "range",none, .fields #[.int 0 t, .int n u, .int 1 v],#[]⟩)
abbrev qm(x l:Int):Obj:=nc (⟨.type "range_iterator",none, .fields #[eJ x,eJ l,eJ 1],#[]⟩)
theorem aMa(r:af)(a b c:Int)(t u v:ab)(J:aXo a b c=true):Told True (av w) A U fr aa (bC "range.__iter__" [.ref r]) [(r,⟨.type "range",none, .fields #[.int a t, .int b u, .int c v],#[]⟩)] (λe=>⟨.ok (.ret (.ref (e 2))),[(r,⟨.type "range",none, .fields #[.int a t, .int b u, .int c v],#[]⟩)],[(e 2,⟨.type "range_iterator",none, .fields #[eJ a,eJ (aXp a b c),eJ c],#[]⟩)],e 0,e 1⟩):=by
 intro un s ak R hu H q Z;have Y:=H.h.at_ _ ay;unfold aXo at J;refine dK aXq.plain F.entry_range_iter (aXq.check _ _ _ _ _ _ _ _ (⟨_,Y,rfl⟩) (F.args_range_iter_1 _) (AutoRange.range___iter___range_1 r a b c t u v (by simp[J]) _ _ _ _ s ⟨Y,?_⟩));simp only[J,if_true];exact Z (λi=>match i with|0=>s.heap.objs.size+1|1=>s.toks|_=>s.heap.objs.size) { s with heap:=s.heap.push ⟨.type "range_iterator",none, .fields #[eJ a,eJ _,eJ c],#[]⟩ } (qv ..) rfl rfl (λp J=>by
  refine rR (bI.mp J) ?_;induction z:s.heap.get? s.heap.objs.size with
  |none=>rfl|some o'=>exact absurd (dJ z) (jI _)) ⟨H.h.alloc rfl,H.os,H.gens,H.same⟩ λb o e j=>cZ _ e
theorem aMb(r:af)(n:Nat)(t u v:ab)(hn:n<=1000):Told True (av w) A U fr aa (bC "range.__iter__" [.ref r]) [(r,Ex n t u v)] (λe=>⟨.ok (.ret (.ref (e 2))),[(r,Ex n t u v)],[(e 2,qm 0 n)],e 0,e 1⟩):=by
 have h:=aMa (w:=w) (A:=A) (U:=U) (fr:=fr) (aa:=aa) r 0 n 1 t u v (small_one (by decide) (by decide) (by omega) (iB [(n:Nat)] [lE Y0 1000] (lL Y0 4611686018427387904) rfl (bK.mpr hn)));have H:aXp 0 n 1=n:=by rw[rangeSize_one];split<;>omega
 rw[H]at h;exact h
def wu:PySem.Expr:=xE (pE fE[2]? 0) 1
def Kb:PySem.Expr:=xE wu 0
def Kc:PySem.Expr:=xE wu 1
def Tq:PySem.Expr:=xE wu 2
def Kd:Scope:=(eL wu).2.2
def Tr:Pos:=nc (wu.pos)
theorem aMc:wu= .ListComp Kb [⟨Kc,Tq,[],0⟩] Kd Tr:=by kernel_rfl
abbrev Ey(L C:af):Env:=XY Kd [("words",L+1)] C (jW L)
abbrev Ke(L I D C:af):Code:= .compStart wu 0 (.ref I) (.ref D) (Ey L C)
abbrev ur(w:aj)(t:ab)(i:Int)(u:ab):Obj:=nc (⟨.type "dict",none, .dict #[⟨aS w.params "k", .str "k" t, .int i u⟩] 1,#[]⟩)
def Bb(w:aj)(f:Nat)(t:ab)(i:Int)(u:ab):Obj:=match f with
 |0=>mG|_=>ur w t i u
abbrev aMd(j:Nat)(l:af)(vs:List ag)(i:Int)(x:ag)(e:Nat)(t:ab)(next:aM):aF:= .cons (some 0) (bC "list.__getitem__" [.ref l, .int i t]) [j] [(l,aA vs e)] (λy=>⟨.ok (.ret x),[(l,aA vs e)],[],y 0,y 1⟩) next
abbrev Ez(s:Str)(i:Int)(x:Nat)(t u:ab)(next:aM):aF:=cM "str.__getitem__" [.str s t, .int i u] (λk=> .str ⟨#[x]⟩ k) next
abbrev Kf:Str:=nc (" \n\t\r")
def Ts(W:af)(vs:List ag)(e:Nat)(i:Int)(u tk:ab)(S:Str)(H:ab)(m:Int)(c:Nat)(T:Str):aF:=aMd 2 W vs i (.str S H) e u λa=>Ep i 4 m u (a 1+1) λb=>Ez Kf m c (a 1) (b 2) λd=>cQ S ⟨#[c]⟩ T H (d 2) λ_=> .nil
theorem aMe(w:aj)(L C W:af)(t u:ab)(i:Int)(vs:List ag)(e sz tk:Nat)(S T:Str)(J:ab)(m:Int)(c:Nat)(H:Xs):Ends [0,1,2] ((aI w 2 0 none 600).S [] H ⟨[(C,ur w t i u),(L+1,iE W),(W,aA vs e)],sz,tk,[2,1,3,3,3,2,1,2,2,2],Ts W vs e i u tk S J m c T⟩ (fy Kb (Ey L C)) fin) (.ok (.str T (H 3 2)),[(C,ur w t i u),(L+1,iE W),(W,aA vs e)].map some,H 3 0,H 3 1):=by kernel_rfl
def Tt(f:Nat)(tk t:ab):Tok:=nc (match f with
 |0=>tk|_=>t)
theorem aMf(w:aj)(L C:af)(f:Nat)(J:f=0\/f=1)(t u Y:ab)(i H:Int)(sz tk:Nat)(Z:Xs):bA ((aI w 0 0 none 600).S [] Z ⟨[(C,Bb w f t H Y)],sz,tk,[1,1], .nil⟩ (pF Kc (Ey L C) (.int i u)) fin) (.ok (),[(C,ur w (Tt f tk t) i u)],sz,tk+1):=by rcases J with rfl|rfl<;>kernel_rfl
theorem aMg(w:aj)(D:af)(vs:List ag)(e:Nat)(v:ag)(sz tk:Nat)(H:Xs):bA ((aI w 0 0 none 300).S [] H ⟨[(D,aA vs e)],sz,tk,[2],il 0 D vs e v λ_=> .nil⟩ (call (.builtin "list.append") [.ref D,v]) fin) (.ok .none,[(D,aA (vs++[v]) (e+1))],H 0 0,H 0 1):=by kernel_rfl
section
variable {x:Int}{Q:Option ag->am->Prop}
theorem aMh(J:A.handled=none)(H:s.heap.get? I=some (qm x 0))(Z:∀h',h'.get? I=some (qm x 0)->yZ I s.heap h'->Q none { s with heap:=h' }):aG (aR prog w) A (y3 (.ref I)) Q E s:=by
 have Y:s.TypeIs (.ref I) "range_iterator":=⟨_,H,rfl⟩
 refine au (uN (wT Y aXr
  (qz aXr Y F.entry_range_iterator_next ?_ (F.args_range_iterator_next_1 _))));show aG _ _ (BQ _ 0>>=_) ..;refine au (jc H rfl (x:=eJ x) rfl ?_);refine au (jc H rfl (x:=eJ 0) rfl ?_);refine au (jc H rfl (x:=eJ 1) rfl ?_);show aG ..;refine au (qy ?_);refine au (au ?_);refine au (kd ?_ (by size_fits));refine au (je (a:=ag.none) (by first|rfl|(rfl)) ?_);refine kd ?_ (by size_fits);refine au (FQ ?_);first|refine rR (show A.in1.handled=none from J) ?_|rw[J]
 refine au (aH (FS ?_));refine au (mU ⟨_,gZ _ rfl,rfl⟩ FV ?_);exact aH (Z _ (cZ _ (cZ _ H)) (((aZl I s.heap).push _).push _))
end
def iF(H:List Str):List Str:=H.mapIdx λk s=>s++⟨#[lC k]⟩
theorem aMi:∀k:_root_.Fin 4,(pC ((k.val:Nat):Int) Kf.length).bind (Kf.cps[·]?)=some (lC k.val)/\(decide (((k.val:Nat):Int)< -(2 ^ 63:Int))||decide (((k.val:Nat):Int)>=2 ^ 63))=false:=by decide+kernel
theorem aMj(k:Nat):lC (k % 4)=lC k:=by unfold lC;exact rR (Nat.mod_mod ..) rfl
theorem aMk{H:List Str}{y:Nat->Nat}{S:Str}(h:H[i]?=some S):(bn H y)[i]?=some (.str S (y (100+i))):=by unfold bn;refine rR (gB) (rR h ?_);rfl
abbrev yu(C D I L W:af)(c:ar)(ds:List ag)(H:Nat)(i:ar)(vs:List ag)(e:Nat):List (af×ar):=[(C,c),(D,aA ds H),(I,i),(L+1,iE W),(W,aA vs e)]
abbrev Tu(w:aj)(C D I L W:af)(H:List Str)(vs:List ag)(e:Nat):(Nat->Nat)->Out:=λz=>⟨.ok .next,yu C D I L W (ur w (z 6) ((z 7:Nat):Int) (z 8)) (bn (iF H) z) H.length (qm H.length 0) vs e,[],z 0,z 1⟩
theorem aMl(XK:aK w aa)(NL:aa.NoLimit)(hA:A.handled=none)(hd:A.depth+2<=bk)(L C D I W:af)(H:List Str)(h0:0< H.length)(Y:H.length<=900)(fN:∀s∈H,s.length<=1000)(y:Nat->Nat)(e:Nat):Told True (av w) A U fr aa (Ke L I D C) (yu C D I L W mG [] 0 (qm 0 H.length) (bn H y) e) (Tu w C D I L W H (bn H y) e):=by
 intro u s ak R hu SR q hR;have vJ:ax True aa ak (yu C D I L W mG [] 0 _ _ e++[]) s:=SR;refine cJ (kG vJ) λSA q aZ=>?_;generalize hh:g6 s.heap _=aq at SA aZ;have X1:aK w aq:=λb o e=>aZ _ _ (XK b o e);have aU:=NL.keeps aZ;have d0:=aE (fG ..) hd;have loop:eH (av w) { A with units:=u } (.compLoop (.ListComp Kb [⟨Kc,Tq,[],0⟩] Kd Tr) 0 (.ref I) (.ref D) (Ey L C)) R s:=by
  refine codeAny_compLoop_list (λm s'=>∃(i f:Nat)(t u0:ab)(i0:Nat)(z:Nat->Nat),m=H.length - i/\i<=H.length/\(f=0\/f=1)/\(0< i->f=1)/\ax True aq ak (yu C D I L W (Bb w f t (i0:Int) u0) (bn ((iF H).take i) z) i (qm i ((H.length:Int) - i)) _ e) s') ?_ H.length ⟨0,0,0,0,0,λv=>0,rfl,f4 _, .inl rfl,λh=>absurd h (jI 0),by exact SA⟩ (by intro q;rfl);rintro m s1 ⟨i,f,t,u0,i0,z,rfl,hi,hf,Ag,S1⟩;have hI:=S1.h.at_ _ (aB (aB ay));by_cases bp:i< H.length
  ·obtain⟨S,hS⟩:∃S,H[i]?=some S:=⟨H[i],gF bp⟩
   refine wpAny_pyNext_range_item hI (iB [(H.length:Nat),(i:Nat)] [lL Y1 Y0] (lL 0 (Y0-Y1)) rfl (cc.mpr bp)) λh' hit sb=>?_;have Z:=q7 (pre:=[(C,Bb ..),_]) S1 hit sb.extBut;have S2':ax True aq ak _ { s1 with heap:=h',toks:=s1.toks+1 }:=⟨Z.h,Z.os,Z.gens,Z.same⟩
   refine du (ro:=[(D,listOf (bn _ z).toArray i),(I,qm _ _),_,_]) S2' X1 aU hA 0 600 [1,1] .nil (λv v v v v=>True.intro) d0 _ _ _ _ (λσ=>aMf w L C f hf t s1.toks u0 i i0 _ _ σ) λv s3 J v v v=>?_;generalize hk:Tt f _ t=tk at J;have S4:ax True aq ak ([(C,ur ..),_,_]++[(D,listOf (bn _ z).toArray i),_]) s3:=lO J (ix:=[0,3,4,1,2]) (by decide) rfl;refine d8 (aMi ⟨i % 4,(uM _ (by decide))⟩) λg1 g2=>?_;rw[aMj]at g1;refine fO S4 X1 aU hA 2 600 [2,1,3,3,3,2,1,2,2,2] [0,1,2] (Ts ..) (λaP v X2 N2 v=>⟨rfl,by decide,λA' v v=>aL9 W _ i i _ e _ (aL8 i (aT [lE Y1 900,lE Y0 Y1] (lE Y0 1000) rfl Y hi)) rfl (Me▸aMk hS),λa v v=>J4 (by decide) (rR (Gh _ (by decide)) rfl) λb v=>AY g2 g1 λd v=>n6 rfl (aE (yR (fN S (jb hS)) 1) (by decide)) λv v=>True.intro⟩) hd (by decide) _ _ _ _ (λσ=>aMe ..) λσ s4 S5 v v v=>?_;have S6:ax True aq ak ([(D,listOf (bn _ z).toArray i)]++[(C,ur ..),_,_,_]) s4:=lO S5 (ix:=[3,0,4,1,2]) (by decide) rfl;refine du S6 X1 aU hA 0 300 [2] (il 0 D _ i _ λv=> .nil) (λv v v v v=>lu (rR (yk ..) (rR (wY ..) (b8 [lE Y1 900,lE Y2 Y1,lE Y0 Y2] (lE Y0 1000) rfl Y hi (X8 (i) _)))) λv v=>True.intro) d0 _ _ _ _ (λY=>aMg ..) λY Y S7 v v v=>⟨H.length - (i+1),lr [eQ (Y0+(Y2+1)) Y3,eQ (Y1+Y2) Y3] (lL Y0 Y1) [1,-1] 1 rfl (bY (aT [lL Y0 Y1] (lE (Y0+1) Y1) rfl bp)) (bY (hi)),i+1,1,tk,s1.toks,i,mI ((iF H).take i).length (λv=>0) z (λv=>σ 3 2),rfl,bp, .inr rfl,λv=>rfl,?_⟩;have Y:(iF H).take (i+1)=(iF H).take i++[S++⟨#[lC i]⟩]:=by rw[Gd];unfold iF;refine rR (gB) (rR hS ?_);rfl
   refine rR (Y ..) (rR (ue ..) ?_);have Y:_ - _=(H.length:Int) - i - 1:=bw (iB [(H.length:Nat),(i:Nat)] [] (lE (Y0-(Y1+1)) (Y0-Y1-1)) rfl) (iB [(H.length:Nat),(i:Nat)] [] (lE (Y0-Y1-1) (Y0-(Y1+1))) rfl);exact rR Y (rR (show _=(i:Int)+1 by exact bw (jO [eQ (Y2-Y0) (Y2-Y1-1)] (lE Y0 (Y1+1)) [-1] 1 rfl Y) (hH [eQ (Y2-Y1) (Y2-Y0-1)] (lE (Y0+1) Y1) rfl Y)) (lO S7 (ix:=[1,0,2,3,4]) (by decide) rfl))
  ·obtain rfl:i=H.length:=c8 hi (dA.mp bp);obtain rfl:=Ag h0;simp only[show((H.length:Int) - (H.length:Nat))=0 by exact bw (bf [] (lE (Y0-Y0) 0) rfl) (bf [] (lE 0 (Y0-Y0)) rfl)]at hI S1;refine aMh hA hI λh' Y sb=>?_;have Z:=q7 (pre:=[(C,Bb ..),_]) S1 Y sb;let zf:=wq (λj=>match j with|0=>h'.objs.size|1=>s1.toks|6=>t|7=>i0|_=>u0) z;have ef:(iF H).take H.length=iF H:=Mc (by exact rR Ge (a8 _));replace Z:=ef▸Z;have J:ax True aq ak (Tu w C D I L W H (bn H y) e zf).post { s1 with heap:=h' }:=by show ax True aq ak [(C,Bb w 1 t _ u0),_,_,_,_] _;exact rR (Es ..) Z
   refine hR zf { s1 with heap:=h' } rfl rfl rfl (λp hp=>absurd hp bi) ?_ λb o Y Z=>J.h.keep b o (hh▸ke _ Y λY=>aO (bq.mp Y) λp hp e=>Z p hp e);exact⟨⟨J.h.at_,J.h.nd,λb o e=>J.h.keep b o (aZ b o e),λp hp=>by
    induction z:aa.get? p.1 with
    |none=>rfl|some o=>have:=J.h.off p hp;replace this:=(aZ _ _ z)▸this;injection this⟩,J.os,J.gens, .inl True.intro⟩
 unfold Ke;refine rR aMc (aW7 loop ((Walks.range (A:={ A with units:=u }) hA I 0 1 H.length).self 0 _ _ _ ?_ loop));have:=SR.h.at_ _ (aB (aB ay));simpa using this
abbrev riO(ix:List Nat)(r n:Nat)(t u v:ab)(next:aM):aF:= .cons (some 0) (bC "range.__iter__" [.ref r]) ix [(r,Ex n t u v)] (λe=>⟨.ok (.ret (.ref (e 2))),[(r,Ex n t u v)],[(e 2,qm 0 n)],e 0,e 1⟩) next
abbrev aMm(ix:List Nat)(w:aj)(C D I L W:af)(H:List Str)(vs:List ag)(e n:Nat)(next:aM):aF:= .cons (some 2) (Ke L I D C) ix (yu C D I L W mG [] 0 (qm 0 n) vs e) (λz=>⟨.ok .next,yu C D I L W (ur w (z 6) ((z 7:Nat):Int) (z 8)) (bn (iF H) z) n (qm n 0) vs e,[],z 0,z 1⟩) next
abbrev Bc(ix:List Nat)(D:af)(sep:Str)(t:ab)(vs:List ag)(e:Nat)(T:Str)(next:aM):aF:= .cons (some 0) (bC "str.join" [.str sep t, .ref D]) ix [(D,aA vs e)] (λx=>⟨.ok (.ret (.str T (x 2))),[(D,aA vs e)],[],x 0,x 1⟩) next
def Tv:List Nat:=(dN 27 0x82108822f842100401080000080100000)
def Tw(w:aj)(L W:af)(H:List Str)(vs:List ag)(e n tk:Nat)(T:Str)(J t1 t2:(Nat->Nat)->Nat):aF:=vj 1 W vs e n λa=>riO [0] (a 0) n (J a) (t1 a) (t2 a) λb=>aMm [0,1,2,4,5] w (b 0+1) (b 0) (b 2) L W H vs e n λc=>Bc [1] (b 0) "" tk (bn (iF H) c) n T λd=> .nil
theorem aMn(w:aj)(L W:af)(sz tk n e:Nat)(H:Xs)(J:List Str)(vs:List ag)(T:Str):Ends [4,5] ((aI w 2 0 none 600).S [] H ⟨[(L+1,iE W),(W,aA vs e)],sz,tk,Tv,Tw w L W J vs e n tk T (λa=>a 1) (λa=>a 2) (λa=>a 1+1)⟩ (aV (fE.drop 2) (jW L)) fin) (.ok (.ret (.str T (H 3 2))),[(L+1,iE W),(W,aA vs e)].map some,H 3 0,H 3 1):=by kernel_rfl
def yv(b:List cq)(i:Nat):PySem.Expr:=pE b[i]? 1
def Tx(b:List cq)(i:Nat):Pos:=(oS b[i]?).pos
theorem aMo:fE=fE.take 1++([.For (mL fE 1) (yv fE 1) (nE fE 1) [] (Tx fE 1)]++fE.drop 2):=by kernel_rfl
theorem aMp(w:aj):(K w.params).lookup 250=some ⟨u9.1.cls,u9.1.dict, .func uo,u9.1.slots⟩:=by kernel_rfl
abbrev rJ(w:aj)(R L tk:af):Obj:=nc (⟨.type "frame",none, .dict #[⟨aS w.params "rows", .str "rows" tk, .ref R⟩] 1,#[]⟩)
abbrev EA:Obj:=nc (⟨.type "cell",none, .cell none,#[]⟩)
section
variable (w:aj)(R L W:af)(a:List (af×ar))(sz tk t:Nat)(σ:Xs)
theorem aMq:bA ((aI w 0 0 none 400).S [] σ ⟨a,sz,tk,[], .nil⟩ (md uo ⟨[.ref R],[]⟩) fin) (.ok [("rows", .ref R)],a,sz,tk):=by kernel_rfl
theorem aMr:bA ((aI w 0 0 none 400).S [] σ ⟨a,sz,tk,[2,2], .nil⟩ (me uo.scope uo.globals uo.closure [("rows", .ref R)] (uo.qualname++".<locals>.") (some 250) uo.code none uo.builtins) fin) (.ok (jW sz),[(sz+1,EA),(sz,rJ w R sz tk)]++a,sz+2,tk+1):=by kernel_rfl
theorem aMs:bA ((aI w 0 0 none 400).S [] σ ⟨[(L+1,EA),(L,rJ w R L t)],sz,tk,[2,2], .nil⟩ (aV (fE.take 1) (jW L)) fin) (.ok .next,[(sz,aA [] 0),(L+1,iE sz),(L,rJ w R L t)],sz+1,tk):=by kernel_rfl
theorem aMt:bA ((aI w 0 0 none 400).S [] σ ⟨[(L,rJ w R L t)],sz,tk,[1], .nil⟩ (fy (yv fE 1) (jW L)) fin) (.ok (.ref R),[(L,rJ w R L t)],sz,tk):=by kernel_rfl
theorem Tz(vs:List ag)(e:Nat):bA ((aI w 0 0 none 400).S [] σ ⟨[(R,aA vs e)],sz,tk,[1,1,777,0,1,0,1], .nil⟩ (Ms (.ref R)) fin) (.ok (.ref sz),[(sz,dh R 0),(R,aA vs e)],sz+1,tk):=by kernel_rfl
end
theorem aMu(L:af)(x:ag):Mp (yv fE 1) (jW L) x=pure x:=by kernel_rfl
theorem aMv(H:List Str)(y:Nat->Nat):pJ (H.mapIdx λi s=>(s,y (100+i)))=bn H y:=by unfold pJ bn;refine jH λi=>?_;simp only[dP,gB,gB];induction H[i]?<;>rfl
theorem Kg(H:List Str)(y:Nat->Nat):(H.mapIdx λi s=>(s,y (100+i))).map (·.1)=H:=by refine jH λi=>rR (dP) (rR (gB) ?_);induction H[i]?<;>rfl
theorem TA{l:List Str}{m:Nat}(H:l.length*m<=1000000)(h:∀s∈l,s.length<=m):sw (l.toArray.foldl (· +·.length+("":Str).length) 0)=false/\(jf "" l).length<=sizeLine:=by
 have H:=nP;constructor
 ·have:=Ji m l 0 h;exact rR (X0 ..) (decide_eq_false (by omega))
 ·have e:("":Str).length=0:=by decide+kernel
  have:=D7 m l h;refine rR (Gg ..) (rR e ?_);omega
open Classical in
theorem pm4(I R W c F P:List α):cH (I++(R++(W++(c++(F++P))))) (c++(W++(R++(P++(I++F))))):=by rw[jg];intro x;simp only[ig];ac_rfl
open Classical in
theorem pm5(W c F R P:List α):cH (W++(c++(F++(R++P)))) (F++(W++(c++(R++P)))):=by rw[jg];intro x;simp only[ig];ac_rfl
open Classical in
theorem pm6(W c F R P:List α):cH (F++(W++(c++(R++P)))) (R++(W++(c++(F++P)))):=by rw[jg];intro x;simp only[ig];ac_rfl
open Classical in
theorem pm7(c W R P I F:List α):cH (c++(W++(R++(P++(I++F))))) ((R++P)++(c++(W++(I++F)))):=by rw[jg];intro x;simp only[ig];ac_rfl
def fR(rows:List FR):Str:=jf "" (iF (rows.flatMap cv))
abbrev TB(R:af):Code:=nc (.call (.ref 250) ⟨[.ref R],[]⟩)
abbrev gf(R:af)(re:Nat)(rows:List FR):List (af×ar):=(R,aA (rows.map λr=>aN r.a) re)::rows.map λr=>(r.a,r.o)
theorem aMw(XK:aK w aa)(NL:aa.NoLimit)(hA:A.handled=none)(hd:A.depth+5<=bk)(hU:U+23< dQ)(R:af)(re:Nat)(rows:List FR)(nf:∀r∈rows,r.Ok)(h1:0< rows.length)(Y:rows.length<=10)(hw:∀s∈rows.flatMap cv,s.length<=100):Told True (av w) A U fr aa (TB R) (gf R re rows) (λx=>⟨.ok (.ret (.str (fR rows) (x 2))),gf R re rows,[],x 0,x 1⟩):=by
 refine Da (body:=fE) XK NL hA hd (aMp w) rfl rfl (by kernel_rfl) (by kernel_rfl) [("rows", .ref R)] [] (λL tk H=>aMq ..) jW (λL tk=>[(L+1,EA),(L,rJ ..)]) 2 1 [2,2] (λL tk H=>aMr ..) (λ_=>rfl) ?_;intro kH L tk s ak Q E aq iW hd2 Kh aZ X1 aU SR hz ht dq;have d0:kH.depth+0<=recursionLimit:=b8 [lE (Y2+5) Y1,eQ Y0 (Y2+1)] (lE (Y0+0) Y1) rfl hd hd2;refine rR aMo (da ?_);refine du (a:=[(L+1,EA),(L,rJ ..)]) SR X1 aU iW 0 400 [2,2] .nil (λ_ _ _ _ _=>True.intro) d0 _ _ _ _ (λH=>aMs ..) λ_ s1 S1 _ _ _=>?_;generalize s.heap.objs.size=W at S1;refine da (mW (Xn ?_ (aMu L)));have S2:=bj S1 (pm5 [_] [_] [_] [_] _);refine du (fr:=none) (a:=[(L,rJ ..)]) S2 X1 aU iW 0 400 [1] .nil (λ_ _ _ _ _=>True.intro) d0 _ _ _ _ (λH=>aMt ..) λ_ J S3 _ _ _=>?_;have S4:=bj S3 (pm6 [_] [_] [_] [_] _);have e3:=λH=>Tz w R J.heap.objs.size J.toks H (rows.map λr=>aN r.a) re;generalize Ar:(rows.map λr=>aN r.a)=vs at S4 e3 ⊢;have TC:=S4;clear S4 S3 S2 S1 SR;have key:∀(Q:ag->am->Prop)(E:ag->am->Prop),(∀s3,ax True aq ak ((J.heap.objs.size,dh R 0)::(R,aA vs re)::(W,aA [] 0)::(L+1,iE W)::(L,rJ ..)::rows.map λr=>(r.a,r.o)) s3->Q (.ref J.heap.objs.size) s3)->aG (av w) kH (Ms (.ref R)) Q E J:=λQ E h=>du (fr:=none) TC X1 aU iW 0 400 [1,1,777,0,1,0,1] .nil (λ_ _ _ _ _=>True.intro) d0 (λ_=> .ref J.heap.objs.size) (λ_=>[(J.heap.objs.size,dh R 0),(R,aA vs re)]) (λ_=>J.heap.objs.size+1) (λ_=>J.toks) e3 λ_ s3 S5 _ _ _=>h s3 S5;refine key _ _ λs3 S5=>?_;clear key e3 TC;subst Ar;generalize J.heap.objs.size=I at S5 ⊢;refine Tn iW (J5 w R L W rows (rows.map λr=>(r.a,r.o))) ⟨λ_=>0,0,λ_=>tk,⟨0,"",0,0,0,0,0⟩,⟨0,0,[],0,0,0,0,0,0,0,0,0,0⟩,0, .inl rfl,rfl⟩ S5 (λi x led s Q E J hJ S hQ=>aL7 X1 aU iW (b8 [lE (Y2+5) Y1,eQ Y0 (Y2+1)] (lE (Y0+4) Y1) rfl hd hd2) (b8 [lL (Y2+23) Y1,lE Y0 (Y2+3)] (lL (Y0+20) Y1) rfl hU Kh) nf Y (λr hr=>b7 (f:=λr=>(r.a,r.o)) hr) J hJ S hQ) λled s4 hJ S6=>?_;obtain⟨y,e,k,d,r,f,_,rfl⟩:=hJ;replace S6:=BV .. ▸(dB .. ▸S6)
 refine qC ?_;have hn:=aE (J6 rows) (qM [lE Y0 10] (lE (.m 8 Y0) 80) [8] 1 rfl Y);have h2:2<=(rows.flatMap cv).length:=by
  induction rows with
  |nil=>exact absurd h1 (jI 0)|cons r l=>
   refine rR jh (rR bQ ?_);have:2<=(cv r).length:=by unfold cv;exact rR bQ (fG 2 _)
   exact aT [lE 2 Y0] (lE 2 (Y0+Y1)) rfl this
 have TD:(iF (rows.flatMap cv)).length=(rows.flatMap cv).length:=by unfold iF;rw[Ge]
 have hs:∀s∈iF (rows.flatMap cv),s.length<=101:=λs hs=>by obtain⟨j,hj,rfl⟩:=List.mem_mapIdx.mp hs;exact rR (X5 ..) (yR (hw _ (uT hj)) 1)
 refine d8 (TA (l:=iF (rows.flatMap cv)) (m:=101) (rR TD (fA [lE Y1 80,eQ Y0 (Ax.m 101 Y1)] (lE Y0 1000000) [101,1] 1 rfl hn (dW ((List.flatMap cv rows).length) _))) hs) λJ Y=>?_;have join:∀(D:af)(c:Nat->Nat)(t:ab){A U fr aP},Told True (av w) A U fr aP (bC "str.join" [.str "" t, .ref D]) [(D,aA (bn (iF (rows.flatMap cv)) c) (rows.flatMap cv).length)] (λx=>⟨.ok (.ret (.str (fR rows) (x 2))),[(D,aA (bn (iF (rows.flatMap cv)) c) (rows.flatMap cv).length)],[],x 0,x 1⟩):=λD c t{A U fr aP}=>by have:=IY (ao:=True) (w:=w) (A:=A) (U:=U) (fr:=fr) (aa:=aP) (D:=D) (l:=(iF (rows.flatMap cv)).mapIdx λi s=>(s,c (100+i))) (e:=(rows.flatMap cv).length) (sep:="") (t:=t) (rR Ge (rR TD h2)) (rR (Kg ..) J) (rR (Kg ..) Y);rw[Kg,aMv]at this;exact this
 have TH:ax True aq ak ([(L+1,iE W),(W,aA (bn (rows.flatMap cv) y) e)]++([(R,aA (rows.map λr=>aN r.a) re)]++((rows.map λr=>(r.a,r.o))++([(I,jV rows.length)]++[(L,jX ..)])))) s4:=(bj S6 (pm4 [_] [_] [_] [_] [_] _))
 generalize b6:[(R,aA (rows.map λr=>aN r.a) re)]++((rows.map λr=>(r.a,r.o))++([(I,jV rows.length)]++[(L,jX ..)]))=ro at TH;have gq:∀aP:aw,aK w aP->aP.NoLimit->(Tw w L W (rows.flatMap cv) (bn (rows.flatMap cv) y) e (rows.flatMap cv).length s4.toks (fR rows) (λa=>a 1) (λa=>a 2) (λa=>a 1+1)).Ok True (av w) kH kH.units none aP ([(L+1,iE W),(W,aA (bn (rows.flatMap cv) y) e)].map (·.1)):=λaP X2 N2=>
  AP (yk _ _) (bu [lE Y0 80] (lE Y0 1001) rfl hn) λa _=>⟨rfl,by decide,λA' _ _=>aMb (a 0) _ _ _ _ (bu [lE Y0 80] (lE Y0 1000) rfl hn),λb _ _=>⟨rfl,by decide,λA' J Y=>aMl X2 N2 J (Y (by decide)) L (b 0+1) (b 0) (b 2) W (rows.flatMap cv) (bu [lE 2 Y0] (lL 0 Y0) rfl h2) (bu [lE Y0 80] (lE Y0 900) rfl hn) (λs hs=>aE (hw s hs) (by decide)) y e,λc _ _=>⟨rfl,by decide,λA' _ _=>join (b 0) c s4.toks,λ_ _ _=>True.intro⟩⟩⟩;have J:∀(Q:dm->am->Prop)(E:ag->am->Prop),(∀(H:Xs)Z,ax True aq ak ([(L+1,iE W),(W,aA (bn (rows.flatMap cv) y) e)]++ro) Z->Z.heap.objs.size=H 3 0->Z.toks=H 3 1->Q (.ret (.str (fR rows) (H 3 2))) Z)->aG (av w) kH (aV (fE.drop 2) (jW L)) Q E s4:=λQ E h=>
  fO (fr:=none) TH X1 aU iW 2 600 Tv [4,5] _ (λaP _ X2 N2 _=>gq aP X2 N2) (b8 [lE (Y2+5) Y1,eQ Y0 (Y2+1)] (lE (Y0+2) Y1) rfl hd hd2) (by decide) (λH=> .ret (.str (fR rows) (H 3 2))) (λ_=>[(L+1,iE W),(W,aA (bn (rows.flatMap cv) y) e)]) (λH=>H 3 0) (λH=>H 3 1) (λH=>aMn w L W s4.heap.objs.size s4.toks (rows.flatMap cv).length e H (rows.flatMap cv) (bn (rows.flatMap cv) y) (fR rows)) λH Z S8 Ki Kj _=>h H Z S8 Ki Kj;refine J _ _ λH Z S8 Ki Kj=>?_;subst b6;exact dq (H 3) _ Z rfl Ki Kj (qb (bj S8 (pm7 [_] [_] [_] _ [_] [_])))
def ut:FuncData:=match vc.1.data with
 | .func fd=>fd|_=>default
abbrev iG:List Stmt:=bodyOf vc.1
abbrev dT(L:af):Env:={ mD vc.1 267 L with cells:=[("spelled",L+1)] }
abbrev cW:List Stmt:=nE iG 2
def ldN:List Str:=nc (["rows","bare","told","ways","deep","name","dress","turn","share","value","place","full","bright","lights","corner","way","both","apart","tag","hue","pure"])
noncomputable def Kk(w:aj)(k:Nat->ab)(v:Nat->ag):Nat->List Str->Nat->List Xp
 |i,n::ns,m+1=>⟨aS w.params n, .str n (k i),v i⟩::Kk w k v (i+1) ns m|_,_,_=>[]
structure UV where
 R:af
 b:Bool
 T:Str
 t:ab
 W:af
 r:FR
 P:Int
 tP:ab
 F:Int
 tF:ab
 B:Int
 tB:ab
 Lt:af
 co:Int
 Kl:ab
 wy:Int
 Km:ab
 bo:Int
 Be:ab
 ap:Int
 Bf:ab
 tg:Str
 rK:ab
 hu:Int
 Bg:ab
 pu:Int
 Bh:ab
def UV.v(U:UV):Nat->ag
 |0=> .ref U.R|1=> .bool U.b|2=> .str U.T U.t|3=> .ref U.W|4=> .int U.r.dp U.r.t0|5=> .str (aW U.r.nm) U.r.t1|6=> .int U.r.dr U.r.t2|7=> .int U.r.tu U.r.t3|8=> .int U.r.sh U.r.t4|9=> .int U.r.va U.r.t5|10=> .int U.P U.tP|11=> .int U.F U.tF|12=> .int U.B U.tB|13=> .ref U.Lt|14=> .int U.co U.Kl|15=> .int U.wy U.Km|16=> .int U.bo U.Be|17=> .int U.ap U.Bf|18=> .str U.tg U.rK|19=> .int U.hu U.Bg|_=> .int U.pu U.Bh
def UV.aJ(U:UV)(w:aj)(k:Nat->ab)(n:Nat):Obj:=⟨.type "frame",none, .dict (Kk w k U.v 0 ldN n).toArray n,#[]⟩
abbrev ca(a:Option ag):Obj:=nc (⟨.type "cell",none, .cell a,#[]⟩)
structure WD where
 a:af
 tg:Str
 t:ab
 pl:Int
 tp:ab
 fu:Int
 tf:ab
 br:Int
 tb:ab
noncomputable abbrev WD.o(y:WD):af×Obj:=(y.a,⟨.type "tuple",none, .seq #[.str y.tg y.t, .int y.pl y.tp, .int y.fu y.tf, .int y.br y.tb] 0,#[]⟩)
variable {o:ar}
noncomputable def dE(B:List ag):List WD->List ag
 |[]=>B|y::ys=>dE B ys++[aN y.a]
def Kn(W:af)(B:List ag)(n:Nat)(H:Int)(u:ab):List WD->Str->ab->Nat->aF
 |[],_,_,e=>vj 0 W B e n λa=>iS "int.__gt__" n H false (a 2) u λ_=> .nil|y::ys,T,t,e=>vj 0 W (dE B (y::ys)) e (n+(y::ys).length) λa=>iS "int.__gt__" ((n+(y::ys).length:Nat):Int) H true (a 2) u λc=>cQ T "</" (T++"</") t (c 1) λd=>xg 0 W (dE B ys) (.ref y.a) e λ_=>cQ (T++"</") y.tg (T++"</"++y.tg) (d 2) y.t λf=>cQ (T++"</"++y.tg) ">" (T++"</"++y.tg++">") (f 2) (f 1) λg=>Kn W B n H u ys (T++"</"++y.tg++">") (g 2) (e+1)
noncomputable def uu:List WD->Str->Str
 |[],T=>T|y::ys,T=>uu ys (T++"</"++y.tg++">")
noncomputable def TJ(f:Nat):Nat->Nat->List Nat
 |_,0=>[0,0,0,f,0,2,f,777,2]|y,n+1=>[0,0,0,f,0,2,f,777,2,f,2,f,1,1,1,1,2,y,y,y,0,y,0,y,0,2,2,f,f]++TJ f (y+1) n
noncomputable def aMy(U:UV)(H:Xs):List WD->ab
 |[]=>U.t|y::ys=>H (6*ys.length+5) 2
theorem aMz(w:aj)(k:Nat->ab)(L:af)(U:UV)(B:List ag)(n e:Nat)(sz tk:Nat)(H:Xs)(m:Nat)(J:m=10\/m=21)(ys:List WD)(Y:ys.length<=2):bA ((aI w 2 0 none 900).S [] H ⟨(U.W,aA (dE B ys) e)::(ys.map WD.o++[(L,U.aJ w k m)]),sz,tk,TJ (ys.length+2) 2 ys.length,Kn U.W B n U.r.dp U.r.t0 ys U.T U.t e⟩ (aV (cW.take 1) (dT L)) fin) (.ok .next,(U.W,aA B (e+ys.length))::(ys.map WD.o++[(L,{ U with T:=uu ys U.T,t:=aMy U H ys }.aJ w k m)]),H (6*ys.length+1) 0,H (6*ys.length+1) 1):=by
 rcases ys with _|⟨y,_|⟨z,_|⟨x,ys⟩⟩⟩
 ·rcases J with rfl|rfl<;>kernel_rfl
 ·rcases J with rfl|rfl<;>kernel_rfl
 ·rcases J with rfl|rfl<;>kernel_rfl
 ·exact absurd Y (FH.mpr (dG ..))
abbrev iO(id:String)(a b r:Int)(t u:ab)(next:aM):aF:=cM id [.int a t, .int b u] (λk=> .int r k) next
def TK(d:Bool):List Nat:=(dN 45 0x108441080200842208401004211042008021088210040108020f8421)++(match d with
 |true=>(dN 101 0xc600026318c0004c631800000c6318c6318108441080200842208401004211042008021088210040108020f84210042109c0701ce7114a5000e2f9ce739ce7)|false=>(dN 33 0x528000014a528000014a528000014a2f94a5294a5))
def TL(U:UV)(y:WD)(H:List ag)(e tb:Nat)(J Y:Int):aF:=iS "int.__gt__" U.r.dp 0 true U.r.t0 (tb+6) λx=>xV 4 U.W H (.ref y.a) e (x 1+1) λ_=>iO "int.__mul__" y.fu U.r.sh J y.tf U.r.t4 λ_=>iO "int.__mul__" y.br U.r.va Y y.tb U.r.t5 λ_=> .nil
def TM(U:UV)(tb:Nat):aF:=iS "int.__gt__" U.r.dp 0 false U.r.t0 (tb+6) λ_=> .nil
section
variable (w:aj)(k:Nat->ab)(L:af)(U:UV)(Bs:List ag)(y:WD)(e sz tk:Nat)(σ:Xs)(m2 m3:Int)
theorem aM0:Ends [9,10,11] ((aI w 2 0 none 900).S [] σ ⟨[(U.W,aA (Bs++[aN y.a]) e),y.o,(L,U.aJ w k 21)],sz,tk,TK true,TL U y Bs e tk m2 m3⟩ (aV ((cW.drop 1).take 5) (dT L)) fin) (.ok .next,[(U.W,aA (Bs++[aN y.a]) e),y.o,(L,{ U with P:=(y.pl+U.r.tu).fmod 64,tP:=σ 1 1+6,F:=m2.fdiv 4,tF:=σ 2 1+1,B:=m3.fdiv 4,tB:=σ 3 1+1 }.aJ w k 21)].map some,σ 3 0,σ 3 1+3):=by kernel_rfl
noncomputable def plK(k:Nat->ab)(tk:Nat):Nat->ab
 |10=>tk+3|11=>tk+4|12=>tk+5|i=>k i
theorem aM1:Ends [4] ((aI w 2 0 none 900).S [] σ ⟨[(L,U.aJ w k 10)],sz,tk,TK false,TM U tk⟩ (aV ((cW.drop 1).take 5) (dT L)) fin) (.ok .next,[(L,{ U with P:=(0+U.r.tu).fmod 64,tP:=σ 0 1+2,F:=(256*U.r.sh).fdiv 4,tF:=σ 0 1+6,B:=(256*U.r.va).fdiv 4,tB:=σ 0 1+10 }.aJ w (plK k tk) 13)].map some,σ 0 0,σ 0 1+12):=by kernel_rfl
end
def aM2(r q:Bool):List Nat:=(dN 23 0x4211086210040104010041f08400)++((dN 13 0x2f88431080200820)++((bif r then [1,1,1]else [])++((dN 13 0x2f88431080200820)++((bif q then [1,1,1]else [])++(dN 15 0xc63088431080200820)))))
def mlX(t u v:ab)(r q:Bool)(H:Xs):Nat->Nat
 |0=>H 1 0+2|1=>H 1 1|_=>bif q then v else(bif r then u else t)
abbrev ww(a b c:Int)(t u v:ab):List Value:=nc ([.int a t, .int b u, .int c v])
abbrev Ko(H:String)(a b c:Int)(t u v:ab)(r q:Bool):aF:=iS H b a r u t λ_=>iS H c (bif r then b else a) q v (bif r then u else t) λ_=> .nil
abbrev TN(l:af)(vs:List ag)(e:Nat)(m:Int)(y:Nat->Nat):Out:=⟨.ok (.ret (.int m (y 2))),[(l,aA vs e)],[],y 0,y 1⟩
section
variable (w:aj)(l:af)(e:Nat)(a b c:Int)(t u v:ab)(r q:Bool)(sz tk:Nat)(σ:Xs)
abbrev TO(f H:String):Rs (cz×WS):=(aI w 2 0 none 500).C [] σ ⟨[(l,aA (ww a b c t u v) e)],sz,tk,aM2 r q,Ko H a b c t u v r q⟩ (bC f [.ref l]) fin
def TP:cz×List (Option (af×ar))×Nat×Nat:=bX (TN l (ww a b c t u v) e (bif q then c else(bif r then b else a)) (mlX t u v r q σ))
theorem aM3:Ends [4] (TO w l e a b c t u v r q sz tk σ "max" "int.__gt__") (TP l e a b c t u v r q σ):=by induction r<;>induction q<;>kernel_rfl
theorem aM4:Ends [4] (TO w l e a b c t u v r q sz tk σ "min" "int.__lt__") (TP l e a b c t u v r q σ):=by induction r<;>induction q<;>kernel_rfl
end
theorem TQ(a b:Int):(bif decide (b>a)then b else a)=max a b:=by
 by_cases h:b>a;·rw[decide_eq_true h];exact(W3 (gm h)).symm
 ·rw[decide_eq_false h];exact(W4 (fH.mp h)).symm
theorem TR(a b:Int):(bif decide (b< a)then b else a)=min a b:=by
 by_cases h:b< a;·rw[decide_eq_true h];exact(LM (gm h)).symm
 ·rw[decide_eq_false h];exact(By (fH.mp h)).symm
theorem aM5(a b c:Int):(bif decide (c>(bif decide (b>a)then b else a))then c else(bif decide (b>a)then b else a))=max (max a b) c:=(TQ _ c).trans (rR (TQ ..) rfl)
theorem aM6(a b c:Int):(bif decide (c<(bif decide (b< a)then b else a))then c else(bif decide (b< a)then b else a))=min (min a b) c:=(TR _ c).trans (rR (TR ..) rfl)
abbrev yw(f:String)(i:Nat)(l:af)(vs:List ag)(e:Nat)(m:Int)(next:aM):aF:= .cons (some 2) (bC f [.ref l]) [i] [(l,aA vs e)] (TN l vs e m) next
section
variable (XK:aK w aa)(NL:aa.NoLimit){l:af}{v:ab}
include XK NL
theorem TS(H:max (max a b) c=m)(k:bJ next True w A U fr aa):(yw "max" i l (ww a b c t u v) e m next).Ok True (av w) A U fr aa lv:=⟨rfl,cj.mpr ⟨bi,bN⟩,by refine rL (H ..) (rL (aM5 ..) ?_);exact bS XK NL 500 _ [4] (λz z=>Ko "int.__gt__" a ..) (by decide) _ (λz=>rfl) (λH H z z z=>qZ rfl λz z=>qZ rfl λz z=>True.intro) λsz tk H=>aM3 ..,λx z z=>k x _⟩
theorem TU(H:min (min a b) c=m)(k:bJ next True w A U fr aa):(yw "min" i l (ww a b c t u v) e m next).Ok True (av w) A U fr aa lv:=⟨rfl,cj.mpr ⟨bi,bN⟩,by refine rL (H ..) (rL (aM6 ..) ?_);exact bS XK NL 500 _ [4] (λz z=>Ko "int.__lt__" a ..) (by decide) _ (λz=>rfl) (λH H z z z=>HE rfl λz z=>HE rfl λz z=>True.intro) λsz tk H=>aM4 ..,λx z z=>k x _⟩
end
abbrev TV(a:Int)(t:ab)(next:aM):aF:=cM "int.__abs__" [.int a t] (λk=> .int (if a< 0 then -a else a) k) next
section
theorem EB(h:a*b=m)(H:IntMulOk a b)(k:bJ next True w A U fr aa):(iO "int.__mul__" a b m t u next).Ok True (av w) A U fr aa lv:=by subst h;exact dZ (λz=>eO PySem.F.slot_int_mul PySem.F.entry_int_mul (PySem.F.args_int_mul_2 _ _) (aZm a t b u H) (λs=>jK ..) λQ s k=>k _ _) λe z=>k e lv
theorem aM7(k:bJ next True w A U fr aa):(TV a t next).Ok True (av w) A U fr aa lv:=by
 by_cases h:a< 0;·refine dZ (λz=>eO aXs aXt (aXu _) (aZn a t h) (λs=>jK ..) λQ s k=>by rw[if_pos h]at k;exact k _ _) λe z=>k e lv
 ·refine dZ (λz=>eO aXs aXt (aXu _) (aZo a t h) (λs=>jK ..) λQ s k=>by rw[if_neg h]at k;exact k _ _) λe z=>k e lv
end
def EC(P c:Int):Int:=if 3*P - c< 0 then -(3*P - c)else 3*P - c
def yx(P c:Int):Int:=min (EC P c) (192 - EC P c)
def uv(P c:Int):Int:=max 0 (min 32 (64 - yx P c))
def lS(P F B c:Int):Int:=B*(32*(256 - F)+F*uv P c)
def ED(P F B:Int)(tF tB:ab)(c:Int)(t:ab)(next:aM):aF:=TV (3*P - c) t λH=>vC "min" (EC P c) (192 - EC P c) (yx P c) (H 2) (H 1+2) λH=>vC "min" 32 (64 - yx P c) (min 32 (64 - yx P c)) (H 1+6) (H 1+8) λJ=>vC "max" 0 (min 32 (64 - yx P c)) (uv P c) (H 1+5) (J 2) λH=>iO "int.__mul__" F (uv P c) (F*uv P c) tF (H 2) λH=>iO "int.__mul__" B (32*(256 - F)+F*uv P c) (lS P F B c) tB (H 1) λH=>next H
abbrev UV.l(U:UV)(c:Int):Int:=lS U.P U.F U.B c
abbrev UV.ls(U:UV)(a b c:ab):List Value:=ww (U.l 0) (U.l 64) (U.l 128) a b c
noncomputable def UV.mx(U:UV):Int:=max (max (U.l 0) (U.l 64)) (U.l 128)
noncomputable def UV.mn(U:UV):Int:=min (min (U.l 0) (U.l 64)) (U.l 128)
def TX(U:UV)(sz tk:Nat):aF:=ED U.P U.F U.B U.tF U.tB 0 (tk+7) λa=>ED U.P U.F U.B U.tF U.tB 64 (a 1+3) λb=>ED U.P U.F U.B U.tF U.tB 128 (b 1+3) λc=>yw "max" 4 sz (U.ls (a 2) (b 2) (c 2)) 3 U.mx λ_=>yw "min" 4 sz (U.ls (a 2) (b 2) (c 2)) 3 U.mn λ_=>yw "max" 4 sz (U.ls (a 2) (b 2) (c 2)) 3 U.mx λ_=>yw "min" 4 sz (U.ls (a 2) (b 2) (c 2)) 3 U.mn λ_=> .nil
def Kq:List Nat:=(dN 65 0x318c03008001084001000000800000420c63190841000420004208000008001000210211042008020)
def TY:List Nat:=[2,2,1,1,777,0,1,0,1]++(Kq++(Kq++(Kq++(dN 42 0xc6318c6318001180011800318001180011800004211042008020))))
def liK(m:Nat)(k:Nat->ab)(tk:Nat)(H:Xs)(i:Nat):Tok:=nc (bif Ft i m then k i else(match i with
 |13=>tk|14=>tk+4|15=>H 0 1|16=>H 19 1+1|17=>H 21 1+1|18=>H 21 1+3|19=>H 21 1+5|_=>H 21 1+7))
def UV.lit(U:UV)(sz tk:Nat)(H:Xs):UV:={ U with Lt:=sz,co:=128,Kl:=tk+3,wy:=yx U.P 128,Km:=H 13 2,bo:=U.mx+U.mn,Be:=H 19 1,ap:=U.mx - U.mn,Bf:=H 21 1,tg:="c",rK:=H 21 1+2,hu:=0,Bg:=H 21 1+4,pu:=0,Bh:=H 21 1+6 }
section
variable (w:aj)(k:Nat->ab)(L:af)(U:UV)(sz tk:Nat)(σ:Xs)(m:Nat)
abbrev liR:Rs (Except ag dm×WS):=(aI w 3 0 none 900).S [] σ ⟨[(L,U.aJ w k m)],sz,tk,TY,TX U sz tk⟩ (aV ((cW.drop 6).take 7) (dT L)) fin
theorem aM8(H:m=13\/m=21):Ends [4,5] (liR w k L U sz tk σ m) (.ok .next,[(sz,aA (U.ls (σ 5 2) (σ 11 2) (σ 17 2)) 3),(L,(U.lit sz tk σ).aJ w (liK m k tk σ) 21)].map some,σ 21 0,σ 21 1+8):=by rcases H with rfl|rfl<;>kernel_rfl
end
def gO(x:Nat):Str:=nc (⟨#[x,58,99]⟩)
def TZ(U:UV)(tk x:Nat)(m q:Int)(d:Bool):aF:=iS "int.__gt__" U.ap 0 d U.Bf tk λa=>match d with
 |true=>Ez "rygcbm" ((3*U.P).fdiv 32) x (a 1) (a 1+4) λb=>cQ ⟨#[x]⟩ ":c" (gO x) (b 2) (b 1) λc=>vC "min" U.bo (4194304 - U.bo) m U.Be (c 1+5) λe=>iO "int.__floordiv__" (1024*U.ap) m q (c 1+3) (e 2) λf=>cQ U.T "<" (U.T++"<") U.t (f 1+1) λg=>cQ (U.T++"<") (gO x) (U.T++"<"++gO x) (g 2) (c 2) λ_=> .nil|false=>cQ U.T "<" (U.T++"<") U.t (a 1) λb=>cQ (U.T++"<") U.tg (U.T++"<"++U.tg) (b 2) U.rK λ_=> .nil
def aM9(d:Bool):List Nat:=match d with
 |true=>(dN 34 0x211044108442000210000008421084420000008be1)|false=>[1,777,2,1,2,1,2,1,1]
def UV.ct(U:UV)(x:Nat)(q:Int)(d:Bool)(H:Xs):UV:=match d with
 |true=>{ U with tg:=gO x,rK:=H 2 2,hu:=U.P,Bg:=U.tP,pu:=q,Bh:=H 4 2,T:=U.T++"<"++gO x,t:=H 6 2 }|false=>{ U with T:=U.T++"<"++U.tg,t:=H 2 2 }
def T2(d:Bool):Nat:=nc (match d with
 |true=>6|false=>2)
noncomputable def wz(T:Str)(x:Nat):Str:=T++" xmlns:"++⟨#[x]⟩++"=\"urn:"++⟨#[x]⟩++"\""
abbrev T5(i:Nat)(l:af)(vs:List ag)(e:Nat)(x:Str)(t:ab)(b:Bool)(next:aM):aF:= .cons (some 0) (b2 "list.__contains__" (.ref l) (.str x t)) [i] [(l,aA vs e)] (λy=>⟨.ok (.ret (.bool b)),[(l,aA vs e)],[],y 0,y 1⟩) next
def T6(U:UV)(H:List WD)(tk x:Nat)(d b:Bool):aF:=iS "int.__gt__" U.ap 0 d U.Bf tk λa=>match d with
 |false=> .nil|true=>T5 3 (a 0+1) (H.map λy=>ag.str y.tg y.t) H.length U.tg U.rK b λH=>match b with
  |true=> .nil|false=>cQ U.T " xmlns:" (U.T++" xmlns:") U.t (H 1) λH=>Ez U.tg 0 x U.rK (H 1) λJ=>cQ (U.T++" xmlns:") ⟨#[x]⟩ (U.T++" xmlns:"++⟨#[x]⟩) (H 2) (J 2) λH=>cQ (U.T++" xmlns:"++⟨#[x]⟩) "=\"urn:" (U.T++" xmlns:"++⟨#[x]⟩++"=\"urn:") (H 2) (H 1) λH=>Ez U.tg 0 x U.rK (H 1) λJ=>cQ (U.T++" xmlns:"++⟨#[x]⟩++"=\"urn:") ⟨#[x]⟩ (U.T++" xmlns:"++⟨#[x]⟩++"=\"urn:"++⟨#[x]⟩) (H 2) (J 2) λH=>cQ (U.T++" xmlns:"++⟨#[x]⟩++"=\"urn:"++⟨#[x]⟩) "\"" (wz U.T x) (H 2) (H 1) λ_=> .nil
def T7:Nat->Nat->List Nat
 |5,0=>(dN 15 0x8841846320c6018060)|_,0=>(dN 17 0x2210631846320c6018060)|y,n+1=>[0,3,0,3,0,3,3,4,3,3,1,1,1,y,y,y,0,y,0,y,0,2,0,2,2,2]++T7 (y+1) n
def aNa(t:Bool)(n:Nat)(d b:Bool):List Nat:=[n+2,777,2]++(match d with
 |false=>[]|true=>[n+2,n+2,1,1,777,0,1,0,1,0]++((match t with
  |true=>[]|false=>[3,3,777,0,3,0,3])++(T7 5 n++(match b with
  |true=>[]|false=>[n+7,2,n+7,2,2,2,n+7,2,2,2,n+7,n+7]))))
def UV.dc(U:UV)(x:Nat)(d b:Bool)(H:Xs):UV:=match d,b with
 |true,false=>{ U with T:=wz U.T x,t:=H 8 2 }|_,_=>U
def T8(d b:Bool):Nat:=nc (match d,b with
 |true,false=>8|true,true=>1|_,_=>0)
def dcK(d b:Bool):Nat:=nc (match d,b with
 |true,false=>1|_,_=>0)
def dcP(d:Bool):Nat:=nc (match d with
 |true=>5|_=>0)
section
variable (w:aj)(k:Nat->ab)(L:af)(U:UV)(e sz tk:Nat)(σ:Xs)(x:Nat)(m q:Int)(d b:Bool)(zs:List WD)
abbrev ctR:Rs (Except ag dm×WS):=(aI w 3 0 none 900).S [] σ ⟨[(L,U.aJ w k 21)],sz,tk,aM9 d,TZ U tk x m q d⟩ (aV ((cW.drop 13).take 2) (dT L)) fin
theorem aNb:bA (ctR w k L U sz tk σ x m q d) (.ok .next,[(L,(U.ct x q d σ).aJ w k 21)],σ (T2 d) 0,σ (T2 d) 1+1):=by induction d<;>kernel_rfl
abbrev dcR:Rs (Except ag dm×WS):=(aI w 3 0 none 900).S [] σ ⟨(U.W,aA (zs.map λy=>aN y.a) e)::(zs.map WD.o++[(L,U.aJ w k 21)]),sz,tk,aNa (w.params.followText "comprehension-iter-twice") zs.length d b,T6 U zs tk x d b⟩ (aV ((cW.drop 15).take 1) (dT L)) fin
theorem aNc(H:zs.length<=3):Ends (Mt (dcP d) (zs.length+2)) (dcR w k L U e sz tk σ x d b zs) (.ok .next,((U.W,aA (zs.map λy=>aN y.a) e)::(zs.map WD.o++[(L,(U.dc x d b σ).aJ w k 21)])).map some,σ (T8 d b) 0,σ (T8 d b) 1+dcK d b):=by
 rcases zs with _|⟨J,_|⟨J,_|⟨J,_|⟨J,zs⟩⟩⟩⟩
 ·induction d<;>induction b<;>(revert w;refine byRow2 "comprehension-iter-twice" (λw=>?_) (λw=>?_)<;>kernel_rfl)
 ·induction d<;>induction b<;>(revert w;refine byRow2 "comprehension-iter-twice" (λw=>?_) (λw=>?_)<;>kernel_rfl)
 ·induction d<;>induction b<;>(revert w;refine byRow2 "comprehension-iter-twice" (λw=>?_) (λw=>?_)<;>kernel_rfl)
 ·cases d<;>cases b<;>(revert w;refine byRow2 "comprehension-iter-twice" (λw=>?_) (λw=>?_)<;>kernel_rfl)
 ·exact absurd H (FH.mpr (dG ..))
end
abbrev T9(i:Nat)(P:af)(vs:List ag)(f:Str)(t:ab)(r:Str)(next:aM):aF:= .cons (some 0) (b2 "str.__mod__" (.str f t) (.ref P)) [i] [(P,⟨.type "tuple",none, .seq vs.toArray 0,#[]⟩)] (λy=>⟨.ok (.ret (.str r (y 2))),[(P,⟨.type "tuple",none, .seq vs.toArray 0,#[]⟩)],[],y 0,y 1⟩) next
def Ua(b:Nat):List DE:=nc ([⟨"&",b+1, .str "&amp;" (b+2)⟩,⟨"<",b+3, .str "&lt;" (b+4)⟩,⟨"\"",b+5, .str "&quot;" (b+6)⟩,⟨"\t",b+7, .str "&#x9;" (b+8)⟩,⟨"\n",b+9, .str "&#xA;" (b+10)⟩,⟨"\r",b+11, .str "&#xD;" (b+12)⟩])
def Ub(b:Nat):List DE:=nc ([⟨"&",b+1, .str "&amp;" (b+2)⟩,⟨"<",b+3, .str "&lt;" (b+4)⟩,⟨">",b+5, .str "&gt;" (b+6)⟩,⟨"\r",b+7, .str "&#xD;" (b+8)⟩])
def Uc:List Nat:=(dN 76 0x2102108400f84210801f08421003e10842007c2108400f84210801f2104208c61004010846100401084610040108463)
def UV.an(U:UV)(a b c:ab):List Value:=nc ([.int (U.l 0) a, .int (U.l 64) b, .int (U.l 128) c, .int U.hu U.Bg, .int U.bo U.Be])
def Ud(U:UV)(a b c:ab)(sz tk:Nat)(r:Str):aF:=T9 0 sz (U.an a b c) " c=\"%d %d %d\" h=\"%d\" l=\"%d\"" tk r λx=>cQ U.T r (U.T++r) U.t (x 2) λ_=> .nil
def aNd(b:Bool):List Nat:=(dN 37 0x31082108400f84210801f08421003e10842007c4210842)++(match b with
 |true=>[3,2,3,3]|false=>[])
def Ue(U:UV)(tk:Nat)(r:Str)(nm:List Nat)(b:Bool):aF:=cM "str.__mod__" [.str "\" s=\"%d\">" tk, .int U.pu U.Bh] (λk=> .str r k) λx=>cQ U.T r (U.T++r) U.t (x 2) λy=>match b with
 |true=>cM "str.strip" [.str (aW U.r.nm) U.r.t1, .str " \t\n\r" (y 1+13)] (λk=> .str (aW nm) k) λ_=> .nil|false=> .nil
def UV.sd(U:UV)(r:Str)(nm:List Nat)(b:Bool)(H:Xs):UV:=nc (match b with
 |true=>{ U with T:=U.T++r,t:=H 1 2,r:={ U.r with nm:=nm,t1:=H 2 2 } }|false=>{ U with T:=U.T++r,t:=H 1 2 })
def Uf(b:Bool):Nat:=nc (match b with
 |true=>2|false=>1)
def sdS(b:Bool):Nat:=nc (match b with
 |true=>0|false=>1)
def sdK(b:Bool):Nat:=nc (match b with
 |true=>1|false=>13)
section
variable (w:aj)(k:Nat->ab)(L:af)(U:UV)(o:Option ag)(e sz tk:Nat)(σ:Xs)(r:Str)(nm:List Nat)(a b c:ab)(vs:List ag)
abbrev anR:Rs (Except ag dm×WS):=(aI w 3 0 none 900).S [] σ ⟨[(U.Lt,aA (U.ls a b c) 3),(L+1,ca o),(L,U.aJ w k 21)],sz,tk,Uc,Ud U a b c sz tk r⟩ (aV ((cW.drop 16).take 2) (dT L)) fin
theorem aNe:Ends [0,3,4] (anR w k L U o sz tk σ r a b c) (.ok .next,[(σ 1 0,cE w (Ua (σ 1 1)) 6),(L+1,ca (some (.ref (σ 1 0)))),(L,{ U with T:=U.T++r,t:=σ 1 2 }.aJ w k 21)].map some,σ 1 0+1,σ 1 1+19):=by kernel_rfl
abbrev sdR(d:Bool):Rs (Except ag dm×WS):=(aI w 3 0 none 900).S [] σ ⟨[(L+1,ca o),(L,{ U with b:=d }.aJ w k 21)],sz,tk,aNd d,Ue U tk r nm d⟩ (aV ((cW.drop 19).take 3) (dT L)) fin
theorem aNf(d:Bool):Ends [0,1,2] (sdR w k L U o sz tk σ r nm d) (.ok .next,[(σ 1 0,cE w (Ub (σ 1 1)) 4),(L+1,ca (some (.ref (σ 1 0)))),(L,{ (U.sd r nm d σ)with b:=d }.aJ w k 21)].map some,σ (Uf d) 0+sdS d,σ (Uf d) 1+sdK d):=by induction d<;>kernel_rfl
end
abbrev Ug(i:Nat)(w:aj)(D:af)(l:List DE)(ep:Nat)(k:Str)(u:ab)(v:ag)(next:aM):aF:= .cons (some 0) (bC "dict.get" [.ref D, .str k u, .str k u]) [i] [(D,cE w l ep)] (λx=>⟨.ok (.ret v),[(D,cE w l ep)],[],x 0,x 1⟩) next
def EE(w:aj)(D:af)(l:List DE)(ep:Nat)(f:Nat->ab->Str×ab)(next:List (Str×ab)->aF):List Nat->ab->List (Str×ab)->aF
 |[],_,acc=>next acc|c::cs,t,acc=>Ug 3 w D l ep ⟨#[c]⟩ t (.str (f c t).1 (f c t).2) λx=>EE w D l ep f next cs (x 1) (acc++[f c t])
abbrev lU:Str:=nc (" n=\"")
def Uh(w:aj)(D:af)(l:List DE)(ep:Nat)(f:Nat->ab->Str×ab)(S:Str)(U:UV)(nm:List Nat)(tk:Nat)(a:Bool):aF:=match a with
 |true=>cQ U.T lU (U.T++lU) U.t tk λx=>CX (aW nm) U.r.t1 λy=>EE w D l ep f (λH=>Bc [3] (y 0) "" (x 1) (pJ H) H.length S λz=>cQ (U.T++lU) S (U.T++lU++S) (x 2) (z 2) λ_=> .nil) nm (y 1) []|false=>CX (aW nm) U.r.t1 λy=>EE w D l ep f (λH=>Bc [3] (y 0) "" tk (pJ H) H.length S λz=>cQ U.T S (U.T++S) U.t (z 2) λ_=> .nil) nm (y 1) []
def Ui:List Nat->List Nat->List Nat
 |e,[]=>e|_,_::cs=>(dN 25 0x21080200821210842842318c6018060)++Ui (dN 17 0x84084318c2318c6018060) cs
def aNg(t a:Bool)(nm:List Nat):List Nat:=(match a with
 |true=>[3,2,3,777,2,1,0]|false=>[3,3,777,2,1,0])++((match t with
 |true=>[]|false=>[3,3,777,0,3,0,3])++Ui (dN 15 0x210210c2318c6018060) nm)
abbrev UV.rB(U:UV)(nm:List Nat):UV:=nc ({ U with r:={ U.r with nm:=nm } })
def esJ(a:Bool):Nat:=nc (match a with
 |true=>18|false=>22)
def Kr(a:Bool)(n:Nat):Nat:=nc (match a with
 |true=>n+3|false=>n+2)
def UV.es(U:UV)(S:Str)(a:Bool)(t:ab):UV:=match a with
 |true=>{ U with T:=U.T++lU++S,t:=t }|false=>{ U with T:=U.T++S,t:=t }
section
variable (w:aj)(k:Nat->ab)(L:af)(U:UV)(D:af)(l:List DE)(ep e sz tk:Nat)(f:Nat->ab->Str×ab)(S:Str)(a:Bool)(nm:List Nat)(σ:Xs)(vs:List ag)
abbrev esR:Rs (Except ag dm×WS):=(aI w 3 0 none 900).S [] σ ⟨[(D,cE w l ep),(L+1,ca (some (.ref D))),(L,(U.rB nm).aJ w k 21)],sz,tk,aNg (w.params.followText "comprehension-iter-twice") a nm,Uh w D l ep f S U nm tk a⟩ (aV ((cW.drop (esJ a)).take 1) (dT L)) fin
theorem Uj(hn:nm.length<=2):Ends [5,6,7] (esR w k L U D l ep sz tk f S a nm σ) (.ok .next,[(D,cE w l ep),(L+1,ca (some (.ref D))),(L,((U.rB nm).es S a (σ (Kr a nm.length) 2)).aJ w k 21)].map some,σ (Kr a nm.length) 0,σ (Kr a nm.length) 1+1):=by
 rcases nm with _|⟨c,_|⟨d,_|⟨x,nm⟩⟩⟩
 ·induction a<;>(revert w;refine byRow2 "comprehension-iter-twice" (λw=>?_) (λw=>?_)<;>kernel_rfl)
 ·induction a<;>(revert w;refine byRow2 "comprehension-iter-twice" (λw=>?_) (λw=>?_)<;>kernel_rfl)
 ·induction a<;>(revert w;refine byRow2 "comprehension-iter-twice" (λw=>?_) (λw=>?_)<;>kernel_rfl)
 ·exact absurd hn (FH.mpr (dG ..))
abbrev UV.wd(U:UV)(A:af):WD:=nc (⟨A,U.tg,U.rK,U.P,U.tP,U.F,U.tF,U.B,U.tB⟩)
theorem aNh:bA ((aI w 3 0 none 900).S [] σ ⟨[(U.W,aA vs e),(L,U.aJ w k 21)],sz,tk,[2,1,1,1,1,2,2,2,2,2],il 1 U.W vs e (.ref sz) λ_=> .nil⟩ (aV (cW.drop 23) (dT L)) fin) (.ok .next,[(U.wd sz).o,(U.W,aA (vs++[aN sz]) (e+1)),(L,U.aJ w k 21)],σ 0 0,σ 0 1):=by kernel_rfl
end
noncomputable abbrev bO(n:Int):Str:=gD (toString n)
def iH(a b c d e:Int):Str:=((((((((((" c=\"":Str)++bO a)++" ")++bO b)++" ")++bO c)++"\" h=\"")++bO d)++"\" l=\"")++bO e)++"\""
structure aNi(M:fV)(A:aD)(E:ag->am->Prop)(k:Nat)(f:Nat->List ag×w6×List Nat->cb (ForInStep (List ag×w6×List Nat))):Prop where
 lit:∀{x:Nat}{l:List Nat}{p:List ag}{w:w6}{T:Str}{N:Nat}{r:List Nat}{Q:List ag×w6×List Nat->am->Prop}{s:am}(a rest:List Nat),zc w T N->N<=1000->r.isEmpty=false->r.span (· !=37)=(a,rest)->a.isEmpty=false->(a.length==k)=false->
  (∀w',zc w' (T++⟨a.toArray⟩) (N+a.length)->aG M A (forIn l (p,w',rest) f) Q E s)->aG M A (forIn (x::l) (p,w,r) f) Q E s
 num:∀{x:Nat}{l:List Nat}{p:List ag}{w:w6}{T:Str}{N:Nat}{rest:List Nat}{n:Int}{t:ab}{Q:List ag×w6×List Nat->am->Prop}{s:am},zc w T N->N<=1000->0<=n->n< 10 ^ 10->
  (∀w' k,zc w' (T++bO n) (N+10)->aG M A (forIn l (p,w',rest) f) Q E { s with toks:=k })->aG M A (forIn (x::l) (.int n t::p,w,37::100::rest) f) Q E s
 fin:∀{x:Nat}{l:List Nat}{p:List ag}{w:w6}{T:Str}{N:Nat}{Q:List ag×w6×List Nat->am->Prop}{s:am},zc w T N->N<=1000->Q (p,w,[]) s->aG M A (forIn (x::l) (p,w,[]) f) Q E s
def cr5:List Nat:=nc ([34])
def Uk:List Nat:=37::100::cr5
def Ul:List Nat:=37::100::34::32::108::61::34::Uk
def Um:List Nat:=37::100::34::32::104::61::34::Ul
def Un:List Nat:=37::100::32::Um
def cr0:List Nat:=37::100::32::Un
theorem Uo{Z:Str}{v:ag}{p:List ag}{bt:Bool}{Q:lm->am->Prop}(hI:∀{Q:Bool->am->Prop},Q bt s->aG (aR prog w) A (Mw v (.type "tuple")) Q E s)(hS:∀{Q:Option Str->am->Prop},Q none s->aG (aR prog w) A (asStr? v) Q E s)(hF:∀{Q:Bool->am->Prop},(∀b,Q b s)->aG (aR prog w) A (fillsMappingSlot v) Q E s)(hP:∀{J:List ag->cb lm},aG (aR prog w) A (J p) Q E s->aG (aR prog w) A (if bt=true then(do match <-seqItems? v with|some xs=>let y <-pure xs.toList;J y|none=>let y <-Xe "internal:str.__mod__";J y)else do let y <-pure [v];J y) Q E s)(k:∀J f Q',zc J pG 0->(∀A' E',aNi (aR prog w) A' E' Z.length f)->(∀Y T N s',zc Y T N->N<=1000->(∀t k,Q (.done (.ret (.str T t))) { s' with toks:=k })->Q' ([],Y,[]) s')->aG (aR prog w) A (forIn (Mt 0 Z.length 1) (p,J,Z.cps.toList) f) Q' E s):
  aG (aR prog w) A (aZp (.str Z t) Z v) Q E s:=by
 refine au (hI ?_);refine au (hS ?_);refine au (hF λb=>?_);refine hP (au ?_);refine rR (KPc.range_list ..) (KPc.start ?_);refine λJ Z=>k J _ _ Z ?_ ?_
 ·intro A' E';constructor
  ·intro x l p w T N r Q s a rest g H he Z ha J k;refine X9 (Gi (MG (Ya g (aE H (by decide))) ?_));refine Gi (MG (rR he FN) ?_);refine rR Z (Gi (KPc.ite_yes (by refine rR ha ?_;rfl) ?_));exact aH (KPc.after_add g rfl (KPc.obj_none (if_neg (by exact rR J FN))) k)
  ·intro x l p w T N rest n t Q s g H h0 h1 k;refine X9 (Gi (MG (Ya g (aE H (by decide))) ?_));refine au (m:=Gb [.int n t] (aZq 100 _>>=_)) (fW (pA (Q:=λa J=>a=(aZr { type:=100 } (decide (n< 0)) (bO ((n.natAbs:Nat):Int)).cps.toList,none,true)/\∃k,J={ s with toks:=k }) ?_ (λa J h=>?_) (λz z h=>h)))
   ·refine au (je rfl ?_);refine au (wpAny_mkInt ?_);have J:n.natAbs.log2< 1920:=by kpt_hd
    refine au (call_gives F.slot_int_repr (jK ..) F.entry_int_repr (F.args_int_repr_1 _) (aXd _ _ J) ⟨int_text_fits J,?_⟩);refine au (je rfl ?_);exact aH ⟨rfl,_,rfl⟩
   obtain⟨rfl,J,rfl⟩:=h;refine aH (KPc.after_int g rfl (by kpc_kind) rfl h0 h1 rfl (by kpc_none) ?_);exact λY J=>k Y _ J
  ·intro x l p w T N Q s g H k;refine X9 (Gi (MG (Ya g (aE H (by decide))) ?_));kpc_if;exact aH k
 ·intro Y T N s' g H h;kpc_if;exact KPc.finish_ok g (aE H (by decide)) rfl h
theorem aNj{b:af}{n1 n2 Y Z J:Int}{t3 t4 t5:ab}(h1:0<=n1)(g1:n1< 10 ^ 10)(h2:0<=n2)(g2:n2< 10 ^ 10)(h3:0<=Y)(g3:Y< 10 ^ 10)(h4:0<=Z)(g4:Z< 10 ^ 10)(h5:0<=J)(g5:J< 10 ^ 10):Meets (Builtin.«str.__mod__» ⟨[.str ⟨#[32,99,61,34,37,100,32,37,100,32,37,100,34,32,104,61,34,37,100,34,32,108,61,34,37,100,34]⟩ t, .ref b],[]⟩) (λ_ R s=>WR s.heap b #[.int n1 t1, .int n2 t2, .int Y t3, .int Z t4, .int J t5]/\∀t' k,R (.ok (.ret (.str (iH n1 n2 Y Z J) t'))) { s with toks:=k }):=by apply KPt.meets_tup;intro prog w A s Q E aNk hR;obtain⟨Up,H,Uq,J,Ur⟩:=aNk;refine Uo (λh=>mU ⟨Up,H,Uq⟩ KPt.sub_tt h) (λh=>KPt.asStr_ref H Ur h) (λh=>KPt.fills_ref ⟨Up,H,Uq⟩ h) (λh=>au (wS H Ur (au (aH h)))) λH f H H J Z=>hO λY Y=>Y ((J _ _).lit [32,99,61,34] cr0 H (by decide) rfl rfl rfl rfl λY H=>?_);refine(J _ _).num H (by decide) h1 g1 λY k H=>(J _ _).lit [32] Un H (by decide) rfl rfl rfl rfl λY H=>(J _ _).num H (by decide) h2 g2 λY k H=>(J _ _).lit [32] Um H (by decide) rfl rfl rfl rfl λY H=>(J _ _).num H (by decide) h3 g3 λY k H=>(J _ _).lit [34,32,104,61,34] Ul H (by decide) rfl rfl rfl rfl λY H=>(J _ _).num H (by decide) h4 g4 λY k H=>(J _ _).lit [34,32,108,61,34] Uk H (by decide) rfl rfl rfl rfl λY H=>(J _ _).num H (by decide) h5 g5 λY k H=>(J _ _).lit [34] [] H (by decide) rfl rfl rfl rfl λY H=>(J _ _).fin H (by decide) (Z _ _ _ _ H (by decide) ?_);exact λt k=>hR t k
def j5(a:Int):Str:=(("\" s=\"":Str)++bO a)++"\">"
theorem aNl{n:Int}(h1:0<=n)(g1:n< 10 ^ 10)(H:n.natAbs.log2< 1920)(H:((n.natAbs:Nat):Int).natAbs.log2< 1920):Meets (Builtin.«str.__mod__» ⟨[.str ⟨#[34,32,115,61,34,37,100,34,62]⟩ t, .int n u],[]⟩) (λ_ R s=>∀t' k,R (.ok (.ret (.str (j5 n) t'))) { s with toks:=k }):=by apply KPc.meets_of;refine λprog w A s Q E hR=>rR (KPc.entry_is ..) (Uo (λh=>mU (jK ..) F.sub_int_tuple h) (λh=>je rfl h) (λh=>je (KPc.fills _ _) (h _)) (λh=>au (aH h)) λH f H H J Z=>?_);refine hO λY Y=>Y ((J _ _).lit [34,32,115,61,34] [37,100,34,62] H (by decide) rfl rfl rfl rfl λY H=>?_);refine(J _ _).num H (by decide) h1 g1 λY k H=>(J _ _).lit [34,62] [] H (by decide) rfl rfl rfl rfl λY H=>(J _ _).fin H (by decide) (Z _ _ _ _ H (by decide) ?_);exact λt k=>hR t k
section
theorem yz{J:Nat}{c:bB}{l:af}(Y:∀H:aD,H.handled=none->Told True (av w) H H.units none aa c [(l,o)] out)(k:∀x lv,(next x).Ok True (av w) A U fr aa lv):(aF.cons (some J) c [i] [(l,o)] out next).Ok True (av w) A U fr aa lv:=⟨rfl,cj.mpr ⟨bi,bN⟩,λH J z=>Y H J,λx z z=>k x _⟩
structure Sm(n:Int):Prop where
 lo:0<=n
 hi:n< 10 ^ 10
theorem Sm.log{n:Int}(h:Sm n):n.natAbs.log2< 1920:=shown (kW (by decide) h.lo) (L6 h.hi (by decide)) (fx _)
theorem aNm{P:af}{d e:Int}{ta tc td te:ab}(Z:Sm a)(J:Sm b)(hc:Sm c)(hd:Sm d)(Y:Sm e)(k:∀x lv,(next x).Ok True (av w) A U fr aa lv):(T9 i P [.int a ta, .int b tb, .int c tc, .int d td, .int e te] " c=\"%d %d %d\" h=\"%d\" l=\"%d\"" t (iH a b c d e) next).Ok True (av w) A U fr aa lv:=by refine yz (λA' z=>?_) k;refine λu s ak R hu H j hR=>dK MH.plain aXv (MH.check _ _ _ _ _ _ _ _ (ic ..) (aXw _ _) ((aNj Z.lo Z.hi J.lo J.hi hc.lo hc.hi hd.lo hd.hi Y.lo Y.hi) _ _ _ R s ⟨⟨_,(H.h.at_ _ ay),rfl,0,rfl⟩,λJ tk=>?_⟩));exact hR (λi=>bif bZ i 0 then s.heap.objs.size else bif bZ i 1 then tk else J) _ rfl rfl rfl (λp J=>absurd J bi) ⟨H.h,H.os,H.gens,H.same⟩ λb o H J=>H
theorem aNn{n:Int}(hn:Sm n)(k:∀x lv,(next x).Ok True (av w) A U fr aa lv):(cM "str.__mod__" [.str "\" s=\"%d\">" t, .int n u] (λk=> .str (j5 n) k) next).Ok True (av w) A U fr aa lv:=by refine dZ (λH=>?_) λx z=>k x _;refine λv s ak R H H j Y=>dK MH.plain aXv (MH.check _ _ _ _ _ _ _ _ (ic ..) (aXw _ _) ((aNl hn.lo hn.hi hn.log hn.log) _ _ _ R s λJ tk=>?_));exact Y (λi=>bif bZ i 0 then s.heap.objs.size else bif bZ i 1 then tk else J) _ rfl rfl rfl (λp J=>absurd J bi) ⟨H.h,H.os,H.gens,H.same⟩ λb o H J=>H
theorem aNo{x y z:Str}(h:Yb y.cps.contains true true x=z)(H:MI y.cps.contains true true x=true->x=z)(J:z.length<=gA)(k:∀x lv,(next x).Ok True (av w) A U fr aa lv):(cM "str.strip" [.str x t, .str y u] (λk=> .str z k) next).Ok True (av w) A U fr aa lv:=dZ (λj=>eO aW3 aW4 (PySem.F.args_str_strip_2 _ _) (gives_str_strip_chars x y t u) (λs=>ic ..) λQ s c=>by
  induction q:MI y.cps.contains true true x with
  |true=>exact rR (if_pos rfl) (rR (H q) (c t s.toks))|false=>refine rR (if_neg (by decide)) (rR h ?_);exact⟨J,c _ _⟩) λx j=>k x _
theorem aNp{q:Int}(H:¬(b==0)=true)(J:b.natAbs< 2 ^ 1000)(h:a.fdiv b=q)(k:∀x lv,(next x).Ok True (av w) A U fr aa lv):(iO "int.__floordiv__" a b q t u next).Ok True (av w) A U fr aa lv:=by
 subst h;refine dZ (λz=>eO PySem.F.slot_int_floordiv PySem.F.entry_int_floordiv (PySem.F.args_int_floordiv_2 _ _) (aZs a t b u H ?_) (λs=>jK ..) λQ s k=>k _ _) λe z=>k e _;have:b.natAbs.log2< 1000:=(aT3 (λh=>H (beq_iff_eq.mpr (Int.natAbs_eq_zero.mp h)))).mpr J;have J:decide ((if(b==0)=true then 0 else b.natAbs.log2 / 30+1) >300)=false:=by exact rR (if_neg H) (decide_eq_false (dA.mpr (fA [lL Y1 1000,lE (Ax.m 30 Y0) Y1] (lE (Y0+1) 300) [1,1] 30 rfl this (aU0 _ _))))
 show ¬(decide _ && _)=true;exact rR (J ..) (rR (Bool.false_and ..) FN)
theorem aNq{l:af}{J:List (Str×ab)}{x:Str}{b:Bool}(hb:J.any (λp=>decide (p.1=x))=b)(k:∀x lv,(next x).Ok True (av w) A U fr aa lv):(T5 i l (J.map λp=>ag.str p.1 p.2) e x t b next).Ok True (av w) A U fr aa lv:=by
 refine yz (λA' z=>?_) k;intro u s ak R hu H j hR;have Z:=H.h.at_ _ ay;let f:ag->Bool:=λv=>match v with
  | .str y _=>decide (y=x)|_=>false
 have g:=MeetsSeq.list_contains l (J.map λp=>ag.str p.1 p.2).toArray e (.str x t) f (λy hy=>by
  refine aO (bq.mp (F9.mp hy)) λp j Y=>?_;subst Y;exact λprog w A E s Q h=>My h);have hf:(J.map λp=>ag.str p.1 p.2).toArray.any f=b:=by
  simp only[<-hb,List.any_toArray,Yc];rfl
 refine dK aXx.plain PySem.F.entry_list_contains (aXx.check _ _ _ _ _ _ _ _ ⟨_,Z,rfl⟩ (PySem.F.args_list_contains_2 _ _) (g _ _ _ R s ⟨Z,?_⟩));exact rR hf (hR (λi=>bif bZ i 0 then s.heap.objs.size else s.toks) s rfl rfl rfl (λp J=>absurd J bi) ⟨H.h,H.os,H.gens,H.same⟩ λb o H J=>H)
theorem aNr{l:List DE}{c:Str}{v:ag}(Z:(l.map (·.k)).Nodup)(Y:(D==ie)=false)(hv:(g7 (fZ l) c).getD (.str c u)=v)(k:∀x lv,(next x).Ok True (av w) A U fr aa lv):(Ug i w D l ep c u v next).Ok True (av w) A U fr aa lv:=by refine yz (λH j=>?_) k;intro z s ak R H H q hR;have J:=y5.mpr ⟨_,H.h.at_ _ ay,vW w l ep Z⟩;refine dK MB.plain aWq (MB.check _ _ _ _ _ _ _ _ J.typeIs (PySem.F.args_dict_get_3 ..) (meets_dict_get_default _ D (ml ..) Y _ _ R s ⟨_,J.mapOf,?_⟩));exact rR hv (hR (λi=>bif bZ i 0 then s.heap.objs.size else s.toks+1) _ rfl rfl rfl (λp J=>absurd J bi) ⟨H.h,H.os,H.gens,H.same⟩ λb o H J=>H)
theorem Ks{l:List (Str×ab)}{S:Str}(J:sw ((l.map (·.1)).toArray.foldl (· +·.length+("":Str).length) 0)=false)(hz:S.length<=gA)(hS:jf "" (l.map (·.1))=S)(k:∀x lv,(next x).Ok True (av w) A U fr aa lv):(Bc [i] D "" t (pJ l) e S next).Ok True (av w) A U fr aa lv:=by
 refine yz (λY z=>?_) k;refine λu s ak R Y H j hR=>dK ME.plain XW (ME.check _ _ _ _ _ _ _ _ (ic s "" t) (aW2 _ _) ((XX "" t D l J) _ _ _ R s ⟨⟨_,H.h.at_ _ ay,rfl,_,rfl⟩,?_⟩));have Z:∀J Y,R (.ok (.ret (.str S J))) { s with toks:=Y }:=λJ Y=>hR (λi=>bif bZ i 0 then s.heap.objs.size else bif bZ i 1 then Y else J) _ rfl rfl rfl (λp J=>absurd J bi) ⟨H.h,H.os,H.gens,H.same⟩ λb o H J=>H;induction l using px with
 |nil=>subst hS;exact⟨hz,Z _ _⟩|cons p l=>
  induction l using px with
  |nil=>
   have:p.1=S:=by refine rL hS ?_;rfl
   show R _ s;exact this▸Z p.2 s.toks
  |cons b r=>subst hS;exact⟨hz,Z _ _⟩
end
section
theorem ln{x y:Str}{a b:Nat}(J:x.length<=a)(H:y.length<=b):(x++y).length<=a+b:=rR (X5 ..) (Fx J H)
theorem gP{x y z:Str}{a b:Nat}(h:x++y=z)(J:x.length<=a)(H:y.length<=b)(Y:yO (a+b) 16777216=true)(k:bJ next True w A U fr aa):(cQ x y z t u next).Ok True (av w) A U fr aa lv:=n6 h (aE (Fx J H) (dk Y)) k
end
theorem rM(x:Nat):(⟨#[x]⟩:Str).length<=1:=a8 _
section
variable {V:Nat}
theorem aNs{W:af}{B:List ag}{dp:Int}(hn:n<=100):∀(ys:List WD)(T:Str)(t:ab)(e m:Nat)(lv:List af),(∀y∈ys,y.tg.length<=3)->B.length=n->ys.length<=100->T.length<=m->m+6*ys.length<=100000->(∀j,j< ys.length->((n+j+1:Nat):Int) >dp)->¬(n:Int) >dp->(Kn W B n dp u ys T t e).Ok True (av w) A V none aa lv:=by
 have hl:∀ys:List WD,(dE B ys).length=B.length+ys.length:=λys=>by
  induction ys with
  |nil=>rfl|cons y ys ih=>show(dE B ys++[_]).length=_;simp only[bQ,ih,eI];rfl
 intro ys;induction ys with
 |nil=>exact λT t e m lv q J q q q q Z=>AP (hl []|>.trans (by refine rR J ?_;rfl)) (aE hn (by decide)) λa v=>qZ (decide_eq_false Z) λv v=>True.intro|cons y ys ih=>intro T t e m lv Y J H hT hm hj Z;have l1:=aE hT (aE (fG ..) hm);have l2:(T++"</").length<=100002:=ln (b:=2) l1 (by decide+kernel);exact AP ((hl _).trans (rR J rfl)) (aT [lE Y0 100,lE (Y1+1) 100] (lE (Y0+(Y1+1)) 1001) rfl hn H) λa v=>qZ (decide_eq_true (hj ys.length (wW _))) λc v=>gP rfl l1 (b:=2) (by decide+kernel) rfl λd v=>⟨rfl,cj.mpr ⟨bi,bN⟩,λA' v v=>xf _ _ _ _ (rR (hl ..) (rR (J ..) (aT [lE Y0 100,lE (Y1+1) 100] (lE (Y0+Y1) 1000) rfl hn H))),λv v v=>gP rfl l2 (Y y ay) rfl λf v=>gP rfl (ln l2 (Y y ay)) (b:=1) (by decide+kernel) rfl λg v=>ih _ _ _ _ _ (λz hz=>Y z (aB hz)) J (cT H) (ln (b:=1) (ln (ln hT (by decide+kernel)) (Y y ay)) (by decide+kernel)) (aT [lE (Y0+(Ax.m 6 (Y1+1))) 100000] (lE (Y0+6+(Ax.m 6 Y1)) 100000) rfl hm) (λj h=>hj j (aWe h)) Z⟩
structure In(a b x:Int):Prop where
 lo:a<=x
 hi:x<=b
theorem In.mul{x y:Int}(h:In (-100000000) 100000000 x):IntMulOk x y:= .of_left (intBits_le_64 (aXy (by decide) h.lo) (jF h.hi (by decide)))
variable {U:UV}
theorem aNt{y:WD}{Y:List ag}{tb:Nat}{H J:Int}(hd:U.r.dp>0)(hF:In (-100000000) 100000000 y.fu)(hB:In (-100000000) 100000000 y.br)(e2:y.fu*U.r.sh=H)(Z:y.br*U.r.va=J):(TL U y Y e tb H J).Ok True (av w) A V none aa lv:=qZ (decide_eq_true hd) λz z=>yz (λH z=>Az _ _ _ _ _) λz z=>EB e2 hF.mul λz z=>EB Z hB.mul λz z=>True.intro
theorem aNu{tb:Nat}(hd:¬U.r.dp>0):(TM U tb).Ok True (av w) A V none aa lv:=qZ (decide_eq_false hd) λz z=>True.intro
theorem Kt(J:aK w aa)(H:aa.NoLimit){P F B:Int}{tF tB:ab}(Z:In (-100000000) 100000000 F)(Y:In (-100000000) 100000000 B)(k:bJ next True w A V none aa):(ED P F B tF tB c t next).Ok True (av w) A V none aa lv:=aM7 λz z=>C1 J H rfl λz z=>C1 J H rfl λz z=>aDp J H rfl λz z=>EB rfl Z.mul λz z=>EB rfl Y.mul λz z=>k _ _
theorem aNv(J:aK w aa)(H:aa.NoLimit)(Z:In (-100000000) 100000000 U.F)(Y:In (-100000000) 100000000 U.B):(TX U sz tk).Ok True (av w) A V none aa lv:=Kt J H Z Y λz z=>Kt J H Z Y λz z=>Kt J H Z Y λz z=>TS J H rfl λz z=>TU J H rfl λz z=>TS J H rfl λz z=>TU J H rfl λz z=>True.intro
theorem aNw(x:Nat):(⟨#[x]⟩:Str)++":c"=gO x:=by rfl
structure Ku(P:Int)(x:Nat):Prop where
 r:(decide ((3*P).fdiv 32< -(2 ^ 63:Int))||decide ((3*P).fdiv 32>=2 ^ 63))=false
 a:(pC ((3*P).fdiv 32) ("rygcbm":Str).length).bind (("rygcbm":Str).cps[·]?)=some x
structure aNx(U:UV)(x:Nat)(m q:Int):Prop where
 l:Ku U.P x
 e:min U.bo (4194304 - U.bo)=m
 z:¬(m==0)=true
 b:m.natAbs< 2 ^ 1000
 q:(1024*U.ap).fdiv m=q
theorem aNy(Z:aK w aa)(Y:aa.NoLimit){x:Nat}{q:Int}{d:Bool}(hd:decide (U.ap>0)=d)(h:d=true->aNx U x m q)(H:U.T.length<=100000)(hg:U.tg.length<=3):(TZ U tk x m q d).Ok True (av w) A V none aa lv:=by
 refine qZ hd λz z=>?_;have J:(U.T++"<").length<=100001:=ln (b:=1) H (by decide+kernel);induction d with
 |true=>have c:=h rfl;exact AY c.l.r c.l.a λz z=>gP (aNw x) (rM x) (b:=2) (by decide+kernel) rfl λz z=>C1 Z Y c.e λz z=>aNp c.z c.b c.q λz z=>gP rfl H (b:=1) (by decide+kernel) rfl λz z=>gP rfl J (b:=3) (a8 _) rfl λz z=>True.intro|false=>exact gP rfl H (b:=1) (by decide+kernel) rfl λz z=>gP rfl J hg rfl λz z=>True.intro
theorem aNz{H:List WD}{x:Nat}{d b:Bool}(hd:decide (U.ap>0)=d)(J:H.any (λy=>decide (y.tg=U.tg))=b)(Z:d=true->(pC 0 U.tg.length).bind (U.tg.cps[·]?)=some x)(Y:U.T.length<=100000):(T6 U H tk x d b).Ok True (av w) A V none aa lv:=by
 refine qZ hd λz z=>?_;induction d with
 |false=>exact True.intro|true=>
  have e:(H.map λy=>ag.str y.tg y.t)=(H.map λy=>(y.tg,y.t)).map λp=>ag.str p.1 p.2:=by refine rR BH ?_;rfl
  refine rR e (aNq (rR Yc J) λz z=>?_);induction b with
  |true=>exact True.intro|false=>
   have r0:(decide ((0:Int)< -(2 ^ 63:Int))||decide ((0:Int)>=2 ^ 63))=false:=by decide
   have H:(U.T++" xmlns:").length<=100007:=ln (b:=7) Y (by decide+kernel);have J:=ln H (rM x);have l3:(U.T++" xmlns:"++⟨#[x]⟩++"=\"urn:").length<=100014:=ln (b:=6) J (by decide+kernel);exact gP rfl Y (b:=7) (by decide+kernel) rfl λz z=>AY r0 (Z rfl) λz z=>gP rfl H (rM x) rfl λz z=>gP rfl J (b:=6) (by decide+kernel) rfl λz z=>AY r0 (Z rfl) λz z=>gP rfl l3 (rM x) rfl λz z=>gP rfl (ln l3 (rM x)) (b:=1) (by decide+kernel) rfl λz z=>True.intro
theorem aN0{a b c:ab}(h0:Sm (U.l 0))(h1:Sm (U.l 64))(H:Sm (U.l 128))(h3:Sm U.hu)(J:Sm U.bo)(Y:U.T.length<=100000)(Z:(iH (U.l 0) (U.l 64) (U.l 128) U.hu U.bo).length<=100000):(Ud U a b c sz tk (iH (U.l 0) (U.l 64) (U.l 128) U.hu U.bo)).Ok True (av w) A V none aa lv:=aNm h0 h1 H h3 J λz z=>gP rfl Y Z rfl λz z=>True.intro
structure Kv(a b:List Nat):Prop where
 s:Yb (" \t\n\r":Str).cps.contains true true (aW a)=aW b
 e:MI (" \t\n\r":Str).cps.contains true true (aW a)=true->aW a=aW b
 l:b.length<=100
theorem aN1{d:Bool}(J:Sm U.pu)(H:d=true->Kv U.r.nm nm)(Y:U.T.length<=100000)(Z:(j5 U.pu).length<=100000):(Ue U tk (j5 U.pu) nm d).Ok True (av w) A V none aa lv:=by
 refine aNn J λz z=>gP rfl Y Z rfl λz z=>?_;induction d with
 |true=>exact aNo (H rfl).s (H rfl).e (aE (H rfl).l (by decide)) λz z=>True.intro|false=>exact True.intro
end
def rN(a:Bool)(c:Nat):Str:=nc (cond (c==38) "&amp;" (cond (c==60) "&lt;" (match a with
 |true=>cond (c==34) "&quot;" (cond (c==9) "&#x9;" (cond (c==10) "&#xA;" (cond (c==13) "&#xD;" ⟨#[c]⟩)))|false=>cond (c==13) "&#xD;" (cond (c==62) "&gt;" ⟨#[c]⟩))))
def nG(a:Bool)(b:Nat):List DE:=match a with
 |true=>Ua b|false=>Ub b
def wA(l:List DE)(c:Nat)(t:ab):Str×Tok:=match (g7 (fZ l) ⟨#[c]⟩).getD (.str ⟨#[c]⟩ t)with
 | .str s u=>(s,u)|_=>("",0)
theorem key_ne{c d:Nat}{k:Str}(H:k=⟨#[d]⟩)(h:c≠d):¬k=⟨#[c]⟩:=λe=>by rw[H]at e;have:=congrArg (λs:Str=>s.cps.toList) e;rw[uL]at this;exact h this.1.symm
theorem qo{c d:Nat}{k:Str}{v:ag}{l:List (Str×ag)}(H:k=⟨#[d]⟩)(h:c≠d):g7 ((k,v)::l) ⟨#[c]⟩=g7 l ⟨#[c]⟩:=by have:=key_ne H h;simp[g7,this]
theorem Us:("&":Str)=⟨#[38]⟩:=by decide+kernel
theorem Ut:("<":Str)=⟨#[60]⟩:=by decide+kernel
theorem k62:(">":Str)=⟨#[62]⟩:=by decide+kernel
theorem k34:("\"":Str)=⟨#[34]⟩:=by decide+kernel
theorem k9:("\t":Str)=⟨#[9]⟩:=by decide+kernel
theorem k10:("\n":Str)=⟨#[10]⟩:=by decide+kernel
theorem Uu:("\r":Str)=⟨#[13]⟩:=by decide+kernel
theorem uw{b:Bool}{x y z:Str}(h:b=false)(k:y=z):cond b x y=z:=by subst h;exact k
theorem Uv{a:Bool}{c:Nat}(Z:c≠38)(Y:c≠60)(H:a=true->c≠34/\c≠9/\c≠10)(J:c≠13)(h5:a=false->c≠62):rN a c=⟨#[c]⟩:=by
 refine uw (beq_false_of_ne Z) (uw (beq_false_of_ne Y) ?_);induction a with
 |true=>exact uw (beq_false_of_ne (H rfl).1) (uw (beq_false_of_ne (H rfl).2.1) (uw (beq_false_of_ne (H rfl).2.2) (uw (beq_false_of_ne J) rfl)))|false=>exact uw (beq_false_of_ne J) (uw (beq_false_of_ne (h5 rfl)) rfl)
theorem Uw(a:Bool)(b c:Nat)(t:ab):∃u,(g7 (fZ (nG a b)) ⟨#[c]⟩).getD (.str ⟨#[c]⟩ t)= .str (rN a c) u:=by
 induction a with
 |true=>
  show ∃u,(g7 [(("&":Str), .str "&amp;" _),("<", .str "&lt;" _),("\"", .str "&quot;" _),("\t", .str "&#x9;" _),("\n", .str "&#xA;" _),("\r", .str "&#xD;" _)] _).getD _= .str _ u;by_cases Y:c=38;·subst Y;exact⟨_,by rfl⟩
  refine rR (qo Us Y) ?_;by_cases H:c=60;·subst H;exact⟨_,by rfl⟩
  refine rR (qo Ut H) ?_;by_cases Z:c=34;·subst Z;exact⟨_,by rfl⟩
  refine rR (qo k34 Z) ?_;by_cases J:c=9;·subst J;exact⟨_,by rfl⟩
  refine rR (qo k9 J) ?_;by_cases h5:c=10;·subst h5;exact⟨_,by rfl⟩
  refine rR (qo k10 h5) ?_;by_cases h6:c=13;·subst h6;exact⟨_,by rfl⟩
  exact rR (qo Uu h6) (rR (Uv Y H (λz=>⟨Z,J,h5⟩) h6 aXz) ⟨t,rfl⟩)
 |false=>
  show ∃u,(g7 [(("&":Str), .str "&amp;" _),("<", .str "&lt;" _),(">", .str "&gt;" _),("\r", .str "&#xD;" _)] _).getD _= .str _ u;by_cases Y:c=38;·subst Y;exact⟨_,by rfl⟩
  refine rR (qo Us Y) ?_;by_cases H:c=60;·subst H;exact⟨_,by rfl⟩
  refine rR (qo Ut H) ?_;by_cases Z:c=62;·subst Z;exact⟨_,by rfl⟩
  refine rR (qo k62 Z) ?_;by_cases J:c=13;·subst J;exact⟨_,by rfl⟩
  exact rR (qo Uu J) (rR (Uv Y H aXz J (λz=>Z)) ⟨t,rfl⟩)
theorem aN2(a:Bool)(b c:Nat)(t:ab):(g7 (fZ (nG a b)) ⟨#[c]⟩).getD (.str ⟨#[c]⟩ t)= .str (wA (nG a b) c t).1 (wA (nG a b) c t).2:=by obtain⟨u,e⟩:=Uw ..;unfold wA;exact rR e rfl
theorem aN3(a:Bool)(b c:Nat)(t:ab):(wA (nG a b) c t).1=rN a c:=by obtain⟨u,e⟩:=Uw ..;unfold wA;exact rR e rfl
theorem aN4(a:Bool)(b:Nat):((nG a b).map (·.k)).Nodup:=by
 induction a with
 |true=>show [("&":Str),"<","\"","\t","\n","\r"].Nodup;decide+kernel|false=>show [("&":Str),"<",">","\r"].Nodup;decide+kernel
theorem ux{b:Bool}{x y:Str}(J:x.length<=n)(H:y.length<=n):(cond b x y).length<=n:=by
 induction b with
 |false=>exact H|true=>exact J
theorem Ux(a:Bool)(c:Nat):(rN a c).length<=6:=by
 refine ux (by decide+kernel) (ux (by decide+kernel) ?_);induction a with
 |true=>exact ux (by decide+kernel) (ux (by decide+kernel) (ux (by decide+kernel) (ux (by decide+kernel) (by decide:1<=6))))|false=>exact ux (by decide+kernel) (ux (by decide+kernel) (by decide:1<=6))
section
variable {V:Nat}
theorem Uy{a:Bool}{b:Nat}(J:(D==ie)=false){next:List (Str×ab)->aF}:∀(nm:List Nat)(t:ab)(H:List (Str×ab))(lv:List af),(∀l lv,l.map (·.1)=H.map (·.1)++nm.map (rN a)->(next l).Ok True (av w) A V none aa lv)->(EE w D (nG a b) ep (wA (nG a b)) next nm t H).Ok True (av w) A V none aa lv:=by
 intro nm;induction nm with
 |nil=>exact λt H lv k=>k H lv (by simp only[wR,dR])|cons c nm ih=>refine λt H lv k=>aNr (aN4 a b) J (aN2 ..) λx lv=>ih _ _ _ λl lv h=>k l lv ?_;simp only[h,bM,iK,wR,iK,aN3,bH];rfl
def gQ(a:Bool)(nm:List Nat):Str:=jf "" (nm.map (rN a))
theorem EG{a:Bool}(h:nm.length<=2):(gQ a nm).length<=12:=by
 have e:("":Str).length=0:=by decide+kernel
 have:=D7 6 (nm.map _) λs J=>by refine aO (bq.mp J) λc z H=>?_;subst H;exact Ux a c
 rw[dB]at this;unfold gQ;exact rR (Gg ..) (rR (e ..) (nA [_,_,_,_,_] [lE Y2 2,lE Y0 Y3,eQ Y1 (Ax.m 0 Y4),eQ Y3 (Ax.m 6 Y2)] (lE (Y0+Y1) 12) [6,1,1,1] 1 rfl h this (dW _ _) (dW _ _)))
theorem Uz{b:Nat}{U:UV}(hD:(D==ie)=false)(hn:nm.length<=2)(ha:∀c∈nm,c< 128)(Y:U.T.length<=100000)(a:Bool):(Uh w D (nG a b) ep (wA (nG a b)) (gQ a nm) U nm tk a).Ok True (av w) A V none aa lv:=by
 have bp:(aW nm).cps.all (· < 128)=true:=by rw[aXk,r5];exact λc hc=>decide_eq_true (ha c hc)
 have Z:=EG (a:=a) hn;have H:∀l:List (Str×ab),l.map (·.1)=([]:List (Str×ab)).map (·.1)++nm.map _->sw ((l.map (·.1)).toArray.foldl _ 0)=false/\jf "" (l.map (·.1))=gQ a nm:=λl h=>by rw[h];exact⟨(TA (by exact rR (dB ..) (fA [lE Y1 2,eQ Y0 (Ax.m 6 Y1)] (lE Y0 1000000) [6,1] 1 rfl hn (dW _ _))) λs J=>by refine aO (bq.mp (show s∈nm.map _ from J)) λc j eq1=>?_;subst eq1;exact Ux a c).1,rfl⟩
 have J:(gQ a nm).length<=sizeLine:=aE Z (by decide);induction a with
 |true=>exact gP rfl Y (b:=4) (by decide+kernel) rfl λz z=>Hw bp λz z=>Uy hD nm _ _ _ λl z h=>Ks (H l h).1 J (H l h).2 λz z=>gP rfl (ln (b:=4) Y (by decide+kernel)) Z rfl λz z=>True.intro|false=>exact Hw bp λz z=>Uy hD nm _ _ _ λl z h=>Ks (H l h).1 J (H l h).2 λz z=>gP rfl Y Z rfl λz z=>True.intro
end
def UA(m:Nat)(k:Nat->ab)(tk i:Nat):Tok:=nc (bif Ft i m then k i else tk+(i - 4))
def EH(m:Nat):Nat:=nc (match m with
 |4=>10|m=>m)
def UB:List Nat:=(dN 84 0x294a5294a5294a50842208401004211042008021088210040108441080200842208401004211042008021088210040108020f8421)
section
variable (w:aj)(k:Nat->ab)(L:af)(U:UV)(r:FR)(sz tk m:Nat)(σ:Xs)
abbrev aN5:Rs (Except ag Unit×WS):=(aI w 0 0 none 600).S [] σ ⟨[(r.a,r.o),(L,U.aJ w k m)],sz,tk,UB, .nil⟩ (pF (mL iG 2) (dT L) (.ref r.a)) fin
theorem aN6(H:m=4\/m=21):Ends [3,4] (aN5 w k L U r sz tk m σ) (.ok (),[(r.a,r.o),(L,{ U with r:=r }.aJ w (UA m k tk) (EH m))].map some,sz+3,tk+6):=by rcases H with rfl|rfl<;>kernel_rfl
theorem aN7(R I:af)(i:Nat)(a:af):bA ((aI w 0 0 none 300).S [] σ ⟨[(I,dh R i)],sz,tk,[1], .nil⟩ (uU (mL iG 2) (.ref I) (.ref a)) fin) (.ok (),[(I,dh R i)],sz,tk):=by kernel_rfl
end
theorem aN8:cW=cW.take 1++((cW.drop 1).take 5++(((cW.drop 6).take 7++(cW.drop 13).take 2)++((cW.drop 15).take 1++(((cW.drop 16).take 2++((cW.drop 18).take 1++((cW.drop 19).take 3++(cW.drop 22).take 1)))++cW.drop 23)))):=by kernel_rfl
structure UC(U V:UV)(Lt:af)(T tg:Str)(hu pu:Int):Prop where
 R:V.R=U.R
 b:V.b=U.b
 W:V.W=U.W
 r:V.r=U.r
 P:V.P=U.P
 F:V.F=U.F
 B:V.B=U.B
 Lt:V.Lt=Lt
 T:V.T=T
 tg:V.tg=tg
 hu:V.hu=hu
 bo:V.bo=U.mx+U.mn
 ap:V.ap=U.mx - U.mn
 pu:V.pu=pu
def rO(d:Bool)(x:Nat):Str:=match d with
 |true=>gO x|false=>"c"
def lV(d:Bool)(n:Int):Int:=nc (match d with
 |true=>n|false=>0)
section
variable {k:Nat->ab}
theorem aN9(X1:aK w aq)(aU:aq.NoLimit)(hA:A.handled=none)(bz:A.depth+3<=bk){U:UV}{m x:Nat}{mm q:Int}{d:Bool}(hm:m=13\/m=21)(hF:In (-100000000) 100000000 U.F)(hB:In (-100000000) 100000000 U.B)(hd:decide (U.mx - U.mn>0)=d)(hl:d=true->Ku U.P x/\min (U.mx+U.mn) (4194304 - (U.mx+U.mn))=mm/\¬(mm==0)=true/\mm.natAbs< 2 ^ 1000/\(1024*(U.mx - U.mn)).fdiv mm=q)(hT:U.T.length<=100000)(SR:ax True aq ak ((L,U.aJ w k m)::ro) s)(h:∀H a b c k' V s',UC U V H (U.T++"<"++rO d x) (rO d x) (lV d U.P) (lV d q)->ax True aq ak ((H,aA (U.ls a b c) 3)::(L,V.aJ w k' 21)::ro) s'->Q .next s'):aG (av w) A (aV ((cW.drop 6).take 7++(cW.drop 13).take 2) (dT L)) Q E s:=by
 refine da (fO SR X1 aU hA 3 900 TY [4,5] _ (λaP z X2 Y z=>aNv X2 Y hF hB) bz (by decide) _ _ _ _ (λJ=>aM8 w k L U _ _ J m hm) λJ s1 Z z z z=>?_);generalize s.heap.objs.size=H at Z;generalize hV:U.lit H s.toks J=V at Z;have J:=hV.symm;refine du (a:=[(L,V.aJ ..)]) (bj Z (jL ..)) X1 aU hA 3 900 _ _ (λaP z X2 Y z=>aNy X2 Y (J▸hd) (λe=>?_) (J▸hT) (by refine rR J ?_;show("c":Str).length<=3;decide+kernel)) bz _ _ _ _ (λY=>aNb w _ L V _ _ Y x mm q d) λY Y Z z z z=>?_;·exact qI (hl e) λa b c e f=>rR J ⟨a,b,c,e,f⟩
 refine h H _ _ _ _ _ Y ?_ (bj Z (jL ..));refine rR J ?_;induction d with
 |true=>exact⟨rfl,rfl,rfl,rfl,rfl,rfl,rfl,rfl,rfl,rfl,rfl,rfl,rfl,rfl⟩|false=>exact⟨rfl,rfl,rfl,rfl,rfl,rfl,rfl,rfl,rfl,rfl,rfl,rfl,rfl,rfl⟩
structure UD(U V:UV)(T:Str):Prop where
 R:V.R=U.R
 b:V.b=U.b
 W:V.W=U.W
 P:V.P=U.P
 F:V.F=U.F
 B:V.B=U.B
 T:V.T=T
 tg:V.tg=U.tg
noncomputable def rP(b:Bool)(nm mO:List Nat):List Nat:=match b with
 |true=>mO|false=>nm
theorem aOa(X1:aK w aq)(aU:aq.NoLimit)(hA:A.handled=none)(bz:A.depth+3<=bk)(hs:∀D:af,aq.get? D=none->(D==ie)=false){U:UV}{o:Option ag}{a b c:ab}{mO:List Nat}(h0:Sm (U.l 0))(h1:Sm (U.l 64))(h2:Sm (U.l 128))(h3:Sm U.hu)(h4:Sm U.bo)(h5:Sm U.pu)(hn:U.r.nm.length<=2)(hc:∀c∈U.r.nm,c< 128)(rm:mO.length<=2)(AW:∀c∈mO,c< 128)(aZ:U.b=true->Kv U.r.nm mO)(hT:U.T.length<=50000)(hr:(iH (U.l 0) (U.l 64) (U.l 128) U.hu U.bo).length<=1000)(De:(j5 U.pu).length<=1000)(SR:ax True aq ak ((U.Lt,aA (U.ls a b c) 3)::(L+1,ca o)::(L,U.aJ w k 21)::ro) s)(h:∀o' V s',UD U V (U.T++iH (U.l 0) (U.l 64) (U.l 128) U.hu U.bo++lU++gQ true U.r.nm++j5 U.pu++gQ false (rP U.b U.r.nm mO))->ax True aq ak ((L+1,ca o')::(L,V.aJ w k 21)::ro) s'->Q .next s'):aG (av w) A (aV ((cW.drop 16).take 2++((cW.drop 18).take 1++((cW.drop 19).take 3++(cW.drop 22).take 1))) (dT L)) Q E s:=by
 have UE:=ln hT hr;have UF:(U.T++iH _ _ _ U.hu U.bo++lU++gQ true U.r.nm).length<=51016:=ln (ln (b:=4) UE (by decide+kernel)) (EG hn);refine da (fO SR X1 aU hA 3 900 Uc [0,3,4] _ (λaP z X2 N2 z=>aN0 h0 h1 h2 h3 h4 (aE hT (by decide)) (aE hr (by decide))) bz (by decide) _ _ _ _ (λH=>aNe ..) λH s1 S1 z z z=>?_);generalize H 1 0=D at S1;generalize H 1 1=tb at S1;generalize H 1 2=t1 at S1;obtain⟨V1,Kw⟩:∃V1:UV,V1={ U with T:=U.T++iH (U.l 0) (U.l 64) (U.l 128) U.hu U.bo,t:=t1 }:=⟨_,rfl⟩
 have S2:ax True aq ak ((D,cE w (nG true tb) 6)::(L+1,ca (some (.ref D)))::(L,(V1.rB U.r.nm).aJ w k 21)::ro) s1:=by subst Kw;exact S1
 have lV1:V1.T.length<=100000:=by subst Kw;exact aE UE (by decide)
 refine da (fO S2 X1 aU hA 3 900 _ [5,6,7] _ (λaP z X2 N2 z=>Uz (hs D (S1.h.off _ ay)) hn hc lV1 true) bz (by decide) _ _ _ _ (λH=>Uj w k L V1 D _ 6 _ _ _ _ true U.r.nm H hn) λhM s2 S3 z z z=>?_);clear S2;generalize hM _ 2=t2 at S3;obtain⟨V2,Kx⟩:∃V2:UV,V2={ U with T:=U.T++iH (U.l 0) (U.l 64) (U.l 128) U.hu U.bo++lU++gQ true U.r.nm,t:=t2 }:=⟨_,rfl⟩
 have Y:ax True aq ak ((D,cE w (nG true tb) 6)::(L+1,ca (some (.ref D)))::(L,UV.aJ { V2 with b:=U.b } w k 21)::ro) s2:=by subst Kw Kx;exact S3
 have S5:ax True aq ak _ s2:=⟨⟨λq Z=>Y.h.at_ q (aB Z),(cj.mp Y.h.nd).2,Y.h.keep,λq Z=>Y.h.off q (aB Z)⟩,Y.os,Y.gens,Y.same⟩
 clear Y;refine da (fO S5 X1 aU hA 3 900 _ [0,1,2] _ (λaP z X2 N2 z=>by subst Kx;exact aN1 h5 aZ (aE UF (by decide)) (aE De (by decide))) bz (by decide) _ _ _ _ (λH=>aNf w k L V2 _ _ _ H (j5 U.pu) mO U.b) λKy Y S6 z z z=>?_);clear S5;generalize Ky 1 0=D' at S6;have Kz:(rP U.b U.r.nm mO).length<=2/\∀c∈rP U.b U.r.nm mO,c< 128:=by
  unfold rP;split;·exact⟨rm,AW⟩
  ·exact⟨hn,hc⟩
 obtain⟨V3,J,e3⟩:∃V3:UV,UD U V3 (U.T++iH (U.l 0) (U.l 64) (U.l 128) U.hu U.bo++lU++gQ true U.r.nm++j5 U.pu)/\{ (V2.sd (j5 U.pu) mO U.b Ky)with b:=U.b }=V3.rB (rP U.b U.r.nm mO):=by
  subst Kx;refine⟨{ (UV.sd { U with T:=U.T++iH (U.l 0) (U.l 64) (U.l 128) U.hu U.bo++lU++gQ true U.r.nm,t:=t2 } (j5 U.pu) mO U.b Ky)with b:=U.b },?_,?_⟩;·induction hb:U.b<;>exact⟨rfl,hb.symm,rfl,rfl,rfl,rfl,rfl,rfl⟩
  ·cases U.b<;>rfl
 replace S6:=e3▸S6;refine fO S6 X1 aU hA 3 900 _ [5,6,7] _ (λaP z X2 N2 z=>Uz (hs D' (S6.h.off _ ay)) Kz.1 Kz.2 (rR J.T (aE (ln UF De) (by decide))) false) bz (by decide) _ _ _ _ (λH=>Uj w k L V3 D' _ 4 _ _ _ _ false _ H Kz.1) λH Y H z z z=>h _ _ Y ?_ (⟨⟨λq Z=>H.h.at_ q (aB Z),(cj.mp H.h.nd).2,H.h.keep,λq Z=>H.h.off q (aB Z)⟩,H.os,H.gens,H.same⟩);exact⟨J.R,J.b,J.W,J.P,J.F,J.B,by show V3.T++_=_;exact rR J.T rfl,J.tg⟩
end
structure PW where
 tg:Str
 pl:Int
 fu:Int
 br:Int
variable {ys:List PW}
noncomputable def WD.p(y:WD):PW:=⟨y.tg,y.pl,y.fu,y.br⟩
noncomputable def nH:List PW->Str->Str
 |[],T=>T|y::ys,T=>nH ys (T++"</"++y.tg++">")
theorem KA:∀(ys:List WD)(T:Str),uu ys T=nH (ys.map WD.p) T
 |[],_=>rfl|y::ys,T=>KA ys _
def EI(P F B:Int):Int:=max (max (lS P F B 0) (lS P F B 64)) (lS P F B 128)
def EJ(P F B:Int):Int:=min (min (lS P F B 0) (lS P F B 64)) (lS P F B 128)
def wB(ys:List PW):Int×Int×Int:=nc (match ys with
 |[]=>(0,256,256)|y::_=>(y.pl,y.fu,y.br))
def fv(ys:List PW)(r:FR):Int:=((wB ys).1+r.tu).fmod 64
def j6(ys:List PW)(r:FR):Int:=((wB ys).2.1*r.sh).fdiv 4
def j7(ys:List PW)(r:FR):Int:=((wB ys).2.2*r.va).fdiv 4
def gS(ys:List PW)(r:FR)(c:Int):Int:=lS (fv ys r) (j6 ys r) (j7 ys r) c
def kO(ys:List PW)(r:FR):Int:=EI (fv ys r) (j6 ys r) (j7 ys r)
def kP(ys:List PW)(r:FR):Int:=EJ (fv ys r) (j6 ys r) (j7 ys r)
def gg(ys:List PW)(r:FR):Bool:=decide (kO ys r - kP ys r>0)
def wC(ys:List PW)(r:FR):Int:=min (kO ys r+kP ys r) (4194304 - (kO ys r+kP ys r))
def rQ(ys:List PW)(r:FR):Int:=(1024*(kO ys r - kP ys r)).fdiv (wC ys r)
def aOb(z:Int):Nat:=nc (cond (z==0) 114 (cond (z==1) 121 (cond (z==2) 103 (cond (z==3) 99 (cond (z==4) 98 109)))))
def bT(P:Int):Nat:=aOb ((3*P).fdiv 32)
def fT(ys:List PW)(r:FR):Str:=rO (gg ys r) (bT (fv ys r))
def yA(ys:List PW)(r:FR):Bool:=ys.any λy=>decide (y.tg=fT ys r)
def UG(c:Nat):Bool:=nc (c==32||c==9||c==10||c==13)
def lW(nm:List Nat):List Nat:=((nm.dropWhile UG).reverse.dropWhile UG).reverse
def rS(ys:List PW)(r:FR)(T:Str):Str:=match gg ys r,yA ys r with
 |true,false=>wz T (bT (fv ys r))|_,_=>T
def uy(b:Bool)(r:FR)(T:Str)(ys:List PW):Str:=rS ys r (T++"<"++fT ys r)++iH (gS ys r 0) (gS ys r 64) (gS ys r 128) (lV (gg ys r) (fv ys r)) (kO ys r+kP ys r)++lU++gQ true r.nm++j5 (lV (gg ys r) (rQ ys r))++gQ false (rP b r.nm (lW r.nm))
noncomputable def kR(ys:List PW)(r:FR):Nat:=ys.length - r.dp.toNat
def gw(b:Bool)(S:Str×List PW)(r:FR):Str×List PW:=(uy b r (nH (S.2.take (kR S.2 r)) S.1) (S.2.drop (kR S.2 r)),⟨fT (S.2.drop (kR S.2 r)) r,fv (S.2.drop (kR S.2 r)) r,j6 (S.2.drop (kR S.2 r)) r,j7 (S.2.drop (kR S.2 r)) r⟩::S.2.drop (kR S.2 r))
structure Bj(ys:List PW)(r:FR):Prop where
 F:In (-100000000) 100000000 (j6 ys r)
 B:In (-100000000) 100000000 (j7 ys r)
 l0:Sm (gS ys r 0)
 l1:Sm (gS ys r 64)
 l2:Sm (gS ys r 128)
 bo:Sm (kO ys r+kP ys r)
 P:Sm (fv ys r)
 q:gg ys r=true->Sm (rQ ys r)/\¬(wC ys r==0)=true/\(wC ys r).natAbs< 2 ^ 1000/\Ku (fv ys r) (bT (fv ys r))
structure EK(b:Bool)(nm:List Nat):Prop where
 l:nm.length<=2
 a:∀c∈nm,c< 128
 l':(lW nm).length<=2
 a':∀c∈lW nm,c< 128
 s:b=true->Kv nm (lW nm)
structure yB(b:Bool)(S:Str×List PW)(r:FR):Prop where
 T:S.1.length<=30000
 W:∀y∈S.2,y.tg.length<=3/\In (-100000000) 100000000 y.fu/\In (-100000000) 100000000 y.br
 l:S.2.length<=3
 d0:S.2=[]->r.dp=0
 d1:S.2≠[]->1<=r.dp/\r.dp<=S.2.length/\S.2.length<=r.dp+2
 n:Bj (S.2.drop (kR S.2 r)) r
 nm:EK b r.nm
theorem aOc(ys H:List WD):dE [] (ys++H)=dE (dE [] H) ys:=by
 induction ys with
 |nil=>rfl|cons y ys ih=>show dE [] _++_=dE _ ys++_;exact rR ih rfl
theorem EL(ys:List WD):dE [] ys=ys.reverse.map λy=>aN y.a:=by
 induction ys with
 |nil=>rfl|cons y ys ih=>simp only[W0,bM,<-ih];rfl
section
theorem j8(a b c:α)(Z:List α):(a::b::c::Z).Perm (c::b::a::Z):=(jL ..).trans (((jL ..).cons b).trans (jL ..))
theorem EM(W C F:α)(Y Z:List α):(W::C::F::(Y++Z)).Perm ((W::(Y++[F]))++(C::Z)):=by refine y9 W ?_;show(C::F::_).Perm ((Y++[F])++_);simp only[bH];refine(jL ..).trans (Yd ?_ (lj).symm);exact(lj).symm.cons F
theorem aOd(W C F:α)(Y Z:List α):((W::(Y++[F]))++(C::Z)).Perm ((W::C::F::Z)++Y):=(EM ..).symm.trans (((jM.cons F).cons C).cons W)
theorem UH(T F C W:α)(Y Z:List α):(T::F::C::W::(Y++Z)).Perm (W::C::F::(Y++(T::Z))):=((j8 ..).cons T).trans ((lj (l₁:=W::C::F::Y)).symm)
end
structure Kp(U V:UV):Prop where
 R:V.R=U.R
 b:V.b=U.b
 W:V.W=U.W
 r:V.r=U.r
theorem Kp.trans{U V X:UV}(a:Kp U V)(b:Kp V X):Kp U X:=⟨b.R.trans a.R,b.b.trans a.b,b.W.trans a.W,b.r.trans a.r⟩
structure Sa(r:FR)(ys:List PW)(T:Str)(V:UV):Prop where
 P:V.P=fv ys r
 F:V.F=j6 ys r
 B:V.B=j7 ys r
 T:V.T=T
structure Sb(r:FR)(ys:List PW)(V:UV):Prop where
 P:V.P=fv ys r
 F:V.F=j6 ys r
 B:V.B=j7 ys r
 tg:V.tg=fT ys r
 hu:V.hu=lV (gg ys r) (fv ys r)
 bo:V.bo=kO ys r+kP ys r
 ap:V.ap=kO ys r - kP ys r
 pu:V.pu=lV (gg ys r) (rQ ys r)
theorem Sa.l{r:FR}{V:UV}(S:Sa r ys T V)(c:Int):V.l c=gS ys r c:=by show lS V.P V.F V.B c=_;refine rR S.P (rR S.F (rR S.B ?_));rfl
theorem Sb.l{r:FR}{V:UV}(S:Sb r ys V)(c:Int):V.l c=gS ys r c:=Sa.l ⟨S.P,S.F,S.B,rfl⟩ c
theorem Sa.mx{r:FR}{V:UV}(S:Sa r ys T V):V.mx=kO ys r:=by show EI V.P V.F V.B=_;refine rR S.P (rR S.F (rR S.B ?_));rfl
theorem Sa.mn{r:FR}{V:UV}(S:Sa r ys T V):V.mn=kP ys r:=by show EJ V.P V.F V.B=_;refine rR S.P (rR S.F (rR S.B ?_));rfl
theorem Sa.mid{r:FR}{U V:UV}(S:Sa r ys T U){H:af}(M:UC U V H (U.T++"<"++fT ys r) (fT ys r) (lV (gg ys r) U.P) (lV (gg ys r) (rQ ys r))):Sb r ys V/\V.T=T++"<"++fT ys r:=⟨⟨M.P.trans S.P,M.F.trans S.F,M.B.trans S.B,M.tg,S.P▸M.hu,S.mx▸S.mn▸M.bo,S.mx▸S.mn▸M.ap,M.pu⟩,S.T▸M.T⟩
def KB(ys:List PW)(r:FR)(a b c:ab):List Value:=ww (gS ys r 0) (gS ys r 64) (gS ys r 128) a b c
theorem Sa.ls{r:FR}{V:UV}(S:Sa r ys T V)(a b c:ab):V.ls a b c=KB ys r a b c:=by show ww _ _ _ a b c=_;rw[S.l,S.l,S.l];rfl
theorem yC{n:Int}(h:Sm n):(bO n).length<=11:=aE (Ye h.lo (by decide) h.hi) (by decide)
theorem UI{n:Int}(h:Sm n):(j5 n).length<=1000:=aE (ln (ln (a:=5) (by decide+kernel) (yC h)) (b:=2) (by decide+kernel)) (by decide)
theorem UJ{d e:Int}(J:Sm a)(Y:Sm b)(Z:Sm c)(hd:Sm d)(H:Sm e):(iH a b c d e).length<=1000:=aE (ln (ln (ln (b:=5) (ln (ln (b:=5) (ln (ln (b:=1) (ln (ln (b:=1) (ln (a:=4) (by decide+kernel) (yC J)) (by decide+kernel)) (yC Y)) (by decide+kernel)) (yC Z)) (by decide+kernel)) (yC hd)) (by decide+kernel)) (yC H)) (b:=1) (by decide+kernel)) (by decide)
theorem sm0:Sm 0:=⟨fx _,by decide⟩
theorem EN{d:Bool}{n:Int}(h:d=true->Sm n):Sm (lV d n):=by
 induction d with
 |true=>exact h rfl|false=>exact sm0
theorem aOe{d:Bool}{x:Nat}(h:d=true):(pC 0 (rO d x).length).bind ((rO d x).cps[·]?)=some x:=by subst h;rfl
theorem KC{d:Bool}{x:Nat}:(rO d x).length<=3:=by
 induction d with
 |true=>exact a8 3|false=>show("c":Str).length<=3;decide+kernel
theorem EO:∀(ys:List PW)(T:Str)(m:Nat),T.length<=m->(∀y∈ys,y.tg.length<=3)->(nH ys T).length<=m+6*ys.length
 |[],_,_,h,_=>h|y::ys,T,m,h,hg=>aE (EO ys _ (m+2+3+1) (ln (ln (ln h (by decide+kernel)) (hg y ay)) (by decide+kernel)) λz H=>hg z (aB H)) (aT [] (lE (Y0+2+3+1+(Ax.m 6 Y1)) (Y0+(Ax.m 6 (Y1+1)))) rfl)
theorem aOf{r:FR}(h:T.length<=30016):(rS ys r T).length<=30100:=by
 have H:T.length<=30100:=aE h (by decide);unfold rS;induction gg ys r with
 |false=>exact H|true=>
  induction yA ys r with
  |false=>exact aE (ln (ln (ln (ln (ln (b:=7) h (by decide+kernel)) (rM _)) (b:=6) (by decide+kernel)) (rM _)) (b:=1) (by decide+kernel)) (by decide)|true=>exact H
section
variable {k:Nat->ab}{Z:List (af×ar)}
theorem aOg(X1:aK w aq)(aU:aq.NoLimit)(hA:A.handled=none)(bz:A.depth+3<=bk){U:UV}{r:FR}{W:af}(er:U.r=r)(eT:U.T=T)(eW:U.W=W){m:Nat}{c:af×ar}(ys:List WD)(hm:m=10/\ys=[]/\¬r.dp>0\/m=21/\ys≠[]/\r.dp>0)(hF:∀y∈ys,In (-100000000) 100000000 y.fu/\In (-100000000) 100000000 y.br)(SR:ax True aq ak ((W,aA (dE [] ys) e)::c::(L,U.aJ w k m)::(ys.map WD.o++Z)) s)(h:∀(k':Nat->ab)(Y:Nat)(V:UV)(s':am),(Y=13\/Y=21)->Kp U V->Sa r (ys.map WD.p) T V->ax True aq ak ((W,aA (dE [] ys) e)::c::(L,V.aJ w k' Y)::(ys.map WD.o++Z)) s'->Q .next s'):aG (av w) A (aV ((cW.drop 1).take 5) (dT L)) Q E s:=by
 subst er eT eW;rcases hm with ⟨rfl,rfl,H⟩|⟨rfl,hy,H⟩
 ·refine fO (bj SR (j8 ..)) X1 aU hA 2 900 _ [4] _ (λaP z X2 N2 z=>aNu H) (cT bz) (by decide) _ _ _ _ (λσ=>aM1 ..) λσ J S1 z z z=>h _ 13 _ J (.inl rfl) ?_ ?_ (bj S1 (j8 ..));·exact⟨rfl,rfl,rfl,rfl⟩
  ·exact⟨rfl,rfl,rfl,rfl⟩
 ·induction ys with
  |nil=>exact absurd rfl hy|cons y ys=>
   obtain⟨f1,f2⟩:=hF y ay;refine fO (bj SR ((j8 ..).cons _)) X1 aU hA 2 900 _ [9,10,11] _ (λaP z X2 N2 z=>aNt H f1 f2 rfl rfl) (cT bz) (by decide) _ _ _ _ (λσ=>aM0 ..) λσ J S1 z z z=>h _ 21 _ J (.inr rfl) ?_ ?_ (bj S1 ((j8 ..).cons _));·exact⟨rfl,rfl,rfl,rfl⟩
   ·exact⟨rfl,rfl,rfl,rfl⟩
theorem aOh(X1:aK w aq)(aU:aq.NoLimit)(hA:A.handled=none)(bz:A.depth+3<=bk){U:UV}{m:Nat}{c:af×ar}(ys H:List WD)(hm:m=10\/m=21)(J:ys.length<=2)(hz:H.length<=3)(hg:∀y∈ys,y.tg.length<=3)(hd:H=[]/\ys=[]/\U.r.dp=0\/(H.length:Int)=U.r.dp)(hT:U.T.length<=30000)(Y:ax True aq ak ((U.W,aA (dE [] (ys++H)) e)::c::(L,U.aJ w k m)::((ys++H).map WD.o++Z)) s)(h:∀e' V s',Kp U V->V.T=uu ys U.T->ax True aq ak ((U.W,aA (dE [] H) e')::c::(L,V.aJ w k m)::(H.map WD.o++Z)) s'->Q .next s'):aG (av w) A (aV (cW.take 1) (dT L)) Q E s:=by
 have hB:(dE [] H).length=H.length:=by simp only[EL,dB,uR]
 have oq:(H.length:Int)=U.r.dp:=by
  rcases hd with ⟨rfl,v,h⟩|h
  ·exact h.symm
  ·exact h
 rw[aOc,bM,bH]at Y;refine du (bj Y (EM ..)) X1 aU hA 2 900 _ _ (λaP z Y Y z=>aNs (bu [lE Y0 3] (lE Y0 100) rfl hz) ys U.T U.t e 30000 _ hg hB (bu [lE Y0 2] (lE Y0 100) rfl J) hT (qM [lE Y0 2] (lE (30000+(Ax.m 6 Y0)) 100000) [6] 1 rfl J) (λj z=>iA [_,(H.length:Nat),(j:Nat)] [eQ Y1 Y0,lE 0 Y2] (lL Y0 (Y1+Y2+1)) [-1,1] 1 rfl oq (bG _)) (fH.mpr (bR [eQ Y0 Y1] (lE Y0 Y1) rfl oq))) (cT bz) _ _ _ _ (λY=>aMz w k L U _ H.length e _ _ Y m hm ys J) λY H J z z z=>h _ _ H ?_ ?_ (qb (bj J (aOd ..)));·exact⟨rfl,rfl,rfl,rfl⟩
 ·rfl
theorem aOi(X1:aK w aq)(aU:aq.NoLimit)(hA:A.handled=none)(bz:A.depth+3<=bk){U:UV}{m:Nat}{r:FR}(S:Sa r ys T U)(hm:m=13\/m=21)(J:Bj ys r)(hT:T.length<=100000)(SR:ax True aq ak ((L,U.aJ w k m)::Z) s)(h:∀H a b c k' V s',Kp U V->Sb r ys V->V.T=T++"<"++fT ys r->V.Lt=H->ax True aq ak ((H,aA (KB ys r a b c) 3)::(L,V.aJ w k' 21)::Z) s'->Q .next s'):aG (av w) A (aV ((cW.drop 6).take 7++(cW.drop 13).take 2) (dT L)) Q E s:=by
 refine aN9 X1 aU hA bz hm (x:=bT (fv ys r)) (mm:=wC ys r) (q:=rQ ys r) (d:=gg ys r) (S.F▸J.F) (S.B▸J.B) (by refine rR S.mx (rR S.mn ?_);rfl) (λhd=>?_) (S.T▸hT) SR λH a b c k3 V s3 M Y=>?_;·exact zh (J.q hd) λJ q2 q3 J=>rR S.mx (rR S.mn (rR S.P ⟨J,rfl,q2,q3,rfl⟩))
 ·rw[S.ls]at Y;exact h H a b c k3 V s3 ⟨M.R,M.b,M.W,M.r⟩ (S.mid M).1 (S.mid M).2 M.Lt Y
theorem aOj(U:UV)(x:Nat)(d b:Bool)(H:Xs):∃t,U.dc x d b H={ U with T:=(match d,b with|true,false=>wz U.T x|_,_=>U.T),t:=t }:=by
 induction d with
 |false=>exact⟨U.t,rfl⟩|true=>induction b with
  |false=>exact⟨_,rfl⟩|true=>exact⟨U.t,rfl⟩
theorem aOk(X1:aK w aq)(aU:aq.NoLimit)(hA:A.handled=none)(bz:A.depth+3<=bk){U:UV}{c:af×ar}(ys:List WD)(hy:ys.length<=3){r:FR}(S:Sb r (ys.map WD.p) U){W:af}(eT:U.T=T)(H:U.W=W)(hT:T.length<=100000)(SR:ax True aq ak ((W,aA (dE [] ys) e)::c::(L,U.aJ w k 21)::(ys.map WD.o++Z)) s)(h:∀(V:UV)s',Kp U V->Sb r (ys.map WD.p) V->V.Lt=U.Lt->V.T=rS (ys.map WD.p) r T->ax True aq ak ((W,aA (dE [] ys) e)::c::(L,V.aJ w k 21)::(ys.map WD.o++Z)) s'->Q .next s'):aG (av w) A (aV ((cW.drop 15).take 1) (dT L)) Q E s:=by
 subst eT H;have hd:decide _=gg _ r:=congrArg (λz=>decide (z>0)) S.ap;have hx:gg _ r=true->(pC 0 U.tg.length).bind (U.tg.cps[·]?)=some _:=λh=>rR S.tg (aOe h);have p:(ys.map WD.o).Perm _:=(aX0 ys).symm.map _;have J:=bj SR (((p.append_right Z).cons _|>.cons _|>.cons _).trans (EM ..));have H:=EL ys;rw[H]at J;have f6:ys.reverse.any (λy=>decide (y.tg=U.tg))=yA (ys.map WD.p) r:=by rw[S.tg];simp only[List.any_reverse,yA,Yc];rfl
 unfold rS at h;generalize gg _ r=d at*;generalize yA _ r=b at*;refine fO J X1 aU hA 3 900 _ _ _ (λaP z J J z=>aNz hd f6 hx hT) (aE bz (by decide)) X4 _ _ _ _ (λJ=>aNc w k L U e _ _ J _ d b ys.reverse (rR uR hy)) λJ s2 J z z z=>?_;have Y:=bj J ((EM ..).symm.trans ((p.symm.append_right Z).cons _|>.cons _|>.cons _));obtain⟨t,et⟩:=aOj U _ ..;rw[<-H,et]at Y;refine h _ s2 ?_ ?_ ?_ ?_ Y;·exact⟨rfl,rfl,rfl,rfl⟩
 ·exact⟨S.P,S.F,S.B,S.tg,S.hu,S.bo,S.ap,S.pu⟩
 ·rfl
 ·rfl
theorem aOl(X1:aK w aq)(aU:aq.NoLimit)(hA:A.handled=none)(bz:A.depth+3<=bk)(hs:∀D:af,aq.get? D=none->(D==ie)=false){U:UV}{o:Option ag}{a b c:ab}{r:FR}{Lt:af}{Y:Bool}(S:Sb r ys U)(er:U.r=r)(eb:U.b=Y)(eT:U.T=T)(eL:U.Lt=Lt)(H:Bj ys r)(J:EK Y r.nm)(hT:T.length<=30100)(SR:ax True aq ak ((Lt,aA (KB ys r a b c) 3)::(L+1,ca o)::(L,U.aJ w k 21)::Z) s)(h:∀o'(V:UV)s',V.R=U.R->V.b=U.b->V.W=U.W->PW.mk V.tg V.P V.F V.B=⟨fT ys r,fv ys r,j6 ys r,j7 ys r⟩->V.T=T++iH (gS ys r 0) (gS ys r 64) (gS ys r 128) (lV (gg ys r) (fv ys r)) (kO ys r+kP ys r)++lU++gQ true r.nm++j5 (lV (gg ys r) (rQ ys r))++gQ false (rP Y r.nm (lW r.nm))->ax True aq ak ((L+1,ca o')::(L,V.aJ w k 21)::Z) s'->Q .next s'):aG (av w) A (aV ((cW.drop 16).take 2++((cW.drop 18).take 1++((cW.drop 19).take 3++(cW.drop 22).take 1))) (dT L)) Q E s:=by
 subst er eb eT eL;have sP:=EN (d:=gg ys U.r) λ_=>H.P;have sQ:=EN (d:=gg ys U.r) λY=>(H.q Y).1;have e5:iH (U.l 0) (U.l 64) (U.l 128) U.hu U.bo=iH (gS ys U.r 0) (gS ys U.r 64) (gS ys U.r 128) (lV (gg ys U.r) (fv ys U.r)) (kO ys U.r+kP ys U.r):=by rw[S.l,S.l,S.l,S.hu,S.bo]
 rw[<-Sa.ls ⟨S.P,S.F,S.B,rfl⟩]at SR;refine aOa X1 aU hA bz hs (mO:=lW U.r.nm) (S.l 0▸H.l0) (S.l 64▸H.l1) (S.l 128▸H.l2) (S.hu▸sP) (S.bo▸H.bo) (S.pu▸sQ) J.l J.a J.l' J.a' J.s (aE hT (by decide)) (e5▸UJ H.l0 H.l1 H.l2 sP H.bo) (S.pu▸UI sQ) SR λH J s5 G Y=>?_;refine h H J s5 G.R G.b G.W ?_ ?_ Y;·rw[G.tg,G.P,G.F,G.B,S.tg,S.P,S.F,S.B]
 ·rw[G.T,e5,S.pu]
end
theorem aOm{b:Bool}{r:FR}{m:Nat}(ys:List WD)(hm:m=10/\ys=[]\/m=21/\ys≠[])(ok:yB b (T,ys.map WD.p) r):∃J H,J++H=ys/\gw b (T,ys.map WD.p) r=(uy b r (uu J T) (H.map WD.p),⟨fT (H.map WD.p) r,fv (H.map WD.p) r,j6 (H.map WD.p) r,j7 (H.map WD.p) r⟩::H.map WD.p)/\Bj (H.map WD.p) r/\(H=[]/\J=[]/\r.dp=0\/(H.length:Int)=r.dp)/\J.length<=2/\(m=10/\H=[]/\¬r.dp>0\/m=21/\H≠[]/\r.dp>0)/\(∀y∈J,y.tg.length<=3)/\(∀y∈H,In (-100000000) 100000000 y.fu/\In (-100000000) 100000000 y.br)/\H.length<=3/\(uu J T).length<=30012:=by
 obtain⟨okT,okW,okl,aOn,aOo,gU,_⟩:=ok;have J:(ys.map WD.p).length=ys.length:=dB ..;have UK:=J▸okl;have yD:ys≠[]->1<=r.dp/\r.dp<=ys.length:=λh=>by have H:=aOo (λe=>h (BR.mp e));exact⟨H.1,J▸H.2.1⟩
 have KD:∀y∈ys,y.tg.length<=3/\In _ 100000000 y.fu/\In _ 100000000 y.br:=λy Z=>okW y.p (b7 Z);have hn:kR (ys.map WD.p) r=ys.length - r.dp.toNat:=by unfold kR;rw[J]
 obtain⟨n,Y⟩:∃n,kR (ys.map WD.p) r=n:=⟨_,rfl⟩
 have e1:(ys.map WD.p).drop n=(ys.drop n).map WD.p:=List.map_drop.symm;have e2:(ys.map WD.p).take n=(ys.take n).map WD.p:=List.map_take.symm;have zV:gw b (T,ys.map WD.p) r=(uy b r (uu (ys.take n) T) ((ys.drop n).map WD.p),⟨fT ((ys.drop n).map WD.p) r,fv ((ys.drop n).map WD.p) r,j6 ((ys.drop n).map WD.p) r,j7 ((ys.drop n).map WD.p) r⟩::(ys.drop n).map WD.p):=by unfold gw;exact rR (KA ..) (rL (e1 ..) (rL (e2 ..) (rL (Y ..) rfl)))
 replace gU:=e1▸(Y▸((show(T,ys.map WD.p).2=ys.map WD.p from rfl)▸gU))
 replace hn:=Y▸hn;clear Y e1 e2;have Y:ys=[]/\r.dp=0\/1<=r.dp/\((ys.drop n).length:Int)=r.dp/\m=21:=by
  rcases hm with ⟨_,rfl⟩|⟨hm,cB⟩
  ·exact .inl ⟨rfl,aOn rfl⟩
  ·refine .inr ⟨(yD cB).1,?_,hm⟩;exact rR Gj (rR hn (MW (yD cB).1 (yD cB).2))
 have kr:(ys.take n).length<=2:=by
  rcases Y with ⟨rfl,_⟩|⟨a,_⟩
  ·exact rR aX1 (f4 _)
  ·exact rR wY (rR hn (aE (X8 ..) (aE (Nat.sub_le_sub_right UK _) (Nat.sub_le_sub_left (Int.toNat_le_toNat a) 3))))
 refine⟨ys.take n,ys.drop n,aWu ..,zV,gU,?_,kr,?_,λy Z=>(KD y (Yf Z)).1,λy Z=>(KD y (List.mem_of_mem_drop Z)).2,aE (Gj▸nL ..) UK,?_⟩
 ·rcases Y with ⟨rfl,h⟩|⟨_,h,_⟩
  ·exact .inl ⟨Yg,aX1,h⟩
  ·exact .inr h
 ·rcases Y with ⟨rfl,h⟩|⟨a,h,sK⟩
  ·exact .inl ⟨hm.elim And.left λh=>absurd rfl h.2,Yg,by rw[h];decide⟩
  ·refine .inr ⟨sK,λe=>?_,a⟩;rw[e]at h;exact absurd (h▸a) (by decide)
 ·rw[KA];refine aE (EO _ _ 30000 okT λy Z=>?_) (rR (dB ..) (qM [lE Y0 2] (lE (30000+(Ax.m 6 Y0)) 30012) [6] 1 rfl kr));refine aO (bq.mp Z) λz hz eq1=>?_;subst eq1;exact(KD z (Yf hz)).1
section
variable {k:Nat->ab}{Z:List (af×ar)}
theorem aOp(X1:aK w aq)(aU:aq.NoLimit)(hA:A.handled=none)(bz:A.depth+3<=bk)(hs:∀D:af,aq.get? D=none->(D==ie)=false){U:UV}{m:Nat}{o:Option ag}(ys:List WD)(hm:m=10/\ys=[]\/m=21/\ys≠[])(ok:yB U.b (U.T,ys.map WD.p) U.r)(SR:ax True aq ak ((U.W,aA (dE [] ys) e)::(L+1,ca o)::(L,U.aJ w k m)::(ys.map WD.o++Z)) s)(h:∀(k':Nat->ab)(e':Nat)(o':Option ag)(V:UV)(wE:List WD)(s':am),V.R=U.R->V.b=U.b->V.W=U.W->(V.T,wE.map WD.p)=gw U.b (U.T,ys.map WD.p) U.r->ax True aq ak ((V.W,aA (dE [] wE) e')::(L+1,ca o')::(L,V.aJ w k' 21)::(wE.map WD.o++Z)) s'->Q .next s'):aG (av w) A (aV cW (dT L)) Q E s:=by
 rw[aN8];refine YC (aOm ys hm ok) λya J es zV gU rh kr ju hgt hgd mE UL=>?_;subst es;replace h:=zV▸h;have oT:=ok.T;have wD:=ok.nm;clear ok;refine da (aOh X1 aU hA bz ya J (ju.imp And.left And.left) kr mE hgt rh oT SR λe1 V1 s1 K1 T1 S1=>?_);refine da (aOg X1 aU hA bz K1.r T1 K1.W J ju hgd S1 λk2 m2 V2 s2 vQ K2 Sa2 S2=>?_);replace K2:=K1.trans K2;refine da (aOi X1 aU hA bz Sa2 vQ gU (aE UL (by decide)) (bj S2 (j8 ..)) λLt a b c k3 V3 s3 Y Sb3 T3 L3 S3=>?_);have lT:(uu ya U.T++"<"++fT (J.map WD.p) U.r).length<=30016:=ln (ln (b:=1) UL (by decide+kernel)) KC;refine da ?_;replace Y:=K2.trans Y;refine aOk X1 aU hA bz J mE Sb3 T3 Y.W (aE lT (by decide)) (bj S3 (UH ..)) λV4 s4 H Sb4 L4 T4 S5=>?_;replace H:=Y.trans H;refine da (aOl X1 aU hA bz hs Sb4 H.r H.b T4 (L4.trans L3) gU wD (aOf lT) (bj S5 (((UH ..).symm).trans ((jL ..).cons _))) λo5 Y s5 gR gb gW gp gT S7=>?_);have S8:ax True aq ak ((Y.W,aA (dE [] J) e1)::(L,Y.aJ w k3 21)::(L+1,ca o5)::(J.map WD.o++Z)) s5:=by exact rR gW (rR H.W (bj S7 (j8 ..)))
 refine du S8 X1 aU hA 3 900 [2,1,1,1,1,2,2,2,2,2] (il 1 Y.W (dE [] J) e1 _ λ_=> .nil) (λaP _ X2 N2 _=>lu (rR (EL ..) (rR (dB ..) (rR (uR ..) (bu [lE Y0 3] (lE Y0 1000) rfl mE)))) λ_ _=>True.intro) bz _ _ _ _ (λσ=>aNh w k3 L Y e1 _ _ σ _) λσ s6 S9 _ _ _=>h k3 (e1+1) o5 Y (Y.wd s5.heap.objs.size::J) s6 (gR.trans H.R) (gb.trans H.b) (gW.trans H.W) ?_ ?_;·exact rR gT (rR iK (congrArg _ (congrArg (· ::_) gp)))
 ·exact bj S9 ((jL ..).trans ((j8 ..).cons _))
end
abbrev Bk:PySem.Expr:=Sp iG 3
abbrev KE:List Stmt:=So iG 3
def aOq:PySem.Expr:=xE Bk 0
def aOr:PySem.Expr:=xE Bk 1
def aOs(b:List cq)(i:Nat):Pos:=(oS b[i]?).pos
theorem aOt:iG=iG.take 2++([.For (mL iG 2) (yv iG 2) cW [] (Tx iG 2)]++([.While Bk KE [] (aOs iG 3)]++iG.drop 4)):=by kernel_rfl
section
theorem aOu(l D:af)(vs:List ag)(e:Nat):Told ao (av w) A U fr aa (b2 "list.__ne__" (.ref l) (.ref D)) [(l,aA vs e),(D,aA [] 0)] (λx=>⟨.ok (.ret (.bool (!vs.isEmpty))),[(l,aA vs e),(D,aA [] 0)],[],x 0,x 1⟩):=by
 intro u s ak R H H q hR;have J:=H.h.at_ _ ay;have Y:=H.h.at_ _ (aB ay);have Z:=hR (λi=>bif bZ i 0 then s.heap.objs.size else s.toks) s rfl rfl rfl (λp hp=>absurd hp bi) ⟨H.h,H.os,H.gens,H.same⟩ λb o H nb=>H;refine dK aX2.plain PySem.F.entry_list_ne (aX2.check _ _ _ _ _ _ _ _ ⟨_,J,rfl⟩ (PySem.F.args_list_ne_2 _ _) ?_);induction vs with
 |nil=>exact SeqAt.list_neAt l D _ _ e 0 none none #[] #[] rfl (λz=>true) _ _ _ R s ⟨J,Y,(λj H=>absurd H (Nat.not_lt_zero j)),Z⟩|cons v vs=>exact SeqAt.list_ne_lengthsAt l D _ _ e 0 none none #[] #[] rfl _ _ _ R s ⟨J,Y,Z⟩
end
section
variable (w:aj)(k:Nat->ab)(L:af)(U:UV)(vs:List ag)(y:WD)(e sz tk:Nat)(σ:Xs)
theorem aOv:bA ((aI w 0 0 none 300).S [] σ ⟨[(L,U.aJ w k 21)],sz,tk,[1], .nil⟩ (fy aOq (dT L)) fin) (.ok (.ref U.W),[(L,U.aJ w k 21)],sz,tk):=by kernel_rfl
theorem aOw:bA ((aI w 0 0 none 300).S [] σ ⟨[],sz,tk,[], .nil⟩ (fy aOr (dT L)) fin) (.ok (.ref sz),[(sz,aA [] 0)],sz+1,tk):=by kernel_rfl
theorem aOx:bA ((aI w 0 0 none 300).S [] σ ⟨[(L,U.aJ w k 21)],sz,tk,[1], .nil⟩ (aV (iG.drop 4) (dT L)) fin) (.ok (.ret (.str U.T U.t)),[(L,U.aJ w k 21)],sz,tk):=by kernel_rfl
abbrev UM(U:UV)(vs:List ag)(y:WD)(e tk:Nat):aF:=cQ U.T "</" (U.T++"</") U.t tk λa=>xg 0 U.W vs (.ref y.a) e λ_=>cQ (U.T++"</") y.tg (U.T++"</"++y.tg) (a 2) y.t λc=>cQ (U.T++"</"++y.tg) ">" (U.T++"</"++y.tg++">") (c 2) (c 1) λ_=> .nil
theorem aOy:bA ((aI w 2 0 none 600).S [] σ ⟨[(U.W,aA (vs++[aN y.a]) e),y.o,(L,U.aJ w k 21)],sz,tk,(dN 20 0x18c4200802008421042108c43),UM U vs y e tk⟩ (aV KE (dT L)) fin) (.ok .next,[(U.W,aA vs (e+1)),y.o,(L,UV.aJ { U with T:=U.T++"</"++y.tg++">",t:=σ 3 2 } w k 21)],σ 3 0,σ 3 1+1):=by kernel_rfl
end
section
variable {k:Nat->ab}{Z:List (af×ar)}
theorem aOz{Q:Bool->am->Prop}(X1:aK w aq)(aU:aq.NoLimit)(Y:A.handled=none)(J:A.depth+3<=bk)(hu:A.units< dQ){U:UV}{c:af×ar}{wh:cb ag}(SR:ax True aq ak ((U.W,aA vs e)::c::(L,U.aJ w k 21)::Z) s)(h:∀s',ax True aq ak ((U.W,aA vs e)::c::(L,U.aJ w k 21)::Z) s'->Q (!vs.isEmpty) s'):aG (av w) A (MD Bk (dT L) wh) Q E s:=by refine wpAny_isTrue_Compare1 (du (bj SR (j8 ..)) X1 aU Y 0 300 [1] .nil (λz z z z z=>True.intro) (aT [lE (Y0+3) Y1] (lE (Y0+0) Y1) rfl J) _ _ _ _ (λH=>aOv ..) λH s1 S1 z z z=>?_);refine du (ro:=_::c::_::Z) S1 X1 aU Y 0 300 [] .nil (λz z z z z=>True.intro) (aT [lE (Y0+3) Y1] (lE (Y0+0) Y1) rfl J) _ _ _ _ (λH=>aOw ..) λH s2 S2 z z z=>?_;generalize s1.heap.objs.size=D at S2;show aG _ _ (richCompare .NotEq _ _) ..;refine fW (au (XH hu ?_));have S3:ax True aq ak ([(D,aA [] 0),_]++_) s2:=bj S2 ((j8 ..).cons _);refine du (fr:=none) S3 X1 aU Y 2 900 [2,1,2,777,2] (.cons (some 0) _ [1,0] [(U.W,aA vs e),_] (λx=>⟨.ok _,[(U.W,aA vs e),(D,aA [] 0)],[],x 0,x 1⟩) λz=> .nil) (λaP z Y Y z=>⟨rfl,by decide,λY z z=>aOu _ _ _ _,λz z z=>True.intro⟩) (cT J) (λz=> .bool _) (λz=>[(D,aA [] 0),(U.W,aA vs e)]) (λH=>H 0 0) (λH=>H 0 1) (λH=>by kernel_rfl) λH J H z z z=>je rfl (h J ?_);exact⟨⟨λq J=>H.h.at_ q (aB J),(cj.mp H.h.nd).2,H.h.keep,λq J=>H.h.off q (aB J)⟩,H.os,H.gens,H.same⟩
theorem aO0(X1:aK w aq)(aU:aq.NoLimit)(hA:A.handled=none)(bz:A.depth+3<=bk)(hu:A.units< dQ){U:UV}{c:af×ar}(ys:List WD)(hy:ys.length<=100)(J:∀y∈ys,y.tg.length<=3)(hT:U.T.length+6*ys.length<=100000)(Y:ax True aq ak ((U.W,aA (dE [] ys) e)::c::(L,U.aJ w k 21)::(ys.map WD.o++Z)) s)(h:∀V s',V.T=nH (ys.map WD.p) U.T->(∃P,ax True aq ak ((L,UV.aJ V w k 21)::(Z++P)) s')->R (.ok .next) s'):eH (av w) A (.whileLoop Bk KE [] (dT L)) R s:=by
 refine aXl (λn s'=>∃(V:UV)(e':Nat)(H:List WD)(P:List _),H.length=n/\n<=100/\(∀y∈H,y.tg.length<=3)/\V.T.length+6*n<=100000/\nH (H.map WD.p) V.T=nH _ U.T/\ax True aq ak ((V.W,aA (dE [] H) e')::c::(L,V.aJ ..)::(H.map WD.o++(Z++P))) s') ?_ ys.length ⟨U,e,ys,[],rfl,hy,J,hT,rfl,rR (dR ..) Y⟩;rintro n s1 ⟨V,e',H,P,rfl,hn,J,hT,hE,Y⟩;refine aOz X1 aU hA bz hu Y λs2 S2=>?_;clear Y;induction H with
 |nil=>refine qC (h V s2 hE ⟨P++[c,(V.W,aA (dE [] []) e')],?_⟩);refine bj S2 ((j8 ..).trans (y9 _ ?_));exact rL (bH Z P ..) (jM (l₁:=[c,_]))|cons y H=>
  have cB:(!(dE [] (y::H)).isEmpty)=true:=by show(!(dE [] H++[_]).isEmpty)=true;induction dE [] H<;>rfl
  rw[if_pos cB];have Y:=aE (fG ..) hT;have l2:(V.T++"</").length<=100002:=ln (b:=2) Y (by decide+kernel);have KF:=J y ay;refine du (ro:=c::(H.map WD.o++_)) (bj S2 ((j8 ..).cons _)) X1 aU hA 2 600 _ (UM ..) (λaP j X2 N2 j=>gP rfl Y (b:=2) (by decide+kernel) rfl λj j=>yz (λY j=>xf _ _ _ _ (by simp only[EL,dB,uR];exact bu [lE (Y0+1) 100] (lE Y0 1000) rfl hn)) λj j=>gP rfl l2 KF rfl λj j=>gP rfl (ln l2 KF) (b:=1) (by decide+kernel) rfl λj j=>True.intro) (cT bz) _ _ _ _ (λY=>aOy ..) λY s3 S3 j j j=>⟨H.length,wW _,UV.mk V.R V.b (V.T++"</"++y.tg++">") (Y 3 2) V.W V.r V.P V.tP V.F V.tF V.B V.tB V.Lt V.co V.Kl V.wy V.Km V.bo V.Be V.ap V.Bf V.tg V.rK V.hu V.Bg V.pu V.Bh,e'+1,H,y.o::P,rfl,cT hn,λz H=>J z (aB H),?_,hE,?_⟩
  ·have:(V.T++"</"++y.tg++">").length<=V.T.length+2+3+1:=ln (ln (ln (a8 _) (by decide+kernel)) KF) (by decide+kernel);exact b8 [lE (Y2+(Ax.m 6 (Y1+1))) 100000,lE Y0 (Y2+2+3+1)] (lE (Y0+(Ax.m 6 Y1)) 100000) rfl hT this
  ·refine bj S3 (y9 _ ((j8 ..).trans (y9 _ (y9 _ ?_))));exact rL (bH ..) (rL (bH ..) ((lj).symm))
end
theorem aO1(w:aj):(K w.params).lookup 267=some ⟨vc.1.cls,vc.1.dict, .func ut,vc.1.slots⟩:=by kernel_rfl
def Bl(R:af)(b:Bool)(W:af)(t:ab):UV:=nc (⟨R,b,"",t,W,⟨0,0,[],0,0,0,0,0,0,0,0,0,0⟩,0,0,0,0,0,0,0,0,0,0,0,0,0,0,0,"",0,0,0,0,0⟩)
def EP(t u i:Nat):Tok:=nc (bif Ft i 2 then t+i else u+(i - 1))
section
variable (w:aj)(R L:af)(b:Bool)(a:List (af×ar))(k:Nat->ab)(U:UV)(sz tk t:Nat)(σ:Xs)
theorem aO2:bA ((aI w 0 0 none 400).S [] σ ⟨a,sz,tk,[], .nil⟩ (md ut ⟨[.ref R, .bool b],[]⟩) fin) (.ok [("rows", .ref R),("bare", .bool b)],a,sz,tk):=by kernel_rfl
theorem aO3:bA ((aI w 0 0 none 400).S [] σ ⟨a,sz,tk,[2,2,2,2], .nil⟩ (me ut.scope ut.globals ut.closure [("rows", .ref R),("bare", .bool b)] (ut.qualname++".<locals>.") (some 267) ut.code none ut.builtins) fin) (.ok (dT sz),[(sz+1,ca none),(sz,(Bl R b 0 0).aJ w (EP tk 0) 2)]++a,sz+2,tk+2):=by kernel_rfl
theorem aO4:bA ((aI w 0 0 none 400).S [] σ ⟨[(L,(Bl R b 0 0).aJ w (EP t 0) 2)],sz,tk,[1,1,2,2], .nil⟩ (aV (iG.take 2) (dT L)) fin) (.ok .next,[(sz,aA [] 0),(L,(Bl R b sz tk).aJ w (EP t tk) 4)],sz+1,tk+3):=by kernel_rfl
theorem aO5:bA ((aI w 0 0 none 400).S [] σ ⟨[(L,U.aJ w k 4)],sz,tk,[1], .nil⟩ (fy (yv iG 2) (dT L)) fin) (.ok (.ref U.R),[(L,U.aJ w k 4)],sz,tk):=by kernel_rfl
end
theorem aO6(L:af)(x:ag):Mp (yv iG 2) (dT L) x=pure x:=by kernel_rfl
def mP(b:Bool)(rows:List FR):Str×List PW:=rows.foldl (gw b) ("",[])
def jB(b:Bool)(rows:List FR):Str:=nH (mP b rows).2 (mP b rows).1
structure yE(b:Bool)(rows:List FR):Prop where
 row:∀i r,rows[i]?=some r->yB b (mP b (rows.take i)) r
 T:(mP b rows).1.length<=50000
 l:(mP b rows).2.length<=100
 W:∀y∈(mP b rows).2,y.tg.length<=3
def UN(w:aj)(R L W:af)(b:Bool)(rows:List FR)(P:List (af×ar))(i:Nat)(led:List (af×ar)):Prop:=∃(U:UV)(k:Nat->ab)(m:Nat)(o:Option ag)(e:Nat)(ys:List WD),(m=4/\ys=[]\/m=21/\ys≠[])/\(ys=[]->i=0)/\U.R=R/\U.b=b/\U.W=W/\(U.T,ys.map WD.p)=mP b (rows.take i)/\led=(U.W,aA (dE [] ys) e)::(L+1,ca o)::(L,U.aJ w k m)::(ys.map WD.o++P)
theorem aO7(b:Bool)(a:List FR)(r:FR):mP b (a++[r])=gw b (mP b a) r:=by unfold mP;refine rR Xy ?_;rfl
open Classical in
theorem pmZ(r F I D W c s t:List α):cH (r++(F++(I++(D++(W++(c++(s++t))))))) (W++(c++(F++(s++(r++(t++(I++D))))))):=by rw[jg];intro x;simp only[ig];ac_rfl
theorem aO8(X1:aK w aq)(aU:aq.NoLimit)(hA:A.handled=none)(bz:A.depth+3<=bk)(hs:∀D:af,aq.get? D=none->(D==ie)=false){R W:af}{b:Bool}(ok:yE b rows){x:ag}(H:(rows.map λr=>aN r.a)[i]?=some x)(hJ:UN w R L W b rows (rows.map λr=>(r.a,r.o)) i led)(SR:ax True aq ak ((I,dh R (i+1))::(R,aA (rows.map λr=>aN r.a) re)::led) s)(hQ:∀jj s',UN w R L W b rows (rows.map λr=>(r.a,r.o)) (i+1) jj->ax True aq ak ((I,dh R (i+1))::(R,aA (rows.map λr=>aN r.a) re)::jj) s'->Q .next s'):aG (av w) A (uU (mL iG 2) (.ref I) x) (λ_ s=>aG (av w) A (pF (mL iG 2) (dT L) x) (λ_ s=>aG (av w) A (aV cW (dT L)) Q E s) E s) E s:=by
 refine hO λci aY=>?_;obtain⟨U,k,m,o,e,ys,hm,Ao,hR,hb,hW,hT,rfl⟩:=hJ;refine aY ?_;replace H:=(dP)▸H;induction Z:rows[i]? with
 |none=>replace H:=Z▸H;injection H|some r=>
  rw[Z]at H;obtain rfl:aN r.a=x:=dH H;have et:rows.take (i+1)=rows.take i++[r]:=by rw[Gd,Z];rfl
  refine ve (F7 (b7 (f:=λr:FR=>(r.a,r.o)) (jb Z))) λP1 J hP=>?_;have UO:=ok.row i r Z;rw[<-hT]at UO;have d0:=aE (fG ..) bz;generalize hY:ys.map WD.o=Y at SR;rw[hP]at SR hQ;have H:ax True aq ak ((r.a,r.o)::(L,U.aJ w k m)::(I,dh R (i+1))::(R,aA (rows.map λr=>aN r.a) re)::(U.W,aA (dE [] ys) e)::(L+1,ca o)::((Y++P1)++J)) s:=by rw[<-bH]at SR;exact bj SR (JX [_] [_] [_] [_] [_] _ [(r.a,r.o)] J)
  refine du (bj H (j8 _ _ _ _|>.trans ((jL ..).cons _))) X1 aU hA 0 300 [1] .nil (λz z z z z=>True.intro) d0 _ _ _ _ (λH=>aN7 ..) λz s1 Z z z z=>fO (bj Z ((jL ..).trans ((jL ..).cons _))) X1 aU hA 0 600 UB [3,4] .nil (λz z z z z=>True.intro) d0 (by decide) _ _ _ _ (λH=>aN6 w k L U r _ _ m H (hm.imp And.left And.left)) λH Z S2 z z z=>?_;have H:EH m=10/\ys=[]\/EH m=21/\ys≠[]:=hm.imp (λh=>⟨by rw[h.1];rfl,h.2⟩) λh=>⟨by rw[h.1];rfl,h.2⟩;have S4:ax True aq ak ((U.W,aA (dE [] ys) e)::(L+1,ca o)::(L,UV.aJ { U with r:=r } w (UA m k s1.toks) (EH m))::(ys.map WD.o++((P1++(r.a,r.o)::J)++[(I,dh R (i+1)),(R,aA (rows.map λr=>aN r.a) re)]))) Z:=by
   rw[hY];have Z:Y++((P1++(r.a,r.o)::J)++[(I,dh R (i+1)),(R,aA (rows.map λr=>aN r.a) re)])=(Y++P1)++([(r.a,r.o)]++(J++([(I,dh R (i+1))]++[(R,aA (rows.map λr=>aN r.a) re)]))):=by simp only[bH,bH];rfl
   simp only[Z];exact(bj S2 (pmZ [(r.a,r.o)] [_] [_] [_] [_] [_] _ J))
  refine aOp (U:={ U with r:=r }) X1 aU hA bz hs ys H (by simp only[hb];exact UO) S4 λJ H Z V wE s' gR gb gW gT S5=>hQ _ s' ⟨V,J,21,Z,H,wE, .inr ⟨rfl,λh=>?_⟩,λh=>?_,gR.trans hR,gb.trans hb,gW.trans hW,?_,rfl⟩ ?_
  ·have:=congrArg (λp=>p.2.length) gT;rw[h]at this;injection this
  ·have:=congrArg (λp=>p.2.length) gT;rw[h]at this;injection this
  ·simp only[gT,et,aO7,<-hT];rw[hb]
  ·refine bj S5 (Yd ?_ (jM (l₁:=[(I,dh R _),_])).symm);show cH _ (_::_::_::((wE.map WD.o++_)++_));rw[bH (wE.map WD.o)]
open Classical in
theorem pmE(P F X I:List α):cH (P++(F++(X++I))) (X++(P++(F++I))):=by rw[jg];intro x;simp only[ig];ac_rfl
theorem aO9(XK:aK w aa)(NL:aa.NoLimit)(h1:∃o,aa.get? 1=some o)(hA:A.handled=none)(hd:A.depth+5<=bk)(hU:U+23< dQ)(R:af)(re:Nat)(b:Bool)(rows:List FR)(h0:0< rows.length)(ok:yE b rows):Told True (av w) A U fr aa (gG 267 [.ref R, .bool b]) (gf R re rows) (λx=>⟨.ok (.ret (.str (jB b rows) (x 2))),gf R re rows,[],x 0,x 1⟩):=by
 refine Da (body:=iG) XK NL hA hd (aO1 w) rfl rfl (by kernel_rfl) (by kernel_rfl) [("rows", .ref R),_] [] (λL tk J=>aO2 ..) dT _ 2 2 [2,2,2,2] (λL tk J=>aO3 ..) (λz=>rfl) ?_;intro kH L tk s ak Q E aq H hd2 Kh aZ Z aU SR hz ht dq;have d0:=b8 [lE (Y2+5) Y1,eQ Y0 (Y2+1)] (lE (Y0+0) Y1) rfl hd hd2;have d3:=b8 [lE (Y2+5) Y1,eQ Y0 (Y2+1)] (lE (Y0+3) Y1) rfl hd hd2;have hs:∀D:af,aq.get? D=none->(D==ie)=false:=λD hD=>beq_false_of_ne λe=>by obtain⟨o,ho⟩:=h1;have:=aZ _ _ ho;simp only[e,show ie=1 from rfl,this]at hD;injection hD
 refine rR aOt (da ?_);refine du (a:=[(L,(Bl ..).aJ ..)]) (bj SR (jL ..)) Z aU H 0 400 [1,1,2,2] .nil (λz z z z z=>True.intro) d0 _ _ _ _ (λJ=>aO4 ..) λz s1 S1 z z z=>?_;obtain⟨Y,eU⟩:∃Y:UV,Y=Bl R b s.heap.objs.size s.toks:=⟨_,rfl⟩
 rw[<-eU]at S1;have eR:Y.R=R:=by rw[eU];rfl
 have S2:ax True aq ak ((L,Y.aJ w _ 4)::(Y.W,aA (dE [] []) 0)::_::_::rows.map λr=>_) s1:=rR (show Y.W=s.heap.objs.size by rw[eU];rfl) (bj S1 (jL ..));refine da (mW (Xn ?_ (aO6 L)));refine du S2 Z aU H 0 400 [1] .nil (λz z z z z=>True.intro) d0 _ _ _ _ (λJ=>aO5 ..) λz s2 S3 z z z=>rR eR ?_;have e3:=λJ=>Tz w R s2.heap.objs.size s2.toks J (rows.map λr=>aN r.a) re;generalize Ar:(rows.map λr=>aN r.a)=vs at S3 e3 ⊢;have S4:=bj S3 (((j8 ..).cons _).trans ((jL ..).trans ((j8 ..).cons _)));clear S2 S3;have key:∀(Q:ag->am->Prop)(E:ag->am->Prop),(∀s3,ax True aq ak _ s3->Q _ s3)->aG _ kH _ Q E s2:=λQ E h=>du S4 Z aU H 0 400 [1,1,777,0,1,0,1] .nil (λz z z z z=>True.intro) d0 _ _ _ _ e3 λz s3 S5 z z z=>h s3 S5;refine key _ _ λs3 S5=>?_;clear key e3 S4;subst Ar;generalize s2.heap.objs.size=I at S5 ⊢;refine Tn H _ ⟨Y,EP tk s.toks,4,none,0,[], .inl ⟨rfl,rfl⟩,λz=>rfl,eR,by rw[eU];rfl,rfl,by rw[eU];rfl,rfl⟩ S5 (λi x led s Q E Y hJ S hQ=>aO8 Z aU H d3 hs ok Y hJ S hQ) λled s4 hJ S6=>?_;rw[dB]at hJ S6;refine hO λY aY=>?_;obtain⟨V,k,m,o,e,ys,hm,Ao,j,j,j,hT,rfl⟩:=hJ;refine aY ?_;rw[BV]at hT;obtain rfl:m=21:=hm.elim (λh=>absurd h.2 (λh=>absurd (Ao h) (jd (bu [lL 0 Y0] (lL 0 Y0) rfl h0)))) And.left;have eT:V.T=(mP b rows).1:=congrArg WB hT;have eY:ys.map WD.p=(mP b rows).2:=congrArg wQ hT;have Y:ys.length<=100:=by have:=ok.l;rw[<-eY,dB]at this;exact this
 refine qC ?_;have S7:ax True aq ak ((V.W,aA (dE [] ys) e)::(L+1,ca o)::(L,V.aJ w k 21)::(ys.map WD.o++((rows.map λr=>(r.a,r.o))++[(I,jV rows.length),(R,aA (rows.map λr=>aN r.a) re)]))) s4:=by exact rL (bH ..) (bj S6 (jM (l₁:=[(I,jV rows.length),_])))
 refine da (mW (wpAny_While (aO0 Z aU H d3 (b8 [lL (Y2+23) Y1,lE Y0 (Y2+3)] (lL Y0 Y1) rfl hU Kh) ys Y (λy hy=>ok.W y.p (eY▸b7 hy)) (by have:=ok.T;rw[<-eT]at this;exact fA [lE Y1 100,lE Y0 50000] (lE (Y0+(Ax.m 6 Y1)) 100000) [6,1] 1 rfl Y this) S7 λY s5 hV' hP=>?_)));refine BK hP λP S8=>qC (du S8 Z aU H 0 300 [1] .nil (λz z z z z=>True.intro) d0 _ _ _ _ (λJ=>aOx ..) λJ H Z J J z=>?_);have J:Y.T=jB b rows:=by simp only[hV',eT,eY];rfl
 refine dq (λi=>match i with|0=>H.heap.objs.size|1=>H.toks|_=>Y.t) _ H (show aX3 _=aX3 _ from rR J rfl) rfl rfl ?_;have J:ax True aq ak (((R,aA (rows.map λr=>aN r.a) re)::P)++((L,Y.aJ w k 21)::(rows.map λr=>(r.a,r.o))++[(I,jV rows.length)])) H:=by refine bj Z (Yd ?_ (jM));show cH (_::(((rows.map λr=>_)++([(I,jV rows.length)]++[(R,aA (rows.map λr=>aN r.a) re)]))++P)) (_::(((rows.map λr=>_)++[(I,jV rows.length)])++([(R,aA (rows.map λr=>aN r.a) re)]++P)));rw[bH,bH,bH]
 have H:(((R,aA (rows.map λr=>aN r.a) re)::P)++((L,Y.aJ w k 21)::(rows.map λr=>(r.a,r.o))++[(I,jV rows.length)])).Perm (gf R re rows++(P++([(L,Y.aJ w k 21)]++[(I,jV rows.length)]))):=by exact y9 _ (pmE P [_] _ [_])
 exact qb (bj J H)
structure PR where
 dp:Int
 nm:List Nat
 dr:Nat
 tu:Int
 sh:Int
 va:Int
noncomputable def PR.at_(p:PR)(y:Nat->Nat)(k:Nat):FR:=⟨y k,p.dp,p.nm,p.dr,p.tu,p.sh,p.va,y (k+1),y (k+2),y (k+3),y (k+4),y (k+5),y (k+6)⟩
noncomputable def gh(p:Nat->PR)(y:Nat->Nat):List FR:=[(p 0).at_ y 3,(p 1).at_ y 10,(p 2).at_ y 17,(p 3).at_ y 24]
abbrev KG(S:af)(so:ar)(p:Nat->PR)(y:Nat->Nat):Out:=⟨.ok (.ret (.ref (y 2))),[(S,so)],gf (y 2) 4 (gh p y),y 0,y 1⟩
structure RT.Is(T:RT)(h:Int)(p:PR):Prop where
 dp:T.dp=p.dp
 nm:T.nm=aW p.nm
 dr:((lD h T).fdiv 363).fmod 3=(p.dr:Int)
 tu:(((lD h T).fdiv 363).fdiv 3).fmod 64=p.tu
 sh:T.sh=p.sh
 va:T.va=p.va
theorem EQ{T:RT}{h:Int}{p:PR}(H:T.Is h p)(k:Nat)(y:Nat->Nat):xD h T k y=((p.at_ y k).a,(p.at_ y k).o):=by unfold xD;simp only[H.dp,H.nm,H.dr,H.tu,H.sh,H.va];rfl
theorem aPa{T:Nat->RT}{p:Nat->PR}(Y:(T 0).Is 5514 (p 0))(J:(T 1).Is 693213 (p 1))(H:(T 2).Is 163261 (p 2))(Z:(T 3).Is 1603350 (p 3))(S:af)(so:ar):C6 S so T=KG S so p:=by funext y;unfold C6;simp only[EQ Y,EQ J,EQ H,EQ Z];rfl
theorem aPb(XK:aK w aa)(Z:aa.NoLimit)(S:af)(d:Option af)(vs:List ag)(e:Nat)(sl:Array (Option ag))(hz:vs.length<=100)(T:Nat->RT)(p:Nat->PR)(H:(T 0).Ok vs 5514 0 0)(o1:(T 1).Ok vs 693213 1 ((T 0).dp+1))(o2:(T 2).Ok vs 163261 2 ((T 1).dp+1))(J:(T 3).Ok vs 1603350 3 ((T 2).dp+1))(h0:(T 0).Is 5514 (p 0))(h1:(T 1).Is 693213 (p 1))(Y:(T 2).Is 163261 (p 2))(h3:(T 3).Is 1603350 (p 3)):Any True w aa 4 (gG 238 [.ref S]) [(S,iT d vs e sl)] (KG S (iT d vs e sl) p):=by simp only[<-aPa h0 h1 Y h3];exact aDv XK Z S d vs e sl hz T H o1 o2 J
structure LV where
 S:af
 R:af
 b:Bool
 T:Str
 t:ab
 W:af
 tg:af
 sx:Str
 tx:ab
 E:af
variable {V:LV}
noncomputable def LV.v(V:LV):Nat->ag
 |0=> .ref V.S|1=> .ref V.R|2=> .bool V.b|3=> .str V.T V.t|4=> .ref V.W|5=> .ref V.tg|6=> .str V.sx V.tx|_=> .ref V.E
variable {v:ag}
def aPc:List Str:=nc (["script","rows","bare","text","written","target","sixth","ends"])
def LV.aJ(V:LV)(w:aj)(k:Nat->ab)(n:Nat):Obj:=⟨.type "frame",none, .dict (Kk w k V.v 0 aPc n).toArray n,#[]⟩
def oY:FuncData:=match vd.1.data with
 | .func fd=>fd|_=>default
abbrev cN:List Stmt:=bodyOf vd.1
abbrev fh(L:af):Env:={ mD vd.1 272 L with cells:=[("lexer",L+1)] }
theorem aPd(w:aj):(K w.params).lookup 272=some ⟨vd.1.cls,vd.1.dict, .func oY,vd.1.slots⟩:=by kernel_rfl
abbrev KH(H:Nat):Code:=nc (.call (.ref 227) ⟨[.ref H],[]⟩)
def UP:List Nat:=(dN 125 0x4210030000300c001800000c4318c020000200800100000082318c020000200800100000082118c60100001004000800000410042108400000200800000000000000000000000000000000000000)
def KI(w:aj)(H:Nat):(Nat->Nat)->Out:=λy=>⟨.ok (.ret (.ref (y 0+1))),[],[(y 0+1,dX 227 (y 0)),(y 0,Co w 1 (y 1+2) H (y 0+3) (y 1+4) (y 1+6) (y 1+9) (y 1+11) (y 1+7)),(y 0+3,aA [] 0)],y 0+4,y 1+12⟩
theorem aPe(w:aj)(H sz tk:Nat)(J:Xs):Ends [2,3,0] ((aI w 4 0 none 600).C [] J ⟨[],sz,tk,UP, .nil⟩ (KH H) fin) (bX (KI w H (two sz tk))):=by kernel_rfl
theorem aPf(Y:aK w aa)(J:aa.NoLimit)(H:Nat):Any ao w aa 4 (KH H) [] (KI w H):=bS Y J 600 UP [2,3,0] (λz z=> .nil) (by decide) _ (λz=>rfl) (λH H z z z=>True.intro) λsz tk H=>aPe ..
noncomputable def j9(x:Nat->Nat):List NE:=[⟨x 3,"http://www.w3.org/XML/1998/namespace",x 20,"xml",330⟩,⟨x 4,"http://www.w3.org/1999/xhtml",x 21,"html",332⟩,⟨x 5,"http://www.w3.org/1999/02/22-rdf-syntax-ns#",x 22,"rdf",334⟩,⟨x 6,"http://schemas.xmlsoap.org/wsdl/",x 23,"wsdl",336⟩,⟨x 7,"http://www.w3.org/2001/XMLSchema",x 24,"xs",338⟩,⟨x 8,"http://www.w3.org/2001/XMLSchema-instance",x 25,"xsi",340⟩,⟨x 9,"http://purl.org/dc/elements/1.1/",x 26,"dc",342⟩]
def UQ:List (Str×ab×ag):=nc ([("http://www.w3.org/XML/1998/namespace",329, .str "xml" 330),("http://www.w3.org/1999/xhtml",331, .str "html" 332),("http://www.w3.org/1999/02/22-rdf-syntax-ns#",333, .str "rdf" 334),("http://schemas.xmlsoap.org/wsdl/",335, .str "wsdl" 336),("http://www.w3.org/2001/XMLSchema",337, .str "xs" 338),("http://www.w3.org/2001/XMLSchema-instance",339, .str "xsi" 340),("http://purl.org/dc/elements/1.1/",341, .str "dc" 342)])
def ER(p:ph)(l:List (Str×ab×ag)):List DictEntry:=nc (l.map λx=>⟨aS p x.1, .str x.1 x.2.1,x.2.2⟩)
abbrev UR(p:ph):Obj:=⟨.type "dict",none, .dict (ER p UQ).toArray 7,#[]⟩
theorem aPg(p:ph):(K p).lookup 44=some (UR p):=by kernel_rfl
section
theorem aPh(l:List (Str×ab×ag)):KeysOf (strKind prog w) (ER w.params l).toArray:=by intro e H;rw[ER,F9,bq]at H;obtain⟨x,z,rfl⟩:=H;exact⟨x.1,ml ..,rfl⟩
theorem US:∀(l:List (Str×ab×ag)),Pairs (strKind prog w) (ER w.params l) (l.map λx=>(x.1,x.2.2))
 |[]=> .nil|x::l=> .cons (ml ..) rfl (US l)
theorem aPi:Obj.IsDictOf (strKind prog w) (UR w.params) (UQ.map λx=>(x.1,x.2.2)):=⟨_,7,⟨rfl,rfl,rfl⟩,rfl,aPh _,US _,by decide+kernel⟩
end
abbrev ES:Obj:=nc (⟨.type "dict_items",none, .fields #[.ref 44],#[]⟩)
theorem aPj{Q:ag->am->Prop}{r:cz}(h:FJ Q (λ_ _=>False) r s):∃v,r= .ok (.ret v)/\Q v s:=by
 induction r with
 |error e=>exact h.elim|ok f=>induction f with
  |ret v=>exact⟨v,rfl,h⟩|_=>exact h.elim
theorem aPk(a:ag):Told ao (av w) A U fr aa (bC "list.__new__" [.type "list",a]) [] (λy=>⟨.ok (.ret (.ref (y 0))),[],[(y 0,listOf ([]:List ag).toArray 0)],y 0+1,y 1⟩):=by intro u s ak R hu H j hR;refine Ma (code_list_new (Q₁:=λv s'=>v= .ref s.heap.objs.size/\s'={ s with heap:=s.heap.push { cls:= .type "list",data:= .seq #[] } }) a ⟨rfl,rfl⟩) λr s' hr=>ii (aPj hr) λv Z Y J=>?_;subst Z;subst Y;subst J;refine hR (λi=>bif bZ i 0 then s.heap.objs.size else s.toks) _ (qv ..) rfl rfl (λp J=>?_) ⟨H.h.alloc rfl,H.os,H.gens,H.same⟩ λb o e z=>cZ _ e;exact rR (bI.mp J) (wP (a8 _))
def UT(a b c:Nat)(f t:Nat->Nat)(i:Nat):Nat:=nc (([a,b,c,f 0,f 1,f 2,f 3,f 4,f 5,f 6][i]?).getD (t (i - 20)))
theorem aPl{H:List Nat}(h:H.length=7):∃f:Nat->Nat,H=[f 0,f 1,f 2,f 3,f 4,f 5,f 6]:=⟨λi=>H.getD i 0,(aWi (by refine rR h ?_;rfl) λi J Y=>by simp[J]:H=(fI 7).map λi=>H.getD i 0)⟩
theorem aPm(hA:A.handled=none)(X:aK w aa)(S v:Nat):Told ao (av w) A U fr aa (bC "list.__init__" [.ref S, .ref v]) [(S,listOf ([]:List ag).toArray 0),(v,ES)] (λx=>⟨.ok (.ret .none),[(S,listOf ((j9 x).map ia).toArray (x 2)),(v,ES)],(j9 x).map λe=>(e.t,fB e),x 0,x 1⟩):=by
 intro u s ak R hu H m hR;have Y:=H.h.at_ _ ay;have hv:=H.h.at_ _ (aB ay);have Z:S≠v:=λe=>(cj.mp H.h.nd).1 (e▸ay);have UU:=X _ _ (aPg w.params);have h4:44≠S:=λe=>by have:=H.h.off _ ay;simp only[<-e,UU]at this;injection this
 obtain⟨ep,ei⟩:=KdkAt.of (aPi);refine dK aX4.plain PySem.F.entry_list_init (aX4.check _ _ _ _ _ _ _ _ ⟨_,Y,rfl⟩ (PySem.F.args_list_init_2 _ _) ?_);refine au (au (wS Y rfl (aH ?_)));refine au (FB Y rfl ?_);have kM:=nN (mT (λz=>(#[]:Array ag))) Y rfl;have xP:∀b o,b≠S->s.heap.get? b=some o->(s.heap.update S (mT (λz=>(#[]:Array ag)))).get? b=some o:=λb o hb e=>(XD _ _ (Ne.symm hb)).trans e;refine au (wpAny_letGo ?_);refine kdx_extend (A:={ A with units:=u }) hA ⟨_,xP _ _ Z.symm hv,rfl,rfl⟩ (ei.dictAt (xP _ _ h4 (H.h.keep _ _ UU))) S Z h4 .none _ kM (λh' tk acc c as hk kF hl hG zT=>?_) (by decide+kernel);have KJ:∀b o,b≠S->s.heap.get? b=some o->h'.get? b=some o:=λb o hb e=>hk b o hb (xP b o hb e);have key:∀j:Nat,∃t:Nat,∀(a:af)(k:Str)(x:ag),as[j]?=some a->_[j]?=some (k,x)->h'.get? a=some ⟨.type "tuple",none, .seq #[.str k t,x] 0,#[]⟩:=λj=>by
  induction ha:as[j]? with
  |none=>exact⟨0,λa k x e=>nomatch e⟩|some a=>
   refine hO λci aY=>MS (hG.pairs j a ha) λkv k x e1 e2 e3=>?_;obtain⟨t,rfl⟩:=FY e2;refine aY ⟨t,λa' k' x' ea ek=>?_⟩;injection ea with ea;subst ea
   replace ek:=e1▸ek;cases ek;exact e3
 obtain⟨tt,J⟩:=Classical.axiomOfChoice key;have A4:∀a∈as,s.heap.get? a=none:=λa ha=>wP (cT (by have:=hG.above a ha;rw[((ib ..).1)]at this;exact this));obtain⟨f,rfl⟩:=aPl hl;have ob:∀p∈(j9 (UT 0 0 0 f tt)).map (λe=>(e.t,fB e)),h'.get? p.1=some p.2/\p.1∈[f 0,f 1,f 2,f 3,f 4,f 5,f 6]:=by simp only[j9,iK,wR,w7];exact⟨⟨J 0 _ _ _ rfl rfl,jb (i:=0) rfl⟩,⟨J 1 _ _ _ rfl rfl,jb (i:=1) rfl⟩,⟨J 2 _ _ _ rfl rfl,jb (i:=2) rfl⟩,⟨J 3 _ _ _ rfl rfl,jb (i:=3) rfl⟩,⟨J 4 _ _ _ rfl rfl,jb (i:=4) rfl⟩,⟨J 5 _ _ _ rfl rfl,jb (i:=5) rfl⟩,⟨J 6 _ _ _ rfl rfl,jb (i:=6) rfl⟩,λz h=>nomatch h⟩
 refine hR (UT h'.objs.size tk c f tt) _ rfl rfl rfl (λp hp=>A4 _ (ob p hp).2) ⟨⟨λp hp=>?_,?_,λb o e=>KJ b o (λq=>by have:=H.h.off _ ay;simp only[<-q,e]at this;injection this) (H.h.keep b o e),λp hp=>?_⟩,H.os,H.gens,H.same⟩ λb o e J=>KJ b o (λq=>J _ ay q.symm) e
 ·rcases cr.mp hp with hp|hp
  ·exact(ob p hp).1
  ·rcases a9.mp hp with rfl|hp
   ·rw[show acc=[aN (f 0), .ref (f 1), .ref (f 2), .ref (f 3), .ref (f 4), .ref (f 5), .ref (f 6)].toArray from aX5.mp zT]at kF;exact kF
   ·exact rR (bI.mp hp) (KJ _ _ Z.symm hv)
 ·refine fj.mpr ⟨hG.rise.imp dw,cj.mpr ⟨λh=>Z (bI.mp h),cj.mpr ⟨bi,bN⟩⟩,λx J y hy e=>?_⟩;have h1:=A4 x J;rcases a9.mp hy with rfl|hy
  ·simp only[e,Y]at h1;injection h1
  ·simp only[e,bI.mp hy,hv]at h1;injection h1
 ·rcases cr.mp hp with hp|hp
  ·have:=A4 _ (ob p hp).2;induction q:aa.get? p.1 with
   |none=>rfl|some o=>replace this:=(H.h.keep _ _ q)▸this;injection this
  ·rcases a9.mp hp with rfl|hp
   ·exact(H.h.off _ ay:)
   ·exact rR (bI.mp hp) (H.h.off _ (aB ay):)
abbrev KM(wm:Nat)(b:Bool):Code:=nc (.call (.ref 150) ⟨[.ref wm],[("strip_text", .bool b)]⟩)
def UW:List Nat:=(dN 478 0x294a02600026098013000009ca94a02600026098013000009ca94a02600026098013000009ca94a02600026098013000009ca94a02600026098013000009ca73982400024090012000009456b581605294a88210000100000083d4a5014010422000000000000000004210a007380003800001cc64210038000380e001c00000e639ce030000300c001800000c521080180001806000c00000621108400c0000c030006000003108842006000060180030000018844210030000300c001800000c4221080180001806000c00000621108400c0000c030006000003108842006000060180030000018844210030000300c001800000c4318c020000200800100000082100421084210842108421084200000000400000200800000000000000000000000000000000000000)
def UX(sz:Nat):aF:= .cons (some 0) (bC "list.__new__" [.type "list", .ref (sz+8)]) [] [] (λy=>⟨.ok (.ret (.ref (y 0))),[],[(y 0,aA [] 0)],y 0+1,y 1⟩) λy=>
 .cons (some 0) (bC "list.__init__" [.ref (y 0), .ref (sz+8)]) [0,1] [(y 0,aA [] 0),(sz+8,ES)] (λx=>⟨.ok (.ret .none),[(y 0,aA ((j9 x).map ia) (x 2)),(sz+8,ES)],(j9 x).map λe=>(e.t,fB e),x 0,x 1⟩) λ_=> .nil
def tgK(y:Nat->Nat)(i:_root_.Fin 17):Tok:=nc (([y 1+10,y 1+12,y 1+14,y 1+16,y 1+18,y 1+20,y 1+22,y 1+24,y 1+26,y 1+30,y 1+32,y 101+2,y 101+4,y 101+6,y 101+8,y 101+10,y 101+13][i.val]?).getD 0)
def uz(wm:Nat)(b:Bool)(y:Nat->Nat):TG where
 tg:=y 0+1
 td:=y 0
 dl:=y 0+3
 ds:=y 0+6
 ns:=y 0+7
 pm:=y 100+1
 ps:=y 100+2
 wr:= .ref wm
 b:=b
 rs:=false
 rn:=false
 ti:=y 101+11
 ep:=17
 kt:=tgK y
 cU:=[⟨y 0+5,0,[.ref (y 0+4)]⟩]
 dep:=0
 aL:=[⟨y 2,y 102,(j9 λi=>y (100+i)).map ia⟩,⟨y 100,0,[]⟩]
 ej:=2
 ents:=[⟨y 0+4,"http://www.w3.org/XML/1998/namespace",y 1+27,"xml",y 1+28⟩]
 ni:=j9 λi=>y (100+i)
def KN(w:aj)(G:TG):List (af×ar):=[(G.tg,dX 150 G.td),(G.td,fp w G.wr G.b G.rs G.rn G.dl G.ds G.ns G.pm G.ps G.ti G.ep G.kt),(G.dl,listOf ([]:List ag).toArray 0),(G.ds,listOf (G.cU.map λl=>aN l.a).toArray G.dep),(G.ns,listOf (G.aL.map λl=>aN l.a).toArray G.ej),(G.ps,listOf [dY false].toArray 0)]++((G.cU.map λl=>(l.a,listOf l.items.toArray l.ep))++((G.ents.map λe=>(e.t,fB e))++((G.aL.map λl=>(l.a,listOf l.items.toArray l.ep))++G.ni.map λe=>(e.t,fB e))))
def KO(w:aj)(wm:Nat)(b:Bool):(Nat->Nat)->Out:=λy=>⟨.ok (.ret (.ref (y 0+1))),[],KN w (uz wm b y),y 100+3,y 101+14⟩
def tgX(sz tk:Nat)(H:Xs)(i:Nat):Nat:=nc (bif bZ i 0 then sz else bif bZ i 1 then tk else bif bZ i 2 then H 0 0 else H 1 (i - 100))
theorem aPn(w:aj)(wm:Nat)(b:Bool)(sz tk:Nat)(H:Xs):Ends [18,19,16,13,12,0,14,15,10,2,3,4,5,6,7,8,9] ((aI w 4 0 none 900).C [] H ⟨[],sz,tk,UW,UX sz⟩ (KM wm b) fin) (bX (KO w wm b (tgX sz tk H))):=by kernel_rfl
theorem aPo(H:aK w aa)(J:aa.NoLimit)(wm:Nat)(b:Bool):Any ao w aa 4 (KM wm b) [] (KO w wm b):=bS H J 900 UW [18,19,16,13,12,0,14,15,10,2,3,4,5,6,7,8,9] (λsz z=>UX sz) (by decide) _ (λz=>rfl) (λJ J sz z z=>⟨rfl,bN,λz z z=>aPk _,λy z h=>⟨rfl,by decide,λz J z=>aPm J H _ _,λz z z=>True.intro⟩⟩) λsz tk H=>aPn ..
def UY:List Nat:=(dN 74 0x41098c63004529400180420000200000104802008021060108000080000041000601080000800000410042108421)
def UZ(G:TG)(H:Nat)(J:List ag)(Y:Nat)(Z:List ag)(tk:Nat):aF:=xV 4 G.ns Z (.ref H) G.ej (tk+9) λl=>il 6 H J Y (.ref (l 0)) λ_=> .nil
def KP(G:TG)(w:aj)(H:Nat)(J:List ag)(Z:Nat)(fe:List ag)(Y:Nat)(p u:Str)(t t2:ab):(Nat->Nat)->Out:=nc (λy=>⟨.ok (.ret .none),[(G.tg,dX 150 G.td),(G.td,G.dict w),(G.dl,listOf ([]:List ag).toArray Y),(G.ns,listOf (fe++[aN H]).toArray G.ej),(H,listOf (J++[aN (y 2)]).toArray (Z+1))],[(y 2,⟨.type "tuple",none, .seq (cF [.str u t2, .str p t]) 0,#[]⟩)],y 0,y 1⟩)
theorem aPp(w:aj)(G:TG)(J:Nat)(Y:List ag)(Z:Nat)(fe:List ag)(de:Nat)(p u:Str)(t t2:ab)(sz tk:Nat)(H:Xs):Ends [0,2,3,4,5,6] ((aI w 2 0 none 500).C [] H ⟨ui G w J Y Z fe de,sz,tk,UY,UZ G J Y Z fe tk⟩ (Jy G p u t t2) fin) (bX (KP G w J Y Z fe de p u t t2 λi=>match i with|0=>H 1 0|1=>H 1 1|_=>H 0 0)):=by kernel_rfl
theorem aPq(XK:aK w aa)(NL:aa.NoLimit)(G:TG)(Z:Nat)(H:List ag)(J:Nat)(Y:List ag)(de:Nat)(p u:Str)(t t2:ab)(hz:H.length<=1000):Any ao w aa 2 (Jy G p u t t2) (ui G w Z H J Y de) (KP G w Z H J Y de p u t t2):=bS XK NL 500 UY [0,2,3,4,5,6] (λz tk=>UZ ..) (by decide) _ (λz=>rfl) (λH H z z z=>Rv λz z=>lu hz λz z=>True.intro) λsz tk H=>aPp ..
def l1O(V:LV)(so:ar)(p:Nat->PR)(v:List ag)(s:Int)(b:Bool):aF:= .cons (some 4) (gG 238 [.ref V.S]) [0] [(V.S,so)] (KG V.S so p) λa=>C5 6 V.S so (a 0) (xC .none (.int 60 (a 1+1)) .none) v λc=>OO 0 (c 2) v 0 s λf=>iS "int.__eq__" (s.fmod 2) 1 b (f 1+1) (f 1+2) λ_=> .nil
noncomputable def l1K(k:Nat->ab)(H:Xs):Nat->ab
 |1=>H 0 1|2=>H 3 1|i=>k i
def l2O(w:aj)(V:LV)(re:Nat)(rows:List FR)(T:Str):aF:= .cons none (TB V.R) [0,1,2,3,4] (gf V.R re rows) (λx=>⟨.ok (.ret (.str T (x 2))),gf V.R re rows,[],x 0,x 1⟩) λa=> .cons (some 2) (gG 257 [.str T (a 2)]) [5] [(252,jJ #[])] (HB w T) λb=> .cons (some 4) (KH (b 1+7)) [] [] (KI w (b 1+7)) λ_=> .nil
section
variable (w:aj)(L S:af)(V:LV)(so:ar)(d:Option af)(vs v:List ag)(e:Nat)(sl:Array (Option ag))(p:Nat->PR)(s:Int)(b:Bool)(k:Nat->ab)(sz tk re:Nat)(rows:Nat->FR)(T:Str)(σ:Xs)(a:List (af×ar))
theorem aPr:bA ((aI w 0 0 none 400).S [] σ ⟨a,sz,tk,[], .nil⟩ (md oY ⟨[.ref S],[]⟩) fin) (.ok [("script", .ref S)],a,sz,tk):=by kernel_rfl
def KQ(S:af):LV:=nc (⟨S,0,false,"",0,0,0,"",0,0⟩)
theorem aPs:bA ((aI w 0 0 none 400).S [] σ ⟨a,sz,tk,[2,2], .nil⟩ (me oY.scope oY.globals oY.closure [("script", .ref S)] (oY.qualname++".<locals>.") (some 272) oY.code none oY.builtins) fin) (.ok (fh sz),[(sz+1,ca none),(sz,(KQ S).aJ w (λi=>tk+i) 1)]++a,sz+2,tk+1):=by kernel_rfl
theorem aPt:Ends [2,3,4,5,6,7,8] ((aI w 5 0 none 600).S [] σ ⟨[(V.S,iT d vs e sl),(L,V.aJ w k 1)],sz,tk,(dN 20 0x4a45f0004239ce7000e710040),l1O V (iT d vs e sl) p v s b⟩ (aV (cN.take 2) (fh L)) fin) (.ok .next,(gf (σ 0 2) 4 (gh p (σ 0))++[(V.S,iT d vs e sl),(L,{ V with R:=σ 0 2,b:=b }.aJ w (l1K k σ) 3)]).map some,σ 3 0,σ 3 1+1):=by kernel_rfl
end
def EU(x y:Nat->Nat):LX where
 lx:=y 0+1
 ld:=y 0
 sf:=x 1+7
 sd:=x 1+16
 rd:=x 1+15
 c2:=x 1+14
 ce:=x 0+1
 sl:=x 3
 pb:=y 0+3
 n:=1
 e1:=x 4
 tn:=y 1+2
 k1:=y 1+4
 k2:=y 1+6
 k3:=y 1+9
 k4:=y 1+11
 k5:=y 1+7
 k6:=x 2+15
 kq:=x 2+8
 GC:=OE (x 0+1) (.ref (x 1+6)) (.ref (x 1))
 pm:= .str "law_sc0109_01" 652
 ct:= .ref (x 1+8)
 oct:= .type "code"
 GD:=none
 v0:= .str "<lambda>" (x 2+7)
 vr:=OF (x 1) (x 2)
 sN:=#[]
 GE:= .type "cell"
 GF:=none
 GG:=#[]
abbrev LX.aPu(X:LX)(w:aj)(vs:List ag):List (af×ar):=[(X.lx,dX 227 X.ld),(X.ld,Co w X.n X.tn X.sf X.pb X.k1 X.k2 X.k3 X.k4 X.k5),(X.sf,Gy X.GC (some X.sd)),(X.sd,GB w X.rd X.k6),(X.rd,GA xh X.ce X.pm X.c2 X.ct),(X.c2,⟨X.oct,X.GD, .fields (X.v0:: .str xh X.kq::X.vr).toArray,X.sN⟩),(X.ce,⟨X.GE,X.GF, .cell (some (.ref X.sl)),X.GG⟩),(X.sl,listOf vs.toArray X.e1)]
noncomputable def l2K(k:Nat->ab)(H:Xs):Nat->ab
 |3=>H 0 1|4=>H 2 1+12|i=>k i
noncomputable def l3K(k:Nat->ab)(H:Xs):Nat->ab
 |5=>H 0 101+14|i=>k i
noncomputable def l4K(k:Nat->ab)(tk:Nat):Nat->ab
 |6=>tk+2|i=>k i
def wG(c:Nat)(a t u:Nat):NE:=⟨a,bv c,u,⟨#[c]⟩,t⟩
def rT:List NE->List ag
 |[]=>[]|e::es=>rT es++[ia e]
def KS(w:aj)(G:TG)(H:Nat)(Y:List ag)(J:Nat):List Nat->Nat->Nat->Nat->List NE->aF
 |[],_,_,_,_=> .nil|c::cs,i,s,u,es=> .cons (some 2) (Jy G ⟨#[c]⟩ (bv c) s u) [i+1,i+2,i+3,i+4,i+5] (ui G w H (rT es) i Y J) (KP G w H (rT es) i Y J ⟨#[c]⟩ (bv c) s u) λx=>KS w G H Y J cs (i+1) (x 1) (x 1+3) (wG c (x 2) s u::es)
def U1:List Nat:=(dN 213 0x9ce7380e0380400018c41c00000e0000e0000ec630c631806018020000b59cc00000600006000065ad65294a0280a010000528c50000028000280002a94a210840100400800025252000001000010000112948c6318060180400010820c000006000060000684204210802008020000738c4000002000020000239ce108420080200801f)
def yF(tk:Nat)(H:Xs):List NE:=[wG 109 (H 5 2) (H 4 1) (H 4 1+3),wG 98 (H 4 2) (H 3 1) (H 3 1+3),wG 99 (H 3 2) (H 2 1) (H 2 1+3),wG 103 (H 2 2) (H 1 1) (H 1 1+3),wG 121 (H 1 2) (H 0 1) (H 0 1+3),wG 114 (H 0 2) (tk+1) (tk+4)]
section
variable (w:aj)(L:af)(V:LV)(k:Nat->ab)(sz tk re:Nat)(r0 r1 r2 r3:FR)(T:Str)(σ:Xs)(G:TG)(na de:Nat)(fe:List ag)
theorem aPv:Ends [1,2,4,5,6,7,8,9,3,0,10,11,12,13,14,15,16,17] ((aI w 6 0 none 600).S [] σ ⟨gf V.R re [r0,r1,r2,r3]++[(252,jJ #[]),(L+1,ca none),(L,V.aJ w k 3)],sz,tk,(dN 18 0x25284040008080010810100),l2O w V re [r0,r1,r2,r3] T⟩ (aV ((cN.drop 2).take 3) (fh L)) fin) (.ok .next,((EU (σ 1) (σ 2)).aPu w (oo T.cps.toList.reverse λi=>σ 1 (i+1))++((((EU (σ 1) (σ 2)).pb,aA [] 0)::(σ 2 0+4,aA [] 0)::gf V.R re [r0,r1,r2,r3])++[(252,zU (σ 1 1)),(L+1,ca (some (.ref (EU (σ 1) (σ 2)).lx))),(L,{ V with T:=T,t:=σ 0 2,W:=σ 2 0+4 }.aJ w (l2K k σ) 5)])).map some,σ 2 0+5,σ 2 1+13):=by kernel_rfl
theorem aPw:bA ((aI w 5 0 none 600).S [] σ ⟨[(V.W,aA [] 0),(L,V.aJ w k 5)],sz,tk,(dN 18 0x29410003080010840100440), .cons (some 4) (KM sz V.b) [] [] (KO w sz V.b) λ_=> .nil⟩ (aV ((cN.drop 5).take 1) (fh L)) fin) (.ok .next,KN w (uz sz V.b (σ 0))++[(sz,fY V.W),(V.W,aA [] 0),(L,{ V with tg:=(uz sz V.b (σ 0)).tg }.aJ w (l3K k σ) 6)],σ 0 100+3,σ 0 101+15):=by kernel_rfl
theorem aPx:Ends [2,3,4,5,6,7,9,10,11,12,13,14] ((aI w 4 0 none 900).S [] σ ⟨ui G w na [] 0 fe de++[(L,{ V with tg:=G.tg }.aJ w k 6)],sz,tk,U1,KS w G na fe de [114,121,103,99,98,109] 0 (tk+1) (tk+4) []⟩ (aV ((cN.drop 6).take 1) (fh L)) fin) (.ok .next,((yF tk σ).map (λe:NE=>(e.t,fB e))++(ui G w na (rT (yF tk σ)) 6 fe de++[(L,{ V with tg:=G.tg,sx:="m",tx:=σ 4 1 }.aJ w (l4K k tk) 7)])).map some,σ 5 0+2,σ 5 1):=by kernel_rfl
end
abbrev EV(x y:Str)(t u:ab)(b:Bool)(next:aM):aF:=cM "str.__ne__" [.str x t, .str y u] (λ_=> .bool b) next
def aPy(t:Bool):List Nat:=(dN 23 0x210840107c21080200840000000)++((match t with
 |true=>[]|false=>[3,3,777,0,3,0,3])++(dN 128 0x18c7188463180601804210040100c50000028000280002b82118c6318c6018060108401004031400000a0000a0000ae0846318c63180601804210040100c50000028000280002b82118c6318c6018060))
abbrev dF:Str:=nc (⟨([]:List Nat).toArray⟩)
def l9O(w:aj)(X:LX)(l:List (Nat×ab))(t1 t2:ab)(e2:Nat)(N:Int):aF:= .cons (some 2) (pX X) [4,5,12] (X.ip w [.str dF t1, .str "h" t2] e2) (zM X w dF t1 (some ("h",t2)) e2) λ_=> .cons (some 2) (pX X) [4,5,12] (X.ip w [.str "h" t2] (e2+1)) (zM X w "h" t2 none (e2+1)) λ_=> .cons (some 8) (pX X) [4,5,6,7,8,9,10,11,12] (X.cD w l [] (e2+2)) (m8 X w [] [] (e2+2) [] N) λ_=> .nil
noncomputable def l9K(k:Nat->ab)(H:Xs):Nat->ab
 |7=>H 2 1|i=>k i
section
variable (w:aj)(L:af)(V:LV)(k:Nat->ab)(sz tk re e e2:Nat)(σ:Xs)(X:LX)(l rest:List (Nat×ab))(W:List Nat)(N:Int)(wv:List ag)(S D:Str)(t1 t2:ab)(r0 r1 r2 r3:FR)(x:Str)
theorem aPz:bA ((aI w 9 0 none 600).S [] σ ⟨X.cD w l [] e2++[(L+1,ca (some (.ref X.lx))),(L,V.aJ w k 7)],sz,tk,(dN 20 0x17c401040000020000200002a), .cons (some 8) (pX X) (fI 9) (X.cD w l [] e2) (m8 X w rest [] e2 [48] N) λa=>EV ⟨[48].toArray⟩ "0" (a 2) (a 1) false λ_=> .nil⟩ (aV ((cN.drop 7).take 1) (fh L)) fin) (.ok .next,LX.cD { X with n:=N,tn:=σ 0 3,e1:=σ 0 4 } w rest [] e2++[(L+1,ca (some (.ref X.lx))),(L,V.aJ w k 7)],σ 1 0,σ 1 1):=by kernel_rfl
theorem aP0:bA ((aI w 9 0 none 600).S [] σ ⟨(V.W,aA wv e)::(L,V.aJ w k 7)::gf V.R re [r0,r1,r2,r3],sz,tk,[2,2,0,2,2,0,2,777,2],Bc [0] V.W "" tk wv e S λa=> .cons none (gG 267 [.ref V.R, .bool V.b]) [2,3,4,5,6] (gf V.R re [r0,r1,r2,r3]) (λx=>⟨.ok (.ret (.str S (x 2))),gf V.R re [r0,r1,r2,r3],[],x 0,x 1⟩) λb=>EV S S (a 2) (b 2) false λ_=> .nil⟩ (aV ((cN.drop 9).take 1) (fh L)) fin) (.ok .next,(V.W,aA wv e)::(L,V.aJ w k 7)::gf V.R re [r0,r1,r2,r3],σ 2 0,σ 2 1):=by kernel_rfl
theorem aP1:bA ((aI w 5 0 none 600).S [] σ ⟨X.ip w [.str x t1] e2++[(L+1,ca (some (.ref X.lx))),(L,V.aJ w k 7)],sz,tk,(dN 18 0x4010400000200002000024), .cons (some 2) (zL X "h" tk) (fI 3) (X.ip w [.str x t1] e2) (zN X w "h" tk (some (x,t1)) e2) λ_=> .nil⟩ (aV ((cN.drop 10).take 1) (fh L)) fin) (.ok .next,X.ip w [.str x t1, .str "h" tk] (e2+1)++[(L+1,ca (some (.ref X.lx))),(L,V.aJ w k 7)],σ 0 0,σ 0 1):=by kernel_rfl
abbrev l9R:Rs (Except ag dm×WS):=(aI w 9 0 none 900).S [] σ ⟨X.cD w l [.str dF t1, .str "h" t2] e2++[(L+1,ca (some (.ref X.lx))),(L,V.aJ w k 7)],sz,tk,aPy (w.params.followText "comprehension-iter-twice"),l9O w X l t1 t2 e2 N⟩ (aV ((cN.drop 11).take 1) (fh L)) fin
theorem aP2:Ends [3,6,7,8,9,10,11,12,13,14,15,16] (l9R w L V k sz tk e2 σ X l N t1 t2) (.ok .next,((sz+2,listOf [ag.str dF t1, .str "h" t2, .str dF (σ 2 2)].toArray 3)::(LX.cD { X with n:=N,tn:=σ 2 3,e1:=σ 2 4 } w [] [] (e2+2)++[(L+1,ca (some (.ref X.lx))),(L,{ V with E:=sz+2 }.aJ w (l9K k σ) 8)])).map some,σ 2 0+2,σ 2 1+1):=by revert w;refine byRow2 "comprehension-iter-twice" (λw=>?_) (λw=>?_)<;>kernel_rfl
end
def oZ:FuncData:=match sy.1.data with
 | .func f=>f|_=>default
theorem U2(w:aj):(K w.params).lookup 262=some ⟨sy.1.cls,sy.1.dict, .func oZ,sy.1.slots⟩:=by kernel_rfl
abbrev KT:Str:=nc ("_law_tell")
def nI:Scope:=nc (oZ.scope)
theorem aP3(L:Nat):kC L=su KT ⟨.function,nI.names,nI.isGenerator,nI.isCoroutine,nI.more⟩ L 262 oZ.code []:=by kernel_rfl
abbrev aP4(X:LX)(G:TG)(d:Int)(r g b:UInt64)(t1 t2 H J:ab):Args:=nc (⟨[.ref X.lx, .ref G.tg, .int d t1, .float r t2, .float g H, .float b J],[]⟩)
abbrev KU(X:LX)(G:TG)(d:Int)(r g b:UInt64)(t1 t2 H J:ab):List (Str×ag):=nc ([("lexer", .ref X.lx),("target", .ref G.tg),("deep", .int d t1),("red", .float r t2),("green", .float g H),("blue", .float b J)])
abbrev uA(r g b:UInt64)(t2 H J:ab):DS:=nc (⟨r,g,b,t2,H,J,[],0,0,0,0,0,0,0,0,0,0,0,0,0,0⟩)
abbrev KV(L tk:Nat)(X:LX)(G:TG)(d:Int)(t1:ab):TF:=nc (⟨L,X.lx,G.tg,d,t1,"",0,λi=>tk+i.val⟩)
section
variable (w:aj)(o:ar)(G:TG)(S:SX)(dv:List ag)(de:Nat)(X:LX)(l:List (Nat×ab))(e2:Nat)(d:Int)(r g b:UInt64)(t1 t2 t3 t4:ab)(L' tk:Nat)(σ:Xs)
theorem aP5:Ends (fI (gv w o G S dv de X l [] e2).length) ((aI w 0 0 none 400).S [] σ ⟨gv w o G S dv de X l [] e2,L',tk,[], .nil⟩ (md oZ (aP4 X G d r g b t1 t2 t3 t4)) fin) (.ok (KU X G d r g b t1 t2 t3 t4),(gv w o G S dv de X l [] e2).map some,L',tk):=by kernel_rfl
theorem aP6:Ends [1,2,3,4,5,6,7,8,9,10,11,12,13,14,15,16,17,18,0] ((aI w 0 0 none 400).S [] σ ⟨gv w o G S dv de X l [] e2,L',tk,(dN 12 0x84210842108421), .nil⟩ (me oZ.scope oZ.globals oZ.closure (KU X G d r g b t1 t2 t3 t4) (oZ.qualname++".<locals>.") (some 262) oZ.code none oZ.builtins) fin) (.ok (su KT ⟨.function,nI.names,nI.isGenerator,nI.isCoroutine,nI.more⟩ L' 262 oZ.code []),(gv w o G S dv de X l [] e2++[(L',(KV L' tk X G d t1).f0 w (uA r g b t2 t3 t4))]).map some,L'+1,tk+6):=by kernel_rfl
end
noncomputable def az.g(κ:az):Nat:=match κ.c with
 |0=>0|_=>1
variable {g:UInt64}
theorem az.g2(κ:az):κ.g=0\/κ.g=1:=by rcases κ with ⟨f,_|c,x⟩<;>first|exact .inl rfl|exact .inr rfl
def U3(c:Nat):List Nat:=match c with
 |0=>HY|_=>O9
def U4(c:Nat):Nat:=nc (match c with
 |0=>1|_=>4)
def hlM(c:Nat):Nat:=nc (match c with
 |0=>0|_=>4)
theorem aP7(w:aj)(T:TF)(D:DS)(h l p m:UInt64)(k:Int)(x c:Nat)(Y:c=0\/c=1)(sz tk:Nat)(H:Xs)(f:Nat)(J:f=1\/f=2):Ends [4] ((aI w 8 0 none 900).S [] H ⟨[(T.L,T.aJ w D f)],sz,tk,U3 c,Ae D h l p m k x c⟩ (aV ((iy.drop 2).take 3) (kC T.L)) fin) (.ok .next,[some (T.L,T.oB w D (xL h l p x c H) f 0)],H (U4 c) 0,H (U4 c) 1+hlM c):=by
 rcases Y with rfl|rfl
 ·exact aEr w T D h l p m k x sz tk H f J
 ·exact aEs w T D h l p m k x sz tk H f J
theorem aP8(κ:az)(h l p:UInt64)(H:Xs):(xL h l p κ.x κ.g H).tag=κ.tag:=by rcases κ with ⟨f,_|c,x⟩<;>rfl
theorem aP9(κ:az):rA κ.g κ.x=κ.tag:=by rcases κ with ⟨f,_|c,x⟩<;>rfl
def i7(b:Bool)(p:Option Str):List Str:=match p with
 |none=>[]|some x=>oQ b x
abbrev wH(κ:az)(G:TG)(y:Nat->Nat):List (af×ar):=(y 2,aA [] 0)::(κ.ex y++[(G.ds+1+y 11,aA (κ.aX y) (0+κ.lP))])
abbrev Bm(κ:az)(w:aj)(G:TG)(S:SX)(H:List Str)(a:AT)(y:Nat->Nat):Out:=⟨.ok (.ret .none),AS κ w G a S H (G.ds+1+y 11) y,wH κ G y,y 0,y 1⟩
def o8(b:Bool)(p:Option Str):Prop:=∀x,p=some x->x.length<=100/\(iZ b x).length<=100
theorem aQa{k:KX}{h:aw}(ok:k.Ok w)(hL:k.aa.objs.size<=k.L)(hn:k.dp+10< bk)(hU:U+400< dQ)(aZ:∀b o,k.aa.get? b=some o->h.get? b=some o)(κ:az)(G:TG)(H:Bool)(S:SX)(a:AT)(t u:ab)(p:Option Str)(de:Nat)(b6:∀p∈G.ro++κ.lx,h.get? p.1=some p.2/\p.1≠k.L/\k.aa.get? p.1=none)(f7:((G.ro++κ.lx).map (·.1)).Nodup)(J:fQ G S xs kk)(Z:kk<=100)(F:κ.Fits xs)(ha:qi a)(fq:S.wv.length<=890)(hp:o8 G.b p)(KW:p≠none->H=true):Told True (av w) k.bE U (some k.L) h (.call (.ref 120) (yj (G.run H) a κ.tag t)) (ny w (G.run H) a S [(123,κ.o)] (jz p u) de) (λy=>⟨.ok (.ret .none),(Bm κ w (G.run H) S (i7 G.b p) a y).post,(Bm κ w (G.run H) S (i7 G.b p) a y).new,(Bm κ w (G.run H) S (i7 G.b p) a y).sz,(Bm κ w (G.run H) S (i7 G.b p) a y).tk⟩):=by
 have g:∀ta,(G.run H).ds< ta->(gW (fP (G.run H)) S.wm).Ok ta []:=λta h=>have g:=J.start ta h;⟨g.hy,g.js,g.jS,g.mF,g.oA,g.hz,g.tN,g.ra,g.rb,g.rf,g.rh⟩;have Y:κ.Ok (fP (G.run H)) S.wm:=by have Y:=(J.kin F).g;exact⟨Y.imp id (Yh (λ⟨a,b,c,d⟩=>⟨a,b,⟨c.hx,c.nj,c.fX,c.hex⟩,d⟩) λ⟨a,c,d⟩=>⟨a,⟨c.hx,c.nj,c.fX,c.hex⟩,d⟩)⟩
 have h1:=aT [lE Y1 100,lE Y0 (10+Y1)] (lE Y0 900) rfl Z J.hd;have h2:S.cw.length<=900:=J.hk▸aE Z (dG ..);have h3:=aT [lE Y1 100,lE Y0 (10+Y1)] (lE Y0 900) rfl Z J.hn;induction p with
 |none=>exact q8 (aJ3 κ w _ a S t de g Y ha h1 h2 fq h3) ok hL hn hU aZ (.refl _) b6 f7 (λz=>⟨rfl,rfl,rfl,rfl, .refl _⟩) (λz=>rfl)|some x=>
  obtain rfl:=KW nofun
  obtain⟨hx,hy⟩:=hp x rfl;exact q8 (aJ4 κ w _ a S t u x de g Y ha hx hy h1 h2 fq h3) ok hL hn hU aZ (.refl _) b6 f7 (λz=>⟨rfl,rfl,rfl,rfl, .refl _⟩) (λz=>rfl)
theorem EW(x:α)(A R:List α):(x::A++R).Perm (A++x::R):=lj.symm
abbrev az.rU(κ:az)(G:TG)(y:Nat->Nat):EX:=nc (⟨G.ds+1+y 11,κ.aX y,0+κ.lP,G.cU.map λl=>aN l.a,G.aL.map λl=>aN l.a,y 2⟩)
noncomputable abbrev TG.at_(G:TG)(rn:Bool)(y:Nat->Nat):TG:={ G with rs:=true,rn:=rn,dep:=y 5,ej:=y 6 }
abbrev SX.mQ(S:SX):SX:=nc ({ S with cw:=S.cw++[dY false] })
abbrev U5(κ:az)(w:aj)(G:TG)(S:SX)(b:Bool)(Y H:List Str)(y J:Nat->Nat):(Nat->Nat)->Out:=λz=>⟨.ok (.ret .none),(Ef w ((κ.G3 G y).at_ false J) (S.mQ.bV H J) (κ.rU G y) κ.g κ.x b Y z).drop 1,[],z 0,z 1⟩
theorem aQb{k:KX}{h:aw}(ok:k.Ok w)(hL:k.aa.objs.size<=k.L)(hn:k.dp+9< bk)(hU:U+360< dQ)(aZ:∀b o,k.aa.get? b=some o->h.get? b=some o)(κ:az)(G:TG)(S:SX)(t u:ab)(p:Option Str)(de:Nat)(H:List Str)(y J:Nat->Nat)(b6:∀p∈(G.ds+1+y 11,aA (κ.aX y) (0+κ.lP))::(κ.G3 G y).ro,h.get? p.1=some p.2/\p.1≠k.L/\k.aa.get? p.1=none)(f7:(((G.ds+1+y 11,aA (κ.aX y) (0+κ.lP))::(κ.G3 G y).ro).map (·.1)).Nodup)(Z:fQ G S xs kk)(Y:kk<=100)(F:κ.Fits xs)(fq:(S.wv++bn H J).length<=890)(hp:o8 G.b p)(b:Bool)(hb:((((kk+1:Nat):Int)==1)=b)):Told True (av w) k.bE U (some k.L) h (Sc G κ.tag t) (AX w ((κ.G3 G y).at_ false J) (S.mQ.bV H J) (κ.rU G y) (jz p u) de) (U5 κ w G S b (i7 G.b p) H y J):=by
 have hd:=Z.hd;have rm:=Z.hn;have g:(gW ((κ.G3 G y).at_ false J) (S.mQ.bV H J).wm).Ok (κ.rU G y).ta (κ.rU G y).aX:=have g:=Z.SE Y F y _ (fG ..);⟨g.hy,g.js,g.jS,g.mF,g.oA,g.hz,g.tN,g.ra,g.rb,g.rf,g.rh⟩;have hc:κ.g=0\/(κ.g=1/\(gW ((κ.G3 G y).at_ false J) (S.mQ.bV H J).wm).Tag κ.x/\∃e∈((κ.G3 G y).at_ false J).ents,e.u=bv κ.x):=by
  rcases κ.g2 with h|h
  ·exact .inl h
  ·have hc:κ.c≠0:=λq=>by unfold az.g at h;replace h:=q▸h;injection h
   have hx:κ.x∈dS:=by
    rcases F.g with h|⟨j,j,h2,j⟩|⟨j,h2,j⟩
    ·exact absurd h hc
    ·exact h2
    ·exact h2
   have t:=Z.SF F y κ.x hx;exact .inr ⟨h,⟨t.hx,t.nj,t.fX,t.hex⟩,Z.aKy F y hc⟩
 have hk:(S.mQ.bV H J).cw.length=kk+1:=by refine rR bQ (rR Z.hk ?_);rfl
 have nh:(κ.rU G y).wf++[aN (κ.rU G y).na]=((κ.G3 G y).at_ false J).aL.map λl=>aN l.a:=by simp only[bM];rfl
 refine rL (aP9 ..) ?_;induction p with
 |none=>exact q8 (ent w _ _ _ κ.g κ.x _ b "" t u de 0 hc (.inl rfl) g (by decide) (by induction G.b<;>decide+kernel) rfl nh (rR (dB ..) (aT [lE Y1 100,lE Y0 (10+Y1)] (lE Y0 1000) rfl Y rm)) (aT [lE Y1 100,lE Y0 (10+Y1)] (lE Y0 900) rfl Y hd) hk (bu [lE Y0 100] (lE (Y0+1) 900) rfl Y) hb fq) ok hL hn hU aZ (EW ..) b6 f7 (λz=>⟨rfl,rfl,rfl,rfl,EW ..⟩) (λz=>rfl)|some x=>exact d8 (hp x rfl) λhx H=>q8 (ent w _ _ _ κ.g κ.x _ b x t u de 1 hc (.inr rfl) g hx H rfl nh (rR (dB ..) (aT [lE Y1 100,lE Y0 (10+Y1)] (lE Y0 1000) rfl Y rm)) (aT [lE Y1 100,lE Y0 (10+Y1)] (lE Y0 900) rfl Y hd) hk (bu [lE Y0 100] (lE (Y0+1) 900) rfl Y) hb fq) ok hL hn hU aZ (EW ..) b6 f7 (λz=>⟨rfl,rfl,rfl,rfl,EW ..⟩) (λz=>rfl)
structure mR where
 d:Int
 r:UInt64
 g:UInt64
 b:UInt64
 F:List Nat
 Dv:DS
 f:Nat
 h:UInt64
 lg:UInt64
 pu:UInt64
 m:UInt64
 ki:Int
 I1:SI
 I2:SI
 I3:SI
 J:Str
 J1:SI
 J2:SI
 J3:SI
 l:List (Nat×ab)
 l1:List (Nat×ab)
 l2:List (Nat×ab)
 W:List Nat
noncomputable abbrev mR.at_(V:mR):AT:=⟨0,0,⟨V.F.toArray⟩,V.J,V.J1.s,V.J2.s,V.J3.s,0,0,0,0,0,0,0,0,0,0⟩
structure mR.Ok(w:aj)(V:mR)(κ:az):Prop where
 rel:fb V.l1 V.l V.F
 hz:V.l.length<=1000
 hF:V.F.length<=30
 hf:V.f=1\/V.f=2
 aQc:∀aa:aw,aK w aa->aa.NoLimit->∀(T:TF)(X:LX)(t2 t3 t4:ab)(e2:Nat)(N2:Int),N2=X.n+(aL V.l1 - aL V.l2)->Any True w aa 10 (qU T.L) (iq T X w (uA V.r V.g V.b t2 t3 t4) 0 V.l1 [] e2) (ir T X w V.Dv V.W V.l2 N2 V.f e2)
 hl:∀aa:aw,aK w aa->aa.NoLimit->JF True w aa V.Dv.r V.Dv.g V.Dv.b V.h V.lg V.pu V.m V.ki κ.x κ.g
 co:JE V.I1 V.I2 V.I3 V.Dv V.J
 j1:V.J1.Ok V.pu 1024
 j2:V.J2.Ok V.lg 4194304
 j3:V.J3.Ok V.h 64
 cl:V.J.length<=30
 sl:V.J1.s.length<=30
 ll:V.J2.s.length<=30
 Hs:V.J3.s.length<=30
def az.p(κ:az)(n:Nat):Obj:=match κ.f with
 |none=>iC n|some p=>iC (p.1+5)
variable {p:PR}
noncomputable def az.q(κ:az)(y:Nat->Nat):Nat×Nat:=match κ.f with
 |none=>(y 6,y 7)|some p=>p
theorem az.aQd(κ:az)(y:Nat->Nat):κ.o' y=iC ((κ.q y).1+5):=by rcases κ with ⟨_|p,c,x⟩<;>rfl
theorem az.p_q(κ:az)(y:Nat->Nat):κ.p ((κ.q y).1+5)=iC ((κ.q y).1+5):=by rcases κ with ⟨_|p,c,x⟩<;>rfl
open Classical in
theorem aQe(A a e B C c N H L lx:List α)(h:(H=L++e/\lx=[])\/(H=e/\lx=L)):cH (((A++a)++((e++B)++((C++c)++N)))++L) ((c++(H++a))++((A++(B++(C++N)))++lx)):=by rw[jg];intro x;rcases h with ⟨rfl,rfl⟩|⟨rfl,rfl⟩<;>simp only[ig,List.count_nil,aX6]<;>ac_rfl
theorem aQf(κ:az)(G:TG)(y:Nat->Nat):((κ.G2 G y).ro++uq (κ.q y)).Perm (wH κ G y++(G.ro++κ.lx)):=by
 have h:=aQe (G.cU.map λl=>(l.a,listOf l.items.toArray l.ep)) [(G.ds+1+y 11,listOf (κ.aX y).toArray (0+κ.lP))] ((κ.es y).map λe=>(e.t,fB e)) (G.ents.map λe=>(e.t,fB e)) (G.aL.map λl=>(l.a,listOf l.items.toArray l.ep)) [(y 2,listOf ([]:List ag).toArray 0)] (G.ni.map λe=>(e.t,fB e)) (κ.ex y) (uq (κ.q y)) κ.lx (by
  rcases κ with ⟨_|p,_|_|_|c,x⟩<;>first|exact .inl ⟨rfl,rfl⟩|exact .inr ⟨rfl,rfl⟩);have e:(κ.G2 G y).ro=((G.cU.map λl=>(l.a,listOf l.items.toArray l.ep))++[(G.ds+1+y 11,listOf (κ.aX y).toArray (0+κ.lP))])++((((κ.es y).map λe=>(e.t,fB e))++G.ents.map λe=>(e.t,fB e))++(((G.aL.map λl=>(l.a,listOf l.items.toArray l.ep))++[(y 2,listOf ([]:List ag).toArray 0)])++G.ni.map λe=>(e.t,fB e))):=by
  show _++_=_;simp only[bM,bM,bM];rfl
 exact rR e h
open Classical in
theorem aQg(A:List α)(a:α)(R:List α):(a::(A++R)).Perm ((A++[a])++R):=by simp only[bH];exact lj.symm
theorem aQh(κ:az)(G:TG)(y:Nat->Nat):((G.ds+1+y 11,listOf (κ.aX y).toArray (0+κ.lP))::(κ.G3 G y).ro).Perm (κ.G2 G y).ro:=by
 have e:(κ.G2 G y).ro=((G.cU.map λl=>(l.a,listOf l.items.toArray l.ep))++[(G.ds+1+y 11,listOf (κ.aX y).toArray (0+κ.lP))])++(((κ.es y++G.ents).map λe=>(e.t,fB e))++(((G.aL++([⟨y 2,0,[]⟩]:List LS)).map λl=>(l.a,listOf l.items.toArray l.ep))++G.ni.map λe=>(e.t,fB e))):=by show _++_=_;refine rR bM ?_;rfl
 simp only[e];exact aQg ..
theorem U6(κ:az)(w:aj)(o:ar)(G:TG)(S:SX)(y H:Nat->Nat)(J:List Str)(Z:List ag)(Y:Nat):mK w o ((κ.G2 G y).bV false H) (S.mQ.bV J H) Z Y=[(123,o),(G.tg,dX 150 G.td),(G.td,fp w (.ref S.wm) G.b true false G.dl G.ds G.ns G.pm G.ps G.ti G.ep G.kt),(G.ds,aA ((G.cU.map λl=>aN l.a)++[aN (G.ds+1+y 11)]) (H 5)),(G.ns,aA ((G.aL.map λl=>aN l.a)++[aN (y 2)]) (H 6)),(G.dl,aA Z Y),(S.wm,fY S.wl),(S.wl,aA (S.wv++bn J H) (H 8)),(G.ps,aA (S.cw++[dY false]++[dY false]) (H 9))]:=by show [_,_,_,_,_,_,_,_,_]=_;simp only[bM,bM];rfl
def mR.outs(V:mR)(κ:az)(b:Bool)(p p2:Option Str)(H:List Str):List Str:=i7 b p++κ.ws V.at_++H++(i7 b p2++["</"++oU κ.g κ.x++">"])
theorem aQi(κ:az)(a v:AT)(e:nu a=nu v):κ.ws a=κ.ws v:=by unfold az.ws wa;rw[e]
theorem U7{N m:Nat}(hN:n+1<=N)(jq:14<=N)(V:mR)(κ:az)(hV:V.Ok w κ)(G:TG)(H:Bool)(S:SX)(X:LX)(p p2:Option Str)(u t1 t2 t3 t4:ab)(de e2:Nat)(xs:List Nat)(l':List (Nat×ab))(W':List Nat)(o2:List Str)(bb:Bool)(SK:fQ G S xs kk)(jC:kk<=90)(F:κ.Fits xs)(hp:o8 G.b p)(fX:o8 G.b p2)(KW:p≠none->H=true)(hz:S.wv.length+(V.outs κ G.b p p2 o2).length<=880)(hb:((((kk+1:Nat):Int)==1)=bb))(KR:rE w n (κ.xs xs) (kk+1) G.b V.d V.Dv.r V.Dv.g V.Dv.b l' W' p2 m (some ⟨V.F.toArray⟩) V.l2 V.W o2):nW w (Eg X (G.run H) V.d V.r V.g V.b t1 t2 t3 t4) N (gv w κ.o (G.run H) S (jz p u) de X V.l [] e2++(G.ro++κ.lx)) (λy=>⟨.ok (.ret .none),gv w (κ.p (y 23)) (G.bV bb y) (S.bV (V.outs κ G.b p p2 o2) y) [] (y 7) (X.bV (X.n+(aL V.l - aL l')) y) l' [.str ⟨W'.toArray⟩ (y 22)] (y 10)++(G.ro++κ.lx),[],y 0,y 1⟩):=by
 refine xZ (q:=KT) (nms:=nI.names) (xc:=nI.isGenerator) (xd:=nI.isCoroutine) (xe:=nI.more) (λ_=>[]) (U2 w) rfl rfl (body:=iy) (by kernel_rfl) (by kernel_rfl) (KU X (G.run H) V.d V.r V.g V.b t1 t2 t3 t4) [] (aP5 w κ.o (G.run H) S (jz p u) de X V.l e2 V.d V.r V.g V.b t1 t2 t3 t4) (λL tk=>[(L,(KV L tk X (G.run H) V.d t1).f0 w (uA V.r V.g V.b t2 t3 t4))]) 1 6 (dN 12 0x84210842108421) _ (by decide) (aP6 w κ.o (G.run H) S (jz p u) de X V.l e2 V.d V.r V.g V.b t1 t2 t3 t4) (postA:=λy=>gv w (κ.p (y 23)) (G.bV bb y) (S.bV (V.outs κ G.b p p2 o2) y) [] (y 7) (X.bV (X.n+(aL V.l - aL l')) y) l' [.str ⟨W'.toArray⟩ (y 22)] (y 10)) (λ_=>rfl) (λ_=>rfl) ?_;intro k tk s ak Q' E aq ok hL bz jw aZ b6 f7 SR gH jU dq;rw[<-aP3,aKs];have X1:aK w aq:=λb o e=>aZ _ _ (ok.X b o e);have aU:aq.NoLimit:=ok.T.nolimit.keeps aZ;let T0:=KV k.L tk X (G.run H) V.d t1;have S1:ax True aq ak ((X.cD w V.l [] e2++[(k.L,T0.f0 w (uA V.r V.g V.b t2 t3 t4))])++mK w κ.o (G.run H) S (jz p u) de) s:=lO SR (ix:=[9,10,11,12,13,14,15,16,17,18,0,1,2,3,4,5,6,7,8]) (by decide) rfl;refine da ?_;refine fO (fr:=none) S1 X1 aU rfl 12 900 Sl [0,1,2,3,4,5,6,7,8,9] (JB w T0 X (uA V.r V.g V.b t2 t3 t4) V.Dv V.l V.l1 V.l2 V.W V.F (X.n+(aL V.l - aL V.l1)) (X.n+(aL V.l - aL V.l1)+(aL V.l1 - aL V.l2)) V.f e2) (λaP _ X2 N2 _=>aKw X2 N2 hV.rel hV.hz (aE hV.hF (by decide)) rfl rfl λT X e=>hV.aQc aP X2 N2 T X t2 t3 t4 e2 _ e) (by show k.dp+12<=_;exact b8 [lE 14 Y2,lL (Y0+Y2) (Y1+1)] (lE (Y0+12) Y1) rfl jq bz) (by decide) (λ_=> .next) _ _ _ (λσ=>aKk w T0 X (uA V.r V.g V.b t2 t3 t4) V.Dv V.l V.l1 V.l2 V.W V.F _ _ V.f hV.hf e2 _ _ σ) λσ s1 S2 _ _ xJ=>?_;let Y:=T0.rB V.F (σ 0);let D1:=V.Dv.ext V.W (σ 1);let X2:LX:={ X with n:=X.n+(aL V.l - aL V.l1)+(aL V.l1 - aL V.l2),tn:=σ 1 3,e1:=σ 1 4 }
 have S3:ax True aq ak ([(Y.L,Y.aJ w D1 V.f)]++(X2.cD w V.l2 [.str ⟨V.W.toArray⟩ (σ 1 22)] (e2+1)++mK w κ.o (G.run H) S (jz p u) de)) s1:=lO S2 (ix:=[9,0,1,2,3,4,5,6,7,8,10,11,12,13,14,15,16,17,18]) (by decide) rfl;refine da ?_;refine fO (fr:=none) S3 X1 aU rfl 8 900 (U3 κ.g) [4] (Ae D1 V.h V.lg V.pu V.m V.ki κ.x κ.g) (λaP _ X2 N2 _=>aKu (hV.hl aP X2 N2)) (by show k.dp+8<=_;exact b8 [lE 14 Y2,lL (Y0+Y2) (Y1+1)] (lE (Y0+8) Y1) rfl jq bz) (by decide) (λ_=> .next) (λσ=>[(Y.L,Y.oB w D1 (xL V.h V.lg V.pu κ.x κ.g σ) V.f 0)]) _ _ (λσ=>aP7 w Y D1 V.h V.lg V.pu V.m V.ki κ.x κ.g κ.g2 _ _ σ V.f hV.hf) λhM s2 S4 _ _ Jp=>?_;let H0:=xL V.h V.lg V.pu κ.x κ.g hM;refine da ?_;refine fO (fr:=none) S4 X1 aU rfl 8 900 (Pa (w.params.followText "comprehension-iter-twice")) [6] (HZ D1 V.I1 V.I2 V.I3 V.J s2.heap.objs.size s2.toks) (λaP _ X2 N2 _=>aKv (D:=D1) ⟨hV.co.u,hV.co.v,hV.co.w,hV.co.j,hV.co.tl,hV.co.jl⟩) (by show k.dp+8<=_;exact b8 [lE 14 Y2,lL (Y0+Y2) (Y1+1)] (lE (Y0+8) Y1) rfl jq bz) (by decide) (λ_=> .next) (λσ=>[(Y.L,Y.oB w D1 { H0 with col:=V.J,tc:=σ 9 2,kc:=σ 9 1 } V.f 1)]) _ _ (λσ=>aEt w Y D1 H0 V.I1 V.I2 V.I3 V.J _ _ σ V.f hV.hf) λzo s3 S5 _ _ JW=>?_;let H1:HS:={ H0 with col:=V.J,tc:=zo 9 2,kc:=zo 9 1 }
 have U8:H1.tag=κ.tag:=aP8 κ V.h V.lg V.pu hM;have S6:ax True aq ak ((mK w κ.o (G.run H) S (jz p u) de++[(Y.L,Y.oB w D1 H1 V.f 1)])++X2.cD w V.l2 [.str ⟨V.W.toArray⟩ (σ 1 22)] (e2+1)) s3:=lO S5 (ix:=[10,11,12,13,14,15,16,17,18,0,1,2,3,4,5,6,7,8,9]) (by decide) rfl;have ku:S.wv.length<=890:=by exact aT [lE (Y0+Y1) 880] (lE Y0 890) rfl hz
 have fN:1< s3.heap.objs.size:=iI (by decide:1<=262) (dJ (S6.h.keep _ _ (X1 _ _ (U2 w))));refine da ?_;refine du (fr:=some Y.L) S6 X1 aU rfl 12 900 Sn (JC w Y H1 (G.run H) S κ.o (jz p u) de V.J1 V.J2 V.J3 s3.heap.objs.size s3.toks (λa y=>Bm κ w (G.run H) S (i7 G.b p) a y)) (λaP sub KY N2 _=>?_) (by show k.dp+12<=_;exact b8 [lE 14 Y2,lL (Y0+Y2) (Y1+1)] (lE (Y0+12) Y1) rfl jq bz) (λ_=> .next) _ _ _ (λσ=>aKl w Y X2 D1 H1 (G.run H) S κ.o V.f hV.hf (jz p u) de V.J1 V.J2 V.J3 _ _ _ σ) λyq s4 S7 _ _ lv4=>?_
 ·unfold JC;refine yo hV.j1 λa _=>yo hV.j2 λb _=>yo hV.j3 λc _=>⟨rfl,by decide,?_,λ_ _ _=>True.intro⟩;show Told True (av w) k.bE k.bE.units (some k.L) aP (.call (.ref 120) (yj (G.run H) _ H1.tag H1.tt)) _ _;rw[U8];exact aQa ok hL (by exact b8 [lE 14 Y2,lL (Y0+Y2) (Y1+1)] (lL (Y0+10) Y1) rfl jq bz) (by show k.un+400< dQ;exact cA [lE 14 Y2,lL (Y0+(.m 40 Y2)) (Y1+3)] (lL (Y0+400) Y1) [40,1] 1 rfl jq jw) (λb o e=>sub.st _ _ (aZ b o e)) κ G H S (oV Y H1 V.J1 V.J2 V.J3 s3.heap.objs.size s3.toks a b c) H1.tt u p de (λp hp=>⟨sub.st _ _ (b6 p hp).1,(b6 p hp).2⟩) f7 SK (by exact bu [lE Y0 90] (lE Y0 100) rfl jC) F ⟨(by show(s3.heap.objs.size==1)=false;exact beq_false_of_ne (by exact jd (bu [lL 1 Y0] (lL 1 Y0) rfl fN))),hV.hF,hV.cl,hV.sl,hV.ll,hV.Hs⟩ ku hp KW
 let H:AT:=oV Y H1 V.J1 V.J2 V.J3 s3.heap.objs.size s3.toks (yq 2) (yq 5) (yq 8);let y:Nat->Nat:=yq 9;have ews:κ.ws H=κ.ws V.at_:=aQi κ H V.at_ rfl;let Z:=i7 G.b p++κ.ws V.at_;let yy:Nat->Nat:=wq (λi=>match i with|3=>σ 1 3|4=>σ 1 4|5=>G.dep+1|6=>G.ej+1|7=>y 13+1|8=>y 14|9=>S.dD+1|10=>e2+1|22=>σ 1 22|_=>0) y;have S8:ax True aq ak (wH κ G y++(([(123,κ.o' y),(G.tg,dX 150 G.td),(G.td,fp w (.ref S.wm) G.b true false G.dl G.ds G.ns G.pm G.ps G.ti G.ep G.kt),(G.ds,listOf ((G.cU.map λl=>aN l.a)++[aN (G.ds+1+y 11)]).toArray (G.dep+1)),(G.ns,listOf ((G.aL.map λl=>aN l.a)++[aN (y 2)]).toArray (G.ej+1)),(G.dl,listOf ([]:List ag).toArray (y 13)),(S.wm,fY S.wl),(S.wl,listOf (S.wv++bn (i7 G.b p++κ.ws H) y).toArray (y 14)),(G.ps,listOf (S.cw++[dY false]++[dY false]).toArray (S.dD+1))]++X2.cD w V.l2 [.str ⟨V.W.toArray⟩ (σ 1 22)] (e2+1))++jy w Y G X2 D1 H1 V.f)) s4:=by rw[bH]at S7;exact AQ S7 (ix:=[1,2,3,4,5,6,7,8,9,11,12,13,14,15,16,17,18,19,10]) (by decide) rfl
 rw[ews,κ.aQd y]at S8;refine cJ (kG (bj S8 jM)) λS9 vh KZ=>?_;generalize hh:g6 s4.heap _=aP at S9 vh KZ;have EY:∀b o,k.aa.get? b=some o->aP.get? b=some o:=λb o e=>KZ _ _ (aZ b o e);have KY:aK w aP:=λb o e=>EY _ _ (ok.X b o e);have tG:aP.NoLimit:=ok.T.nolimit.keeps EY;have AR:=S8.h.nd;rw[bM,fj]at AR;have U9:∀p∈wH κ G y,aq.get? p.1=none:=λp hp=>S8.h.off p (bL _ hp);have aQj:∀p∈wH κ G y++(G.ro++κ.lx),aP.get? p.1=some p.2/\p.1≠k.L/\k.aa.get? p.1=none:=λp hp=>by
  rcases cr.mp hp with hp|hp
  ·refine⟨vh p hp,λe=>?_,?_⟩;·exact AR.2.2 p.1 (b7 hp) k.L (by rw[bM];exact bD _ ay) e
   ·cases z:k.aa.get? p.1 with
    |none=>rfl|some o=>have:=U9 p hp;rw[aZ _ _ z]at this;cases this
  ·exact⟨KZ _ _ (b6 p hp).1,(b6 p hp).2⟩
 have aQk:((wH κ G y++(G.ro++κ.lx)).map (·.1)).Nodup:=by rw[bM,fj];refine⟨AR.1,f7,λa ha b hb e=>?_⟩;obtain⟨p,hp,rfl⟩:=bq.mp ha;obtain⟨q,hq,rfl⟩:=bq.mp hb;have:=U9 p hp;rw[e,(b6 q hq).1]at this;cases this
 have H:=aQf κ G y;have nD:∀p∈(κ.G2 G y).ro++uq (κ.q y),aP.get? p.1=some p.2/\p.1≠k.L/\k.aa.get? p.1=none:=λp hp=>aQj p (H.mem_iff.mp hp);have Va:(((κ.G2 G y).ro++uq (κ.q y)).map (·.1)).Nodup:=((H.map (·.1)).nodup_iff).mpr aQk;have ep:=aQh κ G y;have Vb:∀p∈(G.ds+1+y 11,listOf (κ.aX y).toArray (0+κ.lP))::(κ.G3 G y).ro,aP.get? p.1=some p.2/\p.1≠k.L/\k.aa.get? p.1=none:=λp hp=>nD p (bL _ (ep.mem_iff.mp hp));have aQl:(((G.ds+1+y 11,listOf (κ.aX y).toArray (0+κ.lP))::(κ.G3 G y).ro).map (·.1)).Nodup:=by rw[(ep.map (·.1)).nodup_iff];have:=Va;rw[bM,fj]at this;exact this.1
 have H:ax True aP ak ((wi { G.run true with wr:= .ref S.wm } w [] (y 13)++jy w Y G X2 D1 H1 V.f)++([(123,iC ((κ.q y).1+5)),(G.ds,listOf ((G.cU.map λl=>aN l.a)++[aN (G.ds+1+y 11)]).toArray (G.dep+1)),(G.ns,listOf ((G.aL.map λl=>aN l.a)++[aN (y 2)]).toArray (G.ej+1)),(S.wm,fY S.wl),(S.wl,listOf (S.wv++bn Z y).toArray (y 14)),(G.ps,listOf (S.cw++[dY false]++[dY false]).toArray (S.dD+1))]++X2.cD w V.l2 [.str ⟨V.W.toArray⟩ (σ 1 22)] (e2+1))) s4:=lO S9 (ix:=[1,2,5,18,0,3,4,6,7,8,9,10,11,12,13,14,15,16,17]) (by decide) rfl;refine da ?_;refine fO (fr:=none) H KY tG rfl 2 500 Sv (fI 4) (Su w Y (G.run true) S [] (y 13)) (λVc _ X3 N3 _=>⟨rfl,by decide,aKi X3 N3 _ [] _ _ _ (f4 _),λ_ _ _=>True.intro⟩) (by show k.dp+2<=_;exact b8 [lE 14 Y2,lL (Y0+Y2) (Y1+1)] (lE (Y0+2) Y1) rfl jq bz) uW (λ_=> .next) _ _ _ (λσ=>aKp w Y (G.run true) S [] (y 13) X2 D1 H1 V.f hV.hf _ _ σ) λH s5 H _ _ lv5=>?_;have eN:X.n+(aL V.l - aL V.l1)+(aL V.l1 - aL V.l2)=X.n+(aL V.l - aL V.l2):=by exact bw (Cc [] (lE (Y0+(Y1-Y2)+(Y2-Y3)) (Y0+(Y1-Y3))) rfl) (Cc [] (lE (Y0+(Y1-Y2)) (Y0+(Y1-Y3)+(Y3-Y2))) rfl)
 have ew:bn Z yy=bn Z y:=Es _ _ _;have S12:ax True aP ak (Er w (κ.q y) Y (κ.G2 G y) S.mQ X D1 H1 V.f V.l Y.tn (some ⟨V.F.toArray⟩) V.l2 V.W Z yy D1.ky D1.ty) s5:=by show ax True aP ak ((mK w (iC ((κ.q y).1+5)) ((κ.G2 G y).bV false yy) (S.mQ.bV Z yy) (jz (some ⟨V.F.toArray⟩) Y.tn) (yy 7)++(X.bV (X.n+(aL V.l - aL V.l2)) yy).cD w V.l2 [.str ⟨V.W.toArray⟩ (yy 22)] (yy 10))++jy w Y G X D1 H1 V.f) s5;rw[U6,ew,<-eN];exact lO H (ix:=[4,0,1,5,6,2,7,8,9,10,11,12,13,14,15,16,17,18,3]) (by decide) rfl
 have SK2:fQ (κ.G2 G y) S.mQ (κ.xs xs) (kk+1):=have H:=SK.push (by exact bu [lE Y0 90] (lE Y0 100) rfl jC) F y [] V.at_;⟨H.ok,H.tag,H.us,H.ps,H.hk,H.hd,H.hn,H.hl⟩;have hlen:S.wv.length+(Z++o2).length<=880:=by unfold mR.outs at hz;rw[bQ]at hz;show _+(i7 G.b p++κ.ws V.at_++o2).length<=880;exact b8 [lE (Y0+(Y1+Y2)) 880] (lE (Y0+Y1) 880) rfl hz
 refine da ?_;refine mW (wpAny_While (aLw ok hL (by exact qN [lE (Y1+1) Y3,lL (Y0+Y3) (Y2+1)] (lL (Y0+Y1) Y2) rfl hN bz) (by exact b8 [lE 14 Y2,lL (Y0+Y2) (Y1+1)] (lE (Y0+2) Y1) rfl jq bz) (by exact lr [lE (Y1+1) Y3,lL (Y0+(Ax.m 40 Y3)) (Y2+3)] (lL (Y0+(Ax.m 40 Y1)) Y2) [40,1] 1 rfl hN jw) EY rfl hV.hf nD Va SK2 hlen KR S12 λJ s6 H lv6=>?_));refine qC ?_;have S14:ax True aP ak ((AX w ((κ.G3 G y).at_ false J) (S.mQ.bV (Z++o2) J) (κ.rU G y) (jz p2 Y.tn) (J 7)++jy w Y G X { D1 with ky:=W',ty:=J 2 } H1 V.f)++((123,iC ((κ.q y).1+5))::(X.bV (X.n+(aL V.l - aL l')) J).cD w l' [.str ⟨W'.toArray⟩ (J 22)] (J 10))) s6:=by have Vd:ax True aP ak ((mK w (iC ((κ.q y).1+5)) ((κ.G2 G y).bV false J) (S.mQ.bV (Z++o2) J) (jz p2 Y.tn) (J 7)++(X.bV (X.n+(aL V.l - aL l')) J).cD w l' [.str ⟨W'.toArray⟩ (J 22)] (J 10))++jy w Y G X { D1 with ky:=W',ty:=J 2 } H1 V.f) s6:=H;rw[U6]at Vd;exact lO Vd (ix:=[1,2,3,4,5,8,6,7,18,0,9,10,11,12,13,14,15,16,17]) (by decide) rfl
 refine du (fr:=some Y.L) S14 KY tG rfl 2 500 Sw (JD w ((κ.G3 G y).at_ false J) (S.mQ.bV (Z++o2) J) (κ.rU G y) H1 (jz p2 Y.tn) (J 7) (U5 κ w G S bb (i7 G.b p2) (Z++o2) y J)) (λVc sub X3 N3 _=>?_) (by show k.dp+2<=_;exact b8 [lE 14 Y2,lL (Y0+Y2) (Y1+1)] (lE (Y0+2) Y1) rfl jq bz) (λ_=> .next) _ _ _ (λσ=>aKq w Y ((κ.G3 G y).at_ false J) (S.mQ.bV (Z++o2) J) (jz p2 Y.tn) (J 7) X { D1 with ky:=W',ty:=J 2 } H1 V.f hV.hf (κ.rU G y) _ _ _ σ) λSP s7 S15 hz7 ht7 Jq=>?_
 ·unfold JD;refine⟨rfl,uW,?_,λ_ _ _=>True.intro⟩;show Told True (av w) k.bE k.bE.units (some k.L) Vc (gG 133 [.ref G.tg, .str H1.tag H1.tt]) _ _;rw[U8];exact aQb ok hL (by exact b8 [lE 14 Y2,lL (Y0+Y2) (Y1+1)] (lL (Y0+9) Y1) rfl jq bz) (by show k.un+360< dQ;exact cA [lE 14 Y2,lL (Y0+(.m 40 Y2)) (Y1+3)] (lL (Y0+360) Y1) [40,1] 1 rfl jq jw) (λb o e=>sub.st _ _ (EY b o e)) κ G S H1.tt Y.tn p2 (J 7) (Z++o2) y J (λp hp=>⟨sub.st _ _ (Vb p hp).1,(Vb p hp).2⟩) aQl SK (by exact bu [lE Y0 90] (lE Y0 100) rfl jC) F (by rw[bQ,yk];exact aT [lE (Y0+Y1) 880] (lE (Y0+Y1) 890) rfl hlen) fX bb hb
 let z:Nat->Nat:=SP 0;let H:Nat->Nat:=mI (Z++o2).length (λi=>match i with|0=>z 0|1=>z 1|3=>J 3|4=>J 4|5=>J 5+1|6=>J 6+1|7=>z 13|8=>z 14|9=>J 9+1|10=>J 10|22=>J 22|23=>(κ.q y).1+5|_=>0) J z;have Y:S.wv++bn (Z++o2) J++bn (i7 G.b p2++["</"++oU κ.g κ.x++">"]) z=S.wv++bn (V.outs κ G.b p p2 o2) H:=by show _=S.wv++bn ((Z++o2)++(i7 G.b p2++["</"++oU κ.g κ.x++">"])) H;rw[ue,bH]
 refine dq H .next s7 rfl hz7 ht7 ?_ (((((xJ.trans Jp).trans JW).trans lv4).trans lv5).trans (lv6.trans Jq));show ax True aq ak (gv w (κ.p ((κ.q y).1+5)) (G.bV bb H) { S with wv:=S.wv++bn (V.outs κ G.b p p2 o2) H,we:=z 14,dD:=J 9+1 } [] (z 13) (X.bV (X.n+(aL V.l - aL l')) J) l' [.str ⟨W'.toArray⟩ (J 22)] (J 10)) s7;rw[κ.p_q,<-Y];have H:=q6 (bj S8 jM) (hh▸S15);exact qb (ro:=wH κ G y) (bj (bj (AQ (bj H jM) (ix:=[9,0,1,2,3,4,6,7,5,10,11,12,13,14,15,16,17,18]) (by decide) rfl) jM) (.refl _))
theorem aQm{N m:Nat}(hN:n+1<=N)(jq:14<=N)(V:mR)(c x:Nat)(hV:∀f,V.Ok w ⟨f,c,x⟩){b:Bool}{p p2:Option Str}{l':List (Nat×ab)}{J:List Nat}{H:List Str}(h1:1<=kk)(jC:kk<=90)(F:∀q,az.Fits ⟨some q,c,x⟩ xs)(hp:o8 b p)(fX:o8 b p2)(KR:rE w n (az.xs ⟨none,c,x⟩ xs) (kk+1) b V.d V.Dv.r V.Dv.g V.Dv.b l' J p2 m (some ⟨V.F.toArray⟩) V.l2 V.W H):JV w N xs kk b p V.d V.r V.g V.b V.l (V.outs ⟨none,c,x⟩ b p p2 H) l' J:=by intro G S X q de e2 u t1 t2 Y Z SK hb hz;subst hb;exact U7 hN jq V ⟨some q,c,x⟩ (hV _) G true S X p p2 u t1 t2 Y Z de e2 xs l' J H false SK jC (F q) hp fX (λz=>rfl) hz (beq_false_of_ne (nM (iB [(kk:Nat)] [lE 1 Y0] (lL 1 (Y0+1)) rfl (bK.mpr h1)))) KR
def K0:PySem.Expr:=pE cN[12]? 0
def aQn:Pos:=(oS cN[12]?).pos
def Bn:PySem.Expr:=xE K0 0
def Ve:PySem.Expr:=xE K0 1
def aQo:Pos:=nc (K0.pos)
def Vf(x:cY):PySem.Expr:=xE x 0
def Vg(x:cY):PySem.Expr:=xE x 1
def cmP(x:cY):Pos:=nc (x.pos)
theorem aQp:cN.drop 12=[.Return (some (.BoolOp .And [.Compare (Vf Bn) [.Eq] [Vg Bn] (cmP Bn),Ve] aQo)) aQn]:=by kernel_rfl
theorem aQq:cN=cN.take 2++((cN.drop 2).take 3++((cN.drop 5).take 1++((cN.drop 6).take 1++((cN.drop 7).take 1++((cN.drop 8).take 1++((cN.drop 9).take 1++((cN.drop 10).take 1++((cN.drop 11).take 1++cN.drop 12)))))))):=by kernel_rfl
section
variable (w:aj)(L:af)(V:LV)(k:Nat->ab)(sz tk de e e2:Nat)(σ:Xs)(X:LX)(l l':List (Nat×ab))(W':List Nat)(N:Int)(G:TG)(SS:SX)(o:ar)(o2:(Nat->Nat)->ar)(outs:List Str)(bb:Bool)(nc:Int)
abbrev Vh(y:Nat->Nat):List (af×ar):=gv w (o2 y) (G.bV bb y) (SS.bV outs y) [] (y 7) (X.bV N y) l' [.str ⟨W'.toArray⟩ (y 22)] (y 10)
theorem aQr:bA ((aI w 9 0 (some L) 600).S [] σ ⟨gv w o G SS [] de X l [] e2++[(L+1,ca (some (.ref X.lx))),(L,LV.aJ { V with tg:=G.tg } w k 7)],sz,tk,[0,19,20,0,2], .cons none (Eg X G 0 0x3FF0000000000000 0 0 tk (tk+1) (tk+2) (tk+3)) (fI 18) (gv w o G SS [] de X l [] e2) (λy=>⟨.ok (.ret .none),Vh w X l' W' N G SS o2 outs bb y,[],y 0,y 1⟩) λ_=> .nil⟩ (aV ((cN.drop 8).take 1) (fh L)) fin) (.ok .next,Vh w X l' W' N G SS o2 outs bb (σ 0)++[(L+1,ca (some (.ref X.lx))),(L,LV.aJ { V with tg:=G.tg } w k 7)],σ 0 0,σ 0 1):=by kernel_rfl
theorem aQs:bA ((aI w 0 0 none 300).S [] σ ⟨[(L,V.aJ w k 8)],sz,tk,[1], .nil⟩ (fy (Vf Bn) (fh L)) fin) (.ok (.ref V.E),[(L,V.aJ w k 8)],sz,tk):=by kernel_rfl
theorem aQt:bA ((aI w 0 0 none 300).S [] σ ⟨[],sz,tk,[], .nil⟩ (fy (Vg Bn) (fh L)) fin) (.ok (.ref sz),[(sz,listOf [ag.str dF tk, .str "h" (tk+1), .str dF (tk+2)].toArray 0)],sz+1,tk+3):=by kernel_rfl
theorem aQu:bA ((aI w 5 0 none 300).S [] σ ⟨X.cD w l [] e2++[(L+1,ca (some (.ref X.lx))),(L,V.aJ w k 8)],sz,tk,(dN 20 0x17c0012c4008400004000002a),cM "str.count" [.str V.T V.t, .str "\n" (tk+2)] (λt=> .int nc t) λa=>iS "int.__eq__" X.n (1+nc) true X.tn (a 1) λ_=> .nil⟩ (fy Ve (fh L)) fin) (.ok (.bool true),X.cD w l [] e2++[(L+1,ca (some (.ref X.lx))),(L,V.aJ w k 8)],σ 1 0,σ 1 1):=by kernel_rfl
end
section
variable {t:cb α}{Q:α->am->Prop}{a:List (af×ar)}
theorem aQv(J:ax True aq ak (a++ro) s)(hS:aq.get? S=some so)(X1:aK w aq)(NL:aq.NoLimit)(hK:∀o,(K w.params).lookup S≠some o)(hC:cStatics≠S)(hA:A.handled=none)(dep n:Nat)(ev Z:List Nat)(os:aF)(gq:∀aP,aK w aP->aP.NoLimit->(∀b o,aq.get? b=some o->b≠S->aP.get? b=some o)->(∀p∈ro,aP.get? p.1=some p.2)->os.Ok True (av w) A A.units fr aP (((S,so)::a).map (·.1)))(hd:A.depth+dep<=bk)(nd:Z.Nodup)(res:Xs->α)(ents:Xs->List (af×ar))(b:Xs->List (af×ar))(sz tk:Xs->Nat)(e:∀H,Ends Z ((aI w dep 0 fr n).S [] H ⟨(S,so)::a,s.heap.objs.size,s.toks,ev,os⟩ t fin) (.ok (res H),(ents H).map some,sz H,tk H))(hp:∀H,(ents H).Perm ((S,so)::b H))(h:∀H s',ax True aq ak (b H++ro) s'->s'.heap.objs.size=sz H->s'.toks=tk H->Q (res H) s'):aG (av w) A t Q E s:=by
 have low:=J.h.nd;rw[bM,fj]at low;refine cJ low λnda ndr ndx=>?_;have Vi:∀p∈a++ro,p.1≠S:=λp hp q=>by have:=J.h.off p hp;rw[q,hS]at this;injection this
 have SA:ax True _ ak ((S,so)::a) s:=⟨⟨λp hp=>by
   rcases a9.mp hp with rfl|hp
   ·exact(J.h.keep _ _ hS)
   ·exact J.h.at_ p (bL _ hp),cj.mpr ⟨(λhm=>aO (bq.mp hm) λp hp q=>Vi p (bL _ hp) q),nda⟩,λb o e=>yX _ e,λp hp=>yY _ (b7 hp)⟩,J.os,J.gens, .inl True.intro⟩
 have st:∀b o,aq.get? b=some o->b≠S->(g6 s.heap (((S,so)::a).map (·.1))).get? b=some o:=λb o e ne=>ke _ (J.h.keep _ _ e) λhm=>by
  rcases a9.mp hm with q|hm
  ·exact ne q
  ·refine aO (bq.mp hm) λp hp eq3=>?_;subst eq3;have:=J.h.off p (bL _ hp);rw[e]at this;injection this
 have b6:∀p∈ro,(g6 s.heap (((S,so)::a).map (·.1))).get? p.1=some p.2:=λp hp=>ke _ (J.h.at_ p (bD _ hp)) λhm=>by
  rcases a9.mp hm with q|hm
  ·exact Vi p (bD _ hp) q
  ·exact ndx _ hm _ (b7 hp) rfl
 generalize g6 s.heap _=aP at SA st b6;have X2:aK w aP:=λb o e=>st b o (X1 b o e) λq=>hK o (q▸e);have N2:aP.NoLimit:=by exact aO NL λmc z1 q=>mY z1 λo es ep ho r=>⟨mc,⟨o,es,ep,st _ _ ho hC,r⟩,q⟩
 refine wp_run SA X2 hA dep 0 n ev Z os (λj=>gq aP X2 N2 st b6) (λj=>⟨N2,hd⟩) (a8 _) nd res ents sz tk e λH s' S1 h1 Z j=>?_;have Y:=bj S1 (hp H);refine h H s' ?_ h1 Z;obtain⟨n1,n2⟩:=cj.mp Y.h.nd;refine⟨⟨λp hp=>?_,?_,λz o ez=>?_,λp hp=>?_⟩,Y.os,Y.gens, .inl True.intro⟩
 ·rcases cr.mp hp with hp|hp
  ·exact Y.h.at_ p (aB hp)
  ·exact Y.h.keep _ _ (b6 p hp)
 ·rw[bM,fj];refine⟨n2,ndr,λx H y hy q=>?_⟩;refine aO (bq.mp H) λp hp eq1=>?_;subst eq1;refine aO (bq.mp hy) λr hr eq2=>?_;subst eq2;have:=Y.h.off p (aB hp);simp only[q,b6 r hr]at this;injection this
 ·by_cases q:z=S
  ·rw[q,hS]at ez;obtain rfl:=dH ez;exact rR q (Y.h.at_ _ ay)
  ·exact Y.h.keep z o (st z o ez q)
 ·rcases cr.mp hp with hp|hp
  ·induction z:aq.get? p.1 with
   |none=>rfl|some o=>have:=Y.h.off p (aB hp);rw[st _ _ z λq=>n1 (bq.mpr ⟨p,hp,q⟩)]at this;injection this
  ·exact J.h.off p (bD _ hp)
end
section
theorem Vj{x y:Str}{b:Bool}(h:(x.cps.toList !=y.cps.toList)=b)(k:bJ next True w A U fr aa):(EV x y t u b next).Ok True (av w) A U fr aa lv:=dZ (λz=>eO (r:=λz=> .bool b) PySem.F.slot_str_ne PySem.F.entry_str_ne (PySem.F.args_str_ne_2 _ _) (gives_str_ne x y t u) (λs=>ic ..) λQ s k=>h▸k 0 s.toks) λe z=>k e _
theorem aQw{x y:Str}{n:Int}(h:((kb x y 0 x.length (x.length+1)).length:Int)=n)(k:bJ next True w A U fr aa):(cM "str.count" [.str x t, .str y u] (λt=> .int n t) next).Ok True (av w) A U fr aa lv:=dZ (λz=>eO PySem.F.slot_str_count PySem.F.entry_str_count (PySem.F.args_str_count_2 _ _) (gives_str_count x y t u) (λs=>ic ..) λQ s k=>h▸k _ _) λe z=>k e _
theorem Vk{r:Bool}(h:(a==b)=r)(k:bJ next True w A U fr aa):(iS "int.__eq__" a b r t u next).Ok True (av w) A U fr aa lv:=dZ (λz=>eO (r:=λz=> .bool r) PySem.F.slot_int_eq aXc (PySem.F.args_int_eq_2 _ _) (aZt a t b u) (λs=>jK ..) λQ s k=>by have:=k 0 s.toks;rw[<-h]at this;exact this) λe z=>k e _
theorem aQx(E D:af)(a b c:Str)(t1 t2 J Z u2 Y:ab)(e f:Nat):Told True (av w) A U fr aa (b2 "list.__eq__" (.ref E) (.ref D)) [(E,listOf [ag.str a t1, .str b t2, .str c J].toArray e),(D,listOf [ag.str a Z, .str b u2, .str c Y].toArray f)] (λx=>⟨.ok (.ret (.bool true)),[(E,listOf [ag.str a t1, .str b t2, .str c J].toArray e),(D,listOf [ag.str a Z, .str b u2, .str c Y].toArray f)],[],x 0,x 1⟩):=by
 intro u s ak R hu H v hR;have h1:=H.h.at_ _ ay;refine dK aX7.plain PySem.F.entry_list_eq (aX7.check _ _ _ _ _ _ _ _ ⟨_,h1,rfl⟩ (PySem.F.args_list_eq_2 _ _) ?_);refine MeetsSeq3.list_eq E D #[ag.str a t1, .str b t2, .str c J] #[ag.str a Z, .str b u2, .str c Y] e f rfl (λz=>true) (λj hj Av=>?_) _ _ _ R s ⟨h1,(H.h.at_ _ (aB ay)),(hR (λi=>bif bZ i 0 then s.heap.objs.size else s.toks) s rfl rfl rfl (λp hp=>absurd hp bi) ⟨H.h,H.os,H.gens,H.same⟩ λb o H nb=>H)⟩;have H:∀(x:Str)(t u:ab),MeetsSeq.EqGives (.str x t) (.str x u) true:=λx t u prog w A E s Q h=>My (rR (decide_eq_true rfl) h);match j,hj,Av with
 |0,_,_=>exact H a t1 Z|1,_,_=>exact H b t2 u2|2,_,_=>exact H c J Y|n+3,h,_=>exact absurd h (by simp)
end
section
variable {k:Nat->ab}
theorem aQy(X1:aK w aq)(aU:aq.NoLimit)(Z:A.handled=none)(Y:A.depth+5<=bk)(hu:A.units< dQ){l:List (Nat×ab)}{J:ab}{n:Int}(hn:((kb V.T "\n" 0 V.T.length (V.T.length+1)).length:Int)=n)(hX:X.n=1+n)(SR:ax True aq ak ((V.E,listOf [ag.str dF t1, .str "h" t2, .str dF J].toArray 3)::(X.cD w l [] e2++([(L+1,ca (some (.ref X.lx))),(L,V.aJ w k 8)]++ro))) s)(h:∀s',ax True aq ak ro s'->Q (.ret (.bool true)) s'):aG (av w) A (aV (cN.drop 12) (fh L)) Q E s:=by
 rw[aQp];refine mW (aXj (wpAny_And2 (wpAny_Compare1 ?_)));have S0:ax True aq ak ([(L,V.aJ w k 8)]++((V.E,listOf [ag.str dF t1, .str "h" t2, .str dF J].toArray 3)::(X.cD w l [] e2++((L+1,ca (some (.ref X.lx)))::ro)))) s:=by exact bj SR (lj (l₁:=_::(X.cD w l [] e2++[(L+1,ca _)])))
 refine du S0 X1 aU Z 0 300 [1] .nil (λz z z z z=>True.intro) (aT [lE (Y0+5) Y1] (lE (Y0+0) Y1) rfl Y) _ _ _ _ (λH=>aQs ..) λH s1 S1 z z z=>du (ro:=_::_::(X.cD w l [] e2++_)) S1 X1 aU Z 0 300 [] .nil (λz z z z z=>True.intro) (aT [lE (Y0+5) Y1] (lE (Y0+0) Y1) rfl Y) _ _ _ _ (λH=>aQt ..) λH s2 S2 z z z=>?_;generalize s1.heap.objs.size=D at S2;generalize s1.toks=tb at S2;show aG _ _ (richCompare .Eq _ _) ..;refine fW (au (XH hu ?_));have S3:ax True aq ak ([(D,listOf [ag.str dF tb, .str "h" _, .str dF _].toArray 0),_]++_) s2:=bj S2 ((jL ..).cons _);refine du (fr:=none) S3 X1 aU Z 2 900 [2,1,2,777,2] (.cons (some 0) _ [1,0] [(V.E,listOf [ag.str dF t1, .str "h" t2, .str dF J].toArray 3),_] _ λz=> .nil) (λaP z X2 N2 z=>⟨rfl,by decide,λA' z z=>aQx V.E D dF "h" dF t1 t2 J tb (tb+1) (tb+2) 3 0,λz z z=>True.intro⟩) (aT [lE (Y0+5) Y1] (lE (Y0+2) Y1) rfl Y) (λz=> .bool true) (λz=>[(D,listOf [ag.str dF tb, .str "h" (tb+1), .str dF (tb+2)].toArray 0),(V.E,listOf [ag.str dF t1, .str "h" t2, .str dF J].toArray 3)]) (λH=>H 0 0) (λH=>H 0 1) (λH=>by kernel_rfl) λH s3 S4 z z z=>XJ ?_;have S5:ax True aq ak ((X.cD w l [] e2++[(L+1,ca (some (.ref X.lx))),(L,V.aJ w k 8)])++(ro++[(V.E,listOf [ag.str dF t1, .str "h" t2, .str dF J].toArray 3),(D,listOf [ag.str dF tb, .str "h" (tb+1), .str dF (tb+2)].toArray 0)])) s3:=by refine bj S4 ((jL ..).trans ?_);exact(jM (l₁:=[(V.E,listOf [ag.str dF t1, .str "h" t2, .str dF J].toArray 3),_])).trans ((lj (l₁:=X.cD w l [] e2++[(L+1,ca _)])).symm)
 exact du S5 X1 aU Z 5 300 _ (cM "str.count" [.str V.T V.t, .str "\n" _] _ λa=>iS "int.__eq__" X.n _ true X.tn (a 1) λz=> .nil) (λaP z X2 N2 z=>aQw hn λz z=>Vk (hX▸beq_self_eq_true _) λz z=>True.intro) Y _ _ _ _ (λH=>aQu ..) λH H J z z z=>h H (qb (bj J ((jM).trans (by rw[bH]))))
end
def K5(wm:Nat)(b:Bool)(y:Nat->Nat)(H:List NE):TG:={ uz wm b y with aL:=[⟨y 2,y 102,(j9 λi=>y (100+i)).map ia⟩,⟨y 100,6,rT H⟩],ni:=H.reverse++j9 λi=>y (100+i) }
theorem K6(H:List NE):rT H=H.reverse.map ia:=by
 induction H with
 |nil=>rfl|cons e H ih=>simp only[W0,bM,<-ih];rfl
theorem K7{u:Str}{x:Nat}(h:u.cps.size≠5):u≠bv x:=λe=>h (by refine rR e ?_;rfl)
theorem aQz{e:NE}{x:Nat}{f:Nat->Nat}(H:e∈j9 f):e.u≠bv x:=by
 have h:∀u∈(j9 f).map (·.u),u.cps.size≠5:=by show ∀u∈(["http://www.w3.org/XML/1998/namespace","http://www.w3.org/1999/xhtml","http://www.w3.org/1999/02/22-rdf-syntax-ns#","http://schemas.xmlsoap.org/wsdl/","http://www.w3.org/2001/XMLSchema","http://www.w3.org/2001/XMLSchema-instance","http://purl.org/dc/elements/1.1/"]:List Str),u.cps.size≠5;decide+kernel
 exact K7 (h e.u (b7 H))
theorem aQ0{b:Bool}{y:Nat->Nat}{J:List NE}(uj:J.length<=6)(h1:∀e∈J,∃c∈dS,e.u=bv c/\e.p=⟨#[c]⟩)(h2:∀x∈dS,∃e∈J,e.u=bv x)(S:SX)(hS:S.cw=[]):fQ (K5 S.wm b y J) S [] 0:=by
 have Z:("http://www.w3.org/XML/1998/namespace":Str).cps.size≠5:=by decide+kernel
 refine⟨λta h=>⟨rfl,?_,(by decide:1<=1000),?_,?_,f4 _,⟨wW _,WA (by decide) _,h⟩,?_,?_,?_,(by decide:1<=1000)⟩,λx Y=>⟨Y,?_,?_,?_⟩,λx Y=>⟨?_,nofun⟩,?_,by rw[hS];rfl,(by decide:1<=10),(by decide:2<=10),(by decide:1<=10)⟩;·exact λl hl=>rR (bI.mp hl) (by decide:1<=1000)
 ·exact cj.mpr ⟨bi,bN⟩
 ·show(("xml":Str)==""||false)=false;decide+kernel
 ·intro e he;rw[bI.mp he];show("http://www.w3.org/XML/1998/namespace":Str)≠"";decide+kernel
 ·show rT J++((j9 λi=>y _).map ia++[])=(J.reverse++j9 λi=>y _).map ia;simp only[dR,bM,K6]
 ·intro l hl;rcases a9.mp hl with rfl|hl
  ·exact(by decide:7<=1000)
  ·rw[bI.mp hl];simp only[K6,dB,uR];exact aE uj (by decide)
 ·intro e he H;rw[bI.mp he]at H;exact absurd H (K7 Z)
 ·intro e he H;rcases cr.mp he with he|he
  ·refine ii (h1 e (X6.mp he)) λc z J e2=>?_;rw[J]at H;rw[e2,JG H]
  ·exact absurd H (aQz he)
 ·exact aO (h2 x Y) λe he H=>⟨e,bL _ (X6.mpr he),H⟩
 ·rintro ⟨e,he,H⟩;rw[bI.mp he]at H;exact absurd H (K7 Z)
 ·exact λe he=>bI.mp he▸ .inr rfl
theorem aQ1(tk:Nat)(J:Xs):(yF tk J).length<=6/\(∀e∈yF tk J,∃c∈dS,e.u=bv c/\e.p=⟨#[c]⟩)/\∀x∈dS,∃e∈yF tk J,e.u=bv x:=by
 refine⟨a8 6,λe H=>?_,λx Y=>?_⟩
 ·unfold yF at H;simp only[a9,bi,or_false]at H;rcases H with rfl|rfl|rfl|rfl|rfl|rfl
  ·exact⟨109,by decide,rfl,rfl⟩
  ·exact⟨98,by decide,rfl,rfl⟩
  ·exact⟨99,by decide,rfl,rfl⟩
  ·exact⟨103,by decide,rfl,rfl⟩
  ·exact⟨121,by decide,rfl,rfl⟩
  ·exact⟨114,by decide,rfl,rfl⟩
 ·unfold dS at Y;simp only[a9,bi,or_false]at Y;rcases Y with rfl|rfl|rfl|rfl|rfl|rfl
  ·exact⟨_,aB (aB (aB (aB (aB ay)))),rfl⟩
  ·exact⟨_,aB (aB (aB (aB ay))),rfl⟩
  ·exact⟨_,aB (aB (aB ay)),rfl⟩
  ·exact⟨_,aB (aB ay),rfl⟩
  ·exact⟨_,aB ay,rfl⟩
  ·exact⟨_,ay,rfl⟩
def aQ2(o:ar):Bool:=nc (match o.cls with
 | .type n=>n=="list"|_=>false)
theorem Vl(p:ph):(K p).all (λe=>!aQ2 e.2)=true:=by kernel_rfl
theorem aQ3{h:aw}(X:aK w h){d:Option af}(Z:h.get? S=some (iT d vs e sl)):∀o,(K w.params).lookup S≠some o:=λo H=>by
 have J:=X S o H;rw[Z]at J;obtain rfl:=dH J;have Y:(S,iT d vs e sl)∈K w.params:=by
  have J:=Vl w.params;generalize K w.params=l at H;induction l with
  |nil=>injection H|cons p l ih=>
   rw[List.lookup_cons]at H;by_cases q:S==p.1
   ·rw[q]at H;simp only[(eq_of_beq q),<-(dH H)];exact ay
   ·rw[Bool.eq_false_iff.mpr q]at H;exact aB (ih H)
 have:=r5.mp (Vl w.params) _ Y;exact absurd this (by show ¬(!("list"=="list"))=true;decide)
theorem uB(p:PR)(y z:Nat->Nat)(k j:Nat):cv (p.at_ y k)=cv (p.at_ z j):=by unfold cv oX;have H:b9 (jY (p.at_ y k) 0 0)=b9 (jY (p.at_ z j) 0 0):=rfl;have J:b9 (jZ (p.at_ y k) 0 0)=b9 (jZ (p.at_ z j) 0 0):=rfl;have e2:b9 (j0 (p.at_ y k) 0 0)=b9 (j0 (p.at_ z j) 0 0):=rfl;have Y:jA (p.at_ y k)=jA (p.at_ z j):=rfl;simp only[H,J,e2,Y];induction jA _<;>induction b9 _<;>induction b9 _<;>induction b9 _<;>rfl
theorem aQ4(p:Nat->PR)(y z:Nat->Nat):fR (gh p y)=fR (gh p z):=by unfold fR gh;simp only[jh,nS];simp only[uB (p 0) y z 3 3,uB (p 1) y z 10 10,uB (p 2) y z 17 17,uB (p 3) y z 24 24]
structure EZ(vs:List ag)(T:Nat->RT)(p:Nat->PR)(v:List ag)(sm:Int)(b:Bool):Prop where
 o0:(T 0).Ok vs 5514 0 0
 o1:(T 1).Ok vs 693213 1 ((T 0).dp+1)
 o2:(T 2).Ok vs 163261 2 ((T 1).dp+1)
 o3:(T 3).Ok vs 1603350 3 ((T 2).dp+1)
 h0:(T 0).Is 5514 (p 0)
 h1:(T 1).Is 693213 (p 1)
 h2:(T 2).Is 163261 (p 2)
 h3:(T 3).Is 1603350 (p 3)
 z:vs.length<=100
 hv:(yW vs.toArray none (some 60) none).toList=v
 hi:W6 v.toArray
 hs:(yV v).sum=sm
 hb:((sm.fmod 2)==1)=b
theorem aQ5{h:aw}(Y:h.NoLimit){d:Option af}(J:h.get? S=some (iT d vs e sl)):cStatics≠S:=λq=>by refine aO Y λY Y z=>mY Y λo Y ep H r=>?_;rw[q,J]at H;obtain rfl:=dH H;exact absurd r.1 nofun
section
variable {k:Nat->ab}
theorem aQ6(X1:aK w aq)(Z:aq.NoLimit)(hA:A.handled=none)(hd:A.depth+5<=bk){d:Option af}{v:List ag}{T:Nat->RT}{p:Nat->PR}{b:Bool}(Y:aq.get? V.S=some (iT d vs e sl))(H:EZ vs T p v sm b)(SR:ax True aq ak ([(L,V.aJ w k 1)]++ro) s)(h:∀(J:LV)y k' s',J={ V with R:=y 2,b:=b }->ax True aq ak ((gf J.R 4 (gh p y)++[(L,J.aJ w k' 3)])++ro) s'->Q .next s'):aG (av w) A (aV (cN.take 2) (fh L)) Q E s:=by
 have J:=nP;refine aQv SR Y X1 Z (aQ3 X1 Y) (aQ5 Z Y) hA 5 600 (dN 20 0x4a45f0004239ce7000e710040) [2,3,4,5,6,7,8] _ (λaP X2 N2 z z=>?_) hd (by decide) _ _ _ _ _ (λJ=>aPt w L V d vs v e sl p sm b k _ _ J) (λJ=>lj) λJ s' S' z z=>?_
 ·refine⟨rfl,by decide,aPb X2 N2 V.S d vs e sl H.z T p H.o0 H.o1 H.o2 H.o3 H.h0 H.h1 H.h2 H.h3,λa z z=>HJ (by decide) qx.none (Mg _ _) qx.none (by decide) (by have:=H.z;omega) H.hv λc z=>⟨rfl,cj.mpr ⟨bi,bN⟩,λJ Y z=>?_,λf z z=>Vk H.hb λz z=>True.intro⟩⟩;have:=OL (ao:=True) (w:=w) (U:=J.units) (fr:=none) (aa:=aP) Y (c 2) v 0 H.hi;rw[H.hs]at this;exact this
 ·exact h _ _ _ s' rfl S'
theorem aQ7(X1:aK w aq)(aU:aq.NoLimit)(hA:A.handled=none)(hd:A.depth+6<=bk)(hu:A.units+23< dQ)(hr:rows=[r0,r1,r2,r3])(nf:∀r∈rows,r.Ok)(hw:∀s∈rows.flatMap cv,s.length<=100)(hT:(fR rows).length<=1000)(SR:ax True aq ak ((gf V.R re rows++[(252,jJ #[]),(L+1,ca none),(L,V.aJ w k 3)])++ro) s)(h:∀(H:LV)(X:LX)(l:List (Nat×ab))(k':Nat->ab)s' tA,X.n=1->X.lx≠X.pb->H.T=fR rows->H.S=V.S->H.R=V.R->H.b=V.b->l.map (·.1)=(fR rows).cps.toList->ax True aq ak ((X.led w l++(((X.pb,aA [] 0)::(H.W,aA [] 0)::gf H.R re rows)++[(252,zU tA),(L+1,ca (some (.ref X.lx))),(L,H.aJ w k' 5)]))++ro) s'->Q .next s'):aG (av w) A (aV ((cN.drop 2).take 3) (fh L)) Q E s:=by
 have H:=nP;subst hr;generalize K8:fR [r0,r1,r2,r3]=T at hT h;refine fO SR X1 aU hA 6 600 (dN 18 0x25284040008080010810100) [1,2,4,5,6,7,8,9,3,0,10,11,12,13,14,15,16,17] _ (λaP H Z Y z=>?_) hd (by decide) _ _ _ _ (λJ=>aPv w L V k _ _ re r0 r1 r2 r3 T J) λJ s' S' z z z=>?_
 ·refine⟨rfl,by decide,?_,λa z z=>⟨rfl,cj.mpr ⟨bi,bN⟩,aDk Z Y T (a 2) (by omega),λH z z=>⟨rfl,bN,aPf Z Y _,λz z z=>True.intro⟩⟩⟩;exact K8▸aMw Z Y hA (cT hd) hu V.R re _ nf (dG 1 3) (by show 4<=10;decide) hw
 ·refine aO (aDm T.cps.toList λi=>J 1 (i+1)) λl H Y=>?_;simp only[Y]at S';exact h { V with T:=T,t:=J 0 2,W:=J 2 0+4 } (EU (J 1) (J 2)) l _ s' _ rfl (dw (bu [] (lL (Y0+1) (Y0+3)) rfl)) rfl rfl rfl rfl H S'
end
open Classical in
theorem aQ8(tg Y Z ds ns J D E y2 H M wm W L o:List α):cH (((tg++(Y++(Z++(ds++(ns++J)))))++(D++(E++((y2++H)++M))))++(wm++(W++L))++o) (((tg++(Y++(Z++(ns++H))))++L)++((ds++J)++((D++(E++(y2++M)))++((wm++W)++o)))):=by rw[jg];intro x;simp only[ig];ac_rfl
open Classical in
theorem aQ9(tg td H ds ns J D E y2 Z M wm W L o ro N Y:List α)(h:N.Perm Y):cH ((N++((tg++(td++(H++(ns++Z))))++L))++((ds++J)++((D++(E++(y2++M)))++((wm++W)++(o++ro))))) ((o++(tg++(td++(ds++(ns++(H++(wm++(W++J))))))))++(L++((D++(E++((y2++Z)++(Y++M))))++ro))):=by rw[jg];intro x;simp only[ig,h.count_eq x];ac_rfl
def Bp(wm W:af):SX:=nc (⟨wm,W,0,[],0,[],[],0⟩)
theorem aRa(X2:aK w aP)(N2:aP.NoLimit)(G:TG)(Y:Nat)(fe:List ag)(Z:Nat):∀(H:List Nat)(i s u:Nat)(J:List NE)(lv:List af),J.length+H.length<=6->(KS w G Y fe Z H i s u J).Ok True (av w) A U none aP lv:=by
 intro H;induction H with
 |nil=>exact λz z z z z z=>True.intro|cons c H ih=>refine λi s u J lv h=>⟨rfl,?_,aPq X2 N2 G Y _ _ fe Z _ _ _ _ (by simp only[K6,dB,uR];exact aT [lE (Y0+(Y1+1)) 6] (lE Y0 1000) rfl h),λx z z=>ih _ _ _ _ _ (aT [lE (Y0+(Y1+1)) 6] (lE (Y0+1+Y1) 6) rfl h)⟩;exact X4 (n:=5)
section
variable {k:Nat->ab}
theorem aRb(Z:aK w aq)(aU:aq.NoLimit)(hA:A.handled=none)(hd:A.depth+5<=bk)(Y:ax True aq ak ([(V.W,aA [] 0),(L,V.aJ w k 5)]++ro) s)(h:∀(H:LV)wm y k' s',H={ V with tg:=(uz wm V.b y).tg }->ax True aq ak ((KN w (uz wm V.b y)++[(wm,fY V.W),(V.W,aA [] 0),(L,H.aJ w k' 6)])++ro) s'->Q .next s'):aG (av w) A (aV ((cN.drop 5).take 1) (fh L)) Q E s:=by refine du Y Z aU hA 5 600 (dN 18 0x29410003080010840100440) (.cons _ _ [] [] _ λz=> .nil) (λaP z X2 J z=>⟨rfl,bN,aPo X2 J _ _,λz z z=>True.intro⟩) hd _ _ _ _ (λH=>aPw ..) λH s' H z z z=>h _ _ _ _ s' rfl H
theorem aRc(X1:aK w aq)(aU:aq.NoLimit)(hA:A.handled=none)(hd:A.depth+4<=bk){G:TG}{Y Z:Nat}{J:List ag}(hV:V.tg=G.tg)(SR:ax True aq ak ((ui G w Y [] 0 J Z++[(L,V.aJ w k 6)])++ro) s)(h:∀(H:LV)(es:List NE)k' s',H.S=V.S->H.R=V.R->H.b=V.b->H.T=V.T->H.W=V.W->H.tg=V.tg->(es.length<=6/\(∀e∈es,∃c∈dS,e.u=bv c/\e.p=⟨#[c]⟩)/\∀x∈dS,∃e∈es,e.u=bv x)->ax True aq ak ((es.map (λe:NE=>(e.t,fB e))++(ui G w Y (rT es) 6 J Z++[(L,H.aJ w k' 7)]))++ro) s'->Q .next s'):aG (av w) A (aV ((cN.drop 6).take 1) (fh L)) Q E s:=by
 have H:V={ V with tg:=G.tg }:=by rw[<-hV]
 rw[H]at SR;refine fO SR X1 aU hA 4 900 U1 [2,3,4,5,6,7,9,10,11,12,13,14] _ (λaP z X2 H z=>aRa X2 H G Y J Z _ _ _ _ _ _ (by decide)) hd (by decide) _ _ _ _ (λH=>aPx ..) λH s' J z z z=>h { V with tg:=G.tg,sx:="m",tx:=H 4 1 } _ _ s' rfl rfl rfl rfl rfl hV.symm (aQ1 _ H) J
theorem aRd(X1:aK w aq)(aU:aq.NoLimit)(hA:A.handled=none)(hd:A.depth+5<=bk)(Z:ax True aq ak ([(V.W,listOf ([]:List ag).toArray 0),(L,V.aJ w k 5)]++((123,o)::ro)) s)(h:∀(H:LV)(G:TG)wm k' s',H.S=V.S->H.R=V.R->H.b=V.b->H.T=V.T->H.W=V.W->H.tg=G.tg->G.b=V.b->fQ G (Bp wm V.W) [] 0->ax True aq ak (mK w o (G.run false) (Bp wm V.W) [] 0++([(L,H.aJ w k' 7)]++(G.ro++ro))) s'->aG (av w) A (aV body (fh L)) Q E s'):aG (av w) A (aV ((cN.drop 5).take 1++((cN.drop 6).take 1++body)) (fh L)) Q E s:=by
 refine da (aRb X1 aU hA hd Z λH wm y k1 s1 e1 S1=>?_);have S2:ax True aq ak ((ui _ w (y 100) [] 0 [aN (y 2)] 0++[(L,H.aJ ..)])++_) s1:=bj S1 (aQ8 [_] [_] [_] [_] [_] [_] _ _ [_] [_] _ [_] [_] [_] _);clear S1 Z;refine da (aRc X1 aU hA (cT hd) (by exact rR e1 rfl) S2 λV2 J k2 s2 a1 a2 a3 a4 a5 a6 Y S3=>?_);subst e1;refine h V2 (K5 ..) wm k2 s2 a1 a2 a3 a4 a5 a6 rfl (aQ0 Y.1 Y.2.1 Y.2.2 (Bp wm V.W) rfl) ?_;have H:(K5 wm V.b y J).ro=((uz wm V.b y).cU.map λl=>(l.a,listOf l.items.toArray l.ep))++(((uz wm V.b y).ents.map λe=>(e.t,fB e))++(([(y 2,listOf ((j9 λi=>y (100+i)).map ia).toArray (y 102))]++[(y 100,listOf (rT J).toArray 6)])++((J.reverse.map λe=>(e.t,fB e))++((j9 λi=>y (100+i)).map λe=>(e.t,fB e))))):=by show _++_=_;refine rR bM ?_;rfl
 simp only[H];exact bj S3 (aQ9 [_] [_] [_] [_] [_] [_] _ _ [_] [_] _ [_] [_] [_] [_] _ _ _ ((aX0 J).symm.map _))
end
structure uC where
 V:mR
 c:Nat
 x:Nat
 m:Nat
 p2:Option Str
 o2:List Str
 l':List (Nat×ab)
noncomputable abbrev uC.κ(t:uC):az:=⟨none,t.c,t.x⟩
variable {κ:az}
noncomputable abbrev uC.outs(t:uC)(b:Bool):List Str:=t.V.outs t.κ b none t.p2 t.o2
structure uC.Ok(w:aj)(b:Bool)(l:List (Nat×ab))(t:uC):Prop where
 rel:fb t.V.l l [48]
 d:t.V.d=0
 r:t.V.r=0x3FF0000000000000
 g:t.V.g=0
 bl:t.V.b=0
 ok:t.V.Ok w t.κ
 fits:t.κ.Fits []
 p2:o8 b t.p2
 n:(t.outs b).length<=880
 kids:rE w 16 (t.κ.xs []) 1 b t.V.d t.V.Dv.r t.V.Dv.g t.V.Dv.b t.l' [] t.p2 t.m (some ⟨t.V.F.toArray⟩) t.V.l2 t.V.W t.o2
 eof:fb [] t.l' []
section
variable {k:Nat->ab}
theorem aRe(X1:aK w aq)(aU:aq.NoLimit)(hA:A.handled=none)(hd:A.depth+9<=bk){l:List (Nat×ab)}(J:fb rest l [48])(hz:l.length<=1000){N:Int}(hN:N=X.n+(aL l - aL rest))(Z:ax True aq ak ((X.cD w l [] e2++[(L+1,ca (some (.ref X.lx))),(L,V.aJ w k 7)])++ro) s)(h:∀(H:LX)s',H.n=N->H.lx=X.lx->ax True aq ak ((LX.cD H w rest [] e2++[(L+1,ca (some (.ref H.lx))),(L,V.aJ w k 7)])++ro) s'->Q .next s'):aG (av w) A (aV ((cN.drop 7).take 1) (fh L)) Q E s:=by refine du Z X1 aU hA 9 600 (dN 20 0x17c401040000020000200002a) (.cons _ _ _ _ _ λa=>EV ⟨[48].toArray⟩ "0" (a 2) (a 1) false λz=> .nil) (λaP z X2 Y z=>⟨rfl,uW,Hj X2 Y J X N e2 hz (by decide) hN,λa z z=>Vj (by decide+kernel) λz z=>True.intro⟩) hd _ _ _ _ (λH=>aPz ..) λH s' J z z z=>h { X with n:=N,tn:=H 0 3,e1:=H 0 4 } s' rfl rfl J
end
theorem aRf{k:KX}(ok:k.Ok w)(hL:k.aa.objs.size<=k.L)(hn:k.dp+30< bk)(hU:k.un+1200< dQ){kt:Nat->ab}{G:TG}{J:SX}{b:Bool}{l:List (Nat×ab)}{t:uC}(H:t.Ok w b l)(hV:V.tg=G.tg)(hb:G.b=b)(SK:fQ G J [] 0)(hw:J.wv=[])(SR:ax True k.aa ak ((gv w (jJ #[]) (G.run false) J [] 0 X t.V.l [] e2++[(k.L+1,ca (some (.ref X.lx))),(k.L,V.aJ w kt 7)])++(G.ro++ro)) s)(h:∀y s',ax True k.aa ak ((gv w (t.κ.p (y 23)) (G.bV true y) (J.bV (t.outs b) y) [] (y 7) (X.bV (X.n+(aL t.V.l - aL t.l')) y) t.l' [.str dF (y 22)] (y 10)++[(k.L+1,ca (some (.ref X.lx))),(k.L,V.aJ w kt 7)])++(G.ro++ro)) s'->Q .next s'):aG (av w) k.bE (aV ((cN.drop 8).take 1) (fh k.L)) Q E s:=by
 have e1:V={ V with tg:=(G.run false).tg }:=by rw[<-hV]
 rw[e1]at SR h;have low:=SR.h;refine du SR ok.X ok.T.nolimit rfl 9 600 [0,19,20,0,2] _ (λaP Y X2 N2 z=>?_) (aT [lL (Y0+30) Y1] (lE (Y0+9) Y1) rfl hn) _ _ _ _ (λσ=>aQr w k.L V kt _ _ 0 e2 σ X t.V.l t.l' [] _ _ J _ (λy=>t.κ.p (y 23)) _ true) λσ s' S' z z z=>h (σ 0) s' S';refine⟨rfl,uW,?_,λz z z=>True.intro⟩;subst hb;have hk:=U7 (N:=17) (by decide) (by decide) t.V t.κ H.ok G false J X none t.p2 0 s.toks (s.toks+1) (s.toks+2) (s.toks+3) 0 e2 [] t.l' [] t.o2 true SK (by decide) H.fits (λz h=>nomatch h) H.p2 (λh=>absurd rfl h) (by rw[hw];exact rR (Mo ..) H.n) rfl H.kids;simp only[H.d,H.r,H.g,H.bl]at hk;have Z:=low.nd;rw[bM,fj]at Z;refine q8 hk ok hL (aT [lL (Y0+30) Y1] (lL (Y0+17) Y1) rfl hn) (aT [lL (Y0+1200) Y1] (lL (Y0+(Ax.m 40 17)) Y1) rfl hU) Y.st ?_ (λp hp=>⟨Y.ro _ (bL _ hp),λe=>?_,low.off p (bD _ (bL _ hp))⟩) ?_ (λz=>⟨rfl,rfl,rfl,rfl,?_⟩) (λz=>rfl)
 ·show(_++(G.ro++[])).Perm _;exact rR (dR ..) (.refl _)
 ·refine Z.2.2 k.L ?_ p.1 (b7 (bL _ hp)) e.symm;exact rR bM (bD _ (aB ay))
 ·have:=Z.2.1;rw[bM,fj]at this;exact this.1
 ·show(_++(G.ro++[])).Perm _;rw[dR]
open Classical in
theorem aRg(W f A x y H c r:List α):cH ((W++(f++A))++(((x++y)++H)++(c++r))) (((x++H)++(c++f))++(y++(W++(A++r)))):=by rw[jg];intro z;simp only[ig];ac_rfl
open Classical in
theorem aRh(W f A x y H c r:List α):cH (((x++H)++(c++f))++(y++(W++(A++r)))) ((((x++y)++H)++(c++f))++(W++(A++r))):=by rw[jg];intro z;simp only[ig];ac_rfl
theorem aRi(H:List Str)(y:Nat->Nat):∃J:List (Str×ab),J.map (·.1)=H/\bn H y=pJ J:=by
 refine⟨H.mapIdx λi s=>(s,y (100+i)),?_,?_⟩
 ·refine jH λi=>?_;rw[dP,gB];induction H[i]?<;>rfl
 ·show bn H y=qH _ _;unfold bn;refine jH λi=>?_;simp only[dP,gB,gB];induction H[i]?<;>rfl
section
variable {k:Nat->ab}
theorem aRj(X1:aK w aq)(aU:aq.NoLimit)(Y:A.handled=none)(hd:A.depth+9<=bk)(hu:A.units+23< dQ)(h1:∃o,aq.get? 1=some o)(hr:rows=[r0,r1,r2,r3])(ok:yE V.b rows){H:List (Str×ab)}(hl:sw ((H.map (·.1)).toArray.foldl (· +·.length+("":Str).length) 0)=false)(Z:(jB V.b rows).length<=gA)(hS:jf "" (H.map (·.1))=jB V.b rows)(SR:ax True aq ak (((V.W,listOf (pJ H).toArray e)::(L,V.aJ w k 7)::gf V.R re rows)++ro) s)(h:∀s',ax True aq ak (((V.W,listOf (pJ H).toArray e)::(L,V.aJ w k 7)::gf V.R re rows)++ro) s'->Q .next s'):aG (av w) A (aV ((cN.drop 9).take 1) (fh L)) Q E s:=by subst hr;generalize K8:jB V.b [r0,r1,r2,r3]=T at Z hS;refine du SR X1 aU Y 9 600 [2,2,0,2,2,0,2,777,2] _ (λaP J X2 N2 z=>?_) hd _ _ _ _ (λH=>aP0 w L V k _ _ re e H _ T r0 r1 r2 r3) λH s' H z z z=>h s' H;refine Ks hl Z hS λa z=>⟨rfl,by decide,?_,λb z z=>Vj (by simp) λz z=>True.intro⟩;exact BK h1 λZ H=>K8▸aO9 X2 N2 ⟨Z,J.st _ _ H⟩ Y (aT [lE (Y0+9) Y1] (lE (Y0+5) Y1) rfl hd) hu V.R re V.b _ (dG 1 3) ok
theorem aRk(Y:aK w aq)(aU:aq.NoLimit)(hA:A.handled=none)(hd:A.depth+5<=bk){x:Str}(J:ax True aq ak ((X.ip w [.str x t1] e2++[(L+1,ca (some (.ref X.lx))),(L,V.aJ w k 7)])++ro) s)(h:∀t2 s',ax True aq ak ((X.ip w [.str x t1, .str "h" t2] (e2+1)++[(L+1,ca (some (.ref X.lx))),(L,V.aJ w k 7)])++ro) s'->Q .next s'):aG (av w) A (aV ((cN.drop 10).take 1) (fh L)) Q E s:=by refine du J Y aU hA 5 600 (dN 18 0x4010400000200002000024) (.cons _ _ _ _ _ λz=> .nil) (λaP J Z H z=>⟨rfl,uW,CR Z H X "h" s.toks (some (x,t1)) e2,λz z z=>True.intro⟩) hd _ _ _ _ (λH=>aP1 ..) λH s' H z z z=>h _ s' H
theorem aRl(X1:aK w aq)(aU:aq.NoLimit)(hA:A.handled=none)(hd:A.depth+9<=bk){l:List (Nat×ab)}(Z:fb [] l [])(hz:l.length<=1000)(SR:ax True aq ak ((X.cD w l [.str dF t1, .str "h" t2] e2++[(L+1,ca (some (.ref X.lx))),(L,V.aJ w k 7)])++ro) s)(h:∀(Y:LV)(H:LX)k' t3 s',Y.T=V.T->H.n=X.n+aL l->H.lx=X.lx->ax True aq ak (((Y.E,listOf [ag.str dF t1, .str "h" t2, .str dF t3].toArray 3)::(LX.cD H w [] [] (e2+2)++[(L+1,ca (some (.ref H.lx))),(L,Y.aJ w k' 8)]))++ro) s'->Q .next s'):aG (av w) A (aV ((cN.drop 11).take 1) (fh L)) Q E s:=by refine fO SR X1 aU hA 9 900 _ [3,6,7,8,9,10,11,12,13,14,15,16] _ (λaP H X2 J z=>?_) hd (by decide) _ _ _ _ (λH=>aP2 ..) λH s' Y z z z=>h { V with E:=s.heap.objs.size+2 } { X with n:=X.n+aL l,tn:=H 2 3,e1:=H 2 4 } _ _ s' rfl rfl rfl Y;exact⟨rfl,by decide,CQ X2 J X dF t1 (some ("h",t2)) e2,λz z z=>⟨rfl,by decide,CQ X2 J X "h" t2 none _,λz z z=>⟨rfl,by decide,Hj X2 J Z X _ _ hz (by decide) (bw (bR [] (lE (Y0+Y1) (Y0+(Y1-0))) rfl) (bR [] (lE (Y0+(Y1-0)) (Y0+Y1)) rfl)),λz z z=>True.intro⟩⟩⟩
theorem aRm(Z:aK w aq)(Y:aq.NoLimit)(J:A.handled=none)(hd:A.depth+9<=bk)(hu:A.units+23< dQ)(h1:∃o,aq.get? 1=some o)(hr:rows=[r0,r1,r2,r3])(ok:yE V.b rows){H:List Str}{y:Nat->Nat}(hl:sw (H.toArray.foldl (· +·.length+("":Str).length) 0)=false)(hz:(jB V.b rows).length<=gA)(hS:jf "" H=jB V.b rows){l:List (Nat×ab)}(rel:fb [] l [])(hzl:l.length<=1000){n:Int}(hn:((kb V.T "\n" 0 V.T.length (V.T.length+1)).length:Int)=n)(hX:X.n+aL l=1+n)(SR:ax True aq ak (((V.W,listOf (bn H y).toArray e)::(L,V.aJ w k 7)::gf V.R re rows)++(X.cD w l [.str dF t1] e2++((L+1,ca (some (.ref X.lx)))::ro))) s)(h:∀s' led,ax True aq ak led s'->(∀p∈ro,p∈led)->Q (.ret (.bool true)) s'):aG (av w) A (aV ((cN.drop 9).take 1++((cN.drop 10).take 1++((cN.drop 11).take 1++cN.drop 12))) (fh L)) Q E s:=by refine aO (aRi H y) λH H hv2=>?_;rw[hv2]at SR;rw[<-H]at hl hS;refine da (aRj Z Y J hd hu h1 hr ok hl hz hS SR λH H=>?_);refine da (aRk Z Y J (aT [lE (Y0+9) Y1] (lE (Y0+5) Y1) rfl hd) (bj H (aRg [_] [_] _ [_,_] ((X.led w l).drop 2) [_] [_] _)) λt2 H H=>?_);refine da (aRl Z Y J hd rel hzl (bj H (aRh [_] [_] _ [_,_] _ [_] [_] _)) λH H H H H a1 a2 H H=>?_);rw[<-a1]at hn;refine aQy Z Y J (aT [lE (Y0+9) Y1] (lE (Y0+5) Y1) rfl hd) (aT [lL (Y0+23) Y1] (lL Y0 Y1) rfl hu) hn (rR a2 hX) (by exact H) λH J=>h H _ J λp H=>aB (bD _ H)
end
open Classical in
theorem aRn(A f c tb o:List α):cH ((A++f)++(c++(tb++o))) ((A++(tb++(c++f)))++o):=by rw[jg];intro z;simp only[ig];ac_rfl
open Classical in
theorem aRo(X H W A tb c f o:List α):cH ((X++((H++(W++A))++(tb++(c++f))))++o) ((W++f)++(o++((X++H)++(c++(A++tb))))):=by rw[jg];intro z;simp only[ig];ac_rfl
open Classical in
theorem aRp(T f G X c A tb:List α):cH (T++(f++(G++(X++(c++(A++tb)))))) ((X++(c++f))++(T++(G++(A++tb)))):=by rw[jg];intro z;simp only[ig];ac_rfl
open Classical in
theorem aRq(T f G X c A tb:List α):cH ((X++(c++f))++(T++(G++(A++tb)))) (((T++X)++(c++f))++(G++(A++tb))):=by rw[jg];intro z;simp only[ig];ac_rfl
open Classical in
theorem aRr(a W p f G X c A tb:List α):cH ((((a++(W++p))++X)++(c++f))++(G++(A++tb))) ((W++(f++A))++(X++(c++(a++(p++(G++tb)))))):=by rw[jg];intro z;simp only[ig];ac_rfl
abbrev kT(p:Nat->PR):List FR:=gh p λ_=>0
structure K9(w:aj)(b:Bool)(p:Nat->PR):Prop where
 fok:∀y,∀r∈gh p y,r.Ok
 fw:∀s∈(kT p).flatMap cv,s.length<=100
 len:(fR (kT p)).length<=1000
 ji:∀y,yE b (gh p y)
 dt:∀y,jB b (gh p y)=jB b (kT p)
 dz:(jB b (kT p)).length<=gA
 tell:∀l:List (Nat×ab),l.map (·.1)=(fR (kT p)).cps.toList->∃t:uC,t.Ok w b l/\t.l'.length<=1000/\jf "" (t.outs b)=jB b (kT p)/\sw ((t.outs b).toArray.foldl (· +·.length+("":Str).length) 0)=false/\((kb (fR (kT p)) "\n" 0 (fR (kT p)).length ((fR (kT p)).length+1)).length:Int)=aL l
theorem aRs(p:Nat->PR)(y z:Nat->Nat):(gh p y).flatMap cv=(gh p z).flatMap cv:=by unfold gh;simp only[jh,nS];simp only[uB (p 0) y z 3 3,uB (p 1) y z 10 10,uB (p 2) y z 17 17,uB (p 3) y z 24 24]
theorem aRt{k:KX}(ok:k.Ok w)(hL:k.aa.objs.size<=k.L)(hn:k.dp+30< bk)(hU:k.un+1200< dQ)(h1:∃o,k.aa.get? 1=some o){d:Option af}{v:List ag}(hS:k.aa.get? S=some (iT d vs e sl)){T:Nat->RT}{p:Nat->PR}{b:Bool}(sc:EZ vs T p v sm b)(J:K9 w b p){kt:Nat->ab}(SR:ax True k.aa ak ([(k.L+1,ca none),(k.L,(KQ S).aJ w kt 1)]++[(252,jJ #[]),(123,jJ #[])]) s)(h:∀s' led a b,ax True k.aa ak led s'->(252,jJ a)∈led->(123,jJ b)∈led->Q (.ret (.bool true)) s'):aG (av w) k.bE (aV cN (fh k.L)) Q E s:=by
 have Z:=ok.X;have aU:=ok.T.nolimit;obtain⟨H,Vm⟩:∃H,H=KQ S:=⟨_,rfl⟩
 rw[<-Vm]at SR;have eS:H.S=S:=by rw[Vm];rfl
 rw[<-eS]at hS;refine rR aQq (da ?_);refine aQ6 Z aU rfl (aT [lL (Y0+30) Y1] (lE (Y0+5) Y1) rfl hn) hS sc (bj SR (jL ..)) λH y k1 s1 e1 S1=>?_;have b1:H.b=b:=by rw[e1]
 have Y:fR (gh p y)=fR (kT p):=aQ4 ..;have nf:=J.fok y;have Vn:∀s∈(gh p y).flatMap cv,s.length<=100:=rR (aRs p y λ_=>0) J.fw;have Vo:=J.ji y;have sJ:=J.dt y;refine YE (⟨_,_,_,_,rfl⟩:∃r0 r1 r2 r3,gh p y=[r0,r1,r2,r3]) λr0 r1 r2 r3 hr=>?_;obtain⟨rows,aRu⟩:∃rows,rows=gh p y:=⟨_,rfl⟩
 rw[<-aRu]at S1 Y nf Vn Vo sJ hr;refine da (aQ7 Z aU rfl (aT [lL (Y0+30) Y1] (lE (Y0+6) Y1) rfl hn) (aT [lL (Y0+1200) Y1] (lL (Y0+23) Y1) rfl hU) hr nf Vn (rR Y J.len) (bj S1 (aRn _ [_] [_] [_] [_])) λV2 X l H H tA x1 H vT H H vb H S2=>?_);rw[Y]at H vT;refine MO (J.tell l H) λt Y tz tS tl tn=>?_;have La:l.length<=1000:=by have:=J.len;exact rL (dB ..) (rR (H ..) (rR (nQ ..) this))
 refine aRd Z aU rfl (by exact aT [lL (Y0+30) Y1] (lE (Y0+5) Y1) rfl hn) (bj S2 (aRo (X.led w l) [_] [_] (gf V2.R 4 rows) [_] [_] [_] [_])) λV3 G wm k3 H H a2 a3 a4 a5 a6 H SK S3=>da (aRe Z aU rfl (aT [lL (Y0+30) Y1] (lE (Y0+9) Y1) rfl hn) Y.rel La rfl (bj S3 (aRp _ [_] G.ro _ [_] _ [_])) λX' s4 n4 l4 S4=>?_);have b3:G.b=b:=by rw[H,vb,b1]
 refine da (aRf ok hL hn hU Y a6 b3 SK rfl (bj S4 (aRq _ [_] G.ro _ [_] _ [_])) λH s5 S5=>?_);rw[a2.symm]at S5;have b4:V3.b=b:=by rw[a3,vb,b1]
 have S6:ax True k.aa ak (((V3.W,listOf (bn (t.outs b) H).toArray (H 8))::(k.L,V3.aJ w k3 7)::gf V3.R 4 rows)++((X'.bV (X'.n+(aL t.V.l - aL t.l')) H).cD w t.l' [.str dF (H 22)] (H 10)++((k.L+1,ca (some (.ref X'.lx)))::((mK w (t.κ.p (H 23)) (G.bV true H) ((Bp wm V2.W).bV (t.outs b) H) [] (H 7)).take 7++([(G.ps,listOf [dY false].toArray (H 9))]++(G.ro++[(252,zU tA)])))))) s5:=by exact rR a5 (bj S5 (aRr (List.take 7 (mK w (t.κ.p (H 23)) (G.bV true H) ((Bp wm V2.W).bV (t.outs b) H) [] (H 7))) [_] [_] [_] G.ro _ [_] _ [_]))
 refine aRm (n:=aL l) Z aU rfl (aT [lL (Y0+30) Y1] (lE (Y0+9) Y1) rfl hn) (aT [lL (Y0+1200) Y1] (lL (Y0+23) Y1) rfl hU) h1 hr (rR b4 Vo) tl (rR b4 (rR sJ J.dz)) (rR b4 (rR sJ tS)) Y.eof tz (rR a4 (rR vT tn)) ?_ S6 λY led Z J=>h Y led _ _ Z (J (252,zU tA) (bD _ (bD [_] (bD G.ro ay)))) (J (123,iC (H 23)) (bL _ ay));exact rR n4 (rR x1 (bw (hH [] (lE (1+(Y0-Y1)+(Y1-Y2)+Y2) (1+Y0)) rfl) (hH [] (lE (1+Y0) (1+(Y0-Y1)+(Y1-Y2)+Y2)) rfl)))
abbrev Vp:Str:=nc ("law")
def uD:Scope:=nc (oY.scope)
theorem aRv(L:Nat):fh L=su Vp ⟨.function,uD.names,uD.isGenerator,uD.isCoroutine,uD.more⟩ L 272 oY.code [("lexer",L+1)]:=by kernel_rfl
abbrev yG:List (af×af):=nc ([(256,252),(125,123)])
theorem aRw{H:am}{p:c9}{lo:List Str}{sM:WC->Option ag}{mg mb:Str->Option ag}(XS:aK w H.heap)(T:Top p lo sM mg mb H.heap)(J:TabsAt yG H.heap)(hg:H.gens=#[])(h1:∃o,H.heap.get? 1=some o){d:Option af}{v:List ag}(hS:H.heap.get? S=some (iT d vs e sl)){TT:Nat->RT}{pr:Nat->PR}{b:Bool}(sc:EZ vs TT pr v sm b)(pl:K9 w b pr)(h:∀s',OldK H.heap s'.heap->s'.os=H.os->AllBare s'.gens->R (.ok (.ret (.bool true))) s'):eH (av w) uX (gG 272 [.ref S]) R H:=by
 have XG:=ghost_K J XS (by kernel_rfl);have Vq:=ghost_top J T;have SR:ax True (Yi H.heap yG) H [(252,jJ #[]),(123,jJ #[])] H:=by
  refine⟨⟨λp hp=>?_,by decide,λb o e=>yX _ e,λp hp=>yY _ ?_⟩,rfl,λz x hx=>by rw[hg]at hx;simp at hx, .inl True.intro⟩
  ·rcases a9.mp hp with rfl|hp
   ·exact(J _ ay).2
   ·exact rR (bI.mp hp) ((J _ (aB ay)).2)
  ·rcases a9.mp hp with rfl|hp
   ·exact ay
   ·exact rR (bI.mp hp) (aB ay)
 refine FA (show uX.depth< bk by decide) (XS _ _ (aPd w)) rfl (by kernel_rfl) (by kernel_rfl) (body:=cN) (by kernel_rfl) (BJ XS (by kernel_rfl)) (gL SR XG rfl 0 0 400 [] .nil (λz=>True.intro) nofun (a8 _) _ _ _ _ (λσ=>aPr ..) λσ0 s2 S2 oj qT z=>?_);have e1:=λσ=>aPs w S H.heap.objs.size H.toks σ [(252,jJ #[]),(123,jJ #[])];replace e1:=qT▸(oj▸e1)
 refine gL S2 XG rfl 0 0 400 [2,2] .nil (λz=>True.intro) nofun (a8 _) _ _ _ _ e1 λσ s3 S3 QH IP z=>⟨(Vq.nolimit.keeps (λb o e=>S3.h.keep b o e)),Mi ?_⟩
 rw[oj]at S3 ⊢;refine rR (aRv ..) ?_;let k:KX:=⟨topProg,lo++qH (λx=>x.name) (recsOf p)++qH (λx=>x.fst) (litsOf p)++qH (λx=>x.name) (clssOf p lo),sM,mg,mb,uX.depth+1,uX.units+3,uX.guards,Vp,uD.names,uD.isGenerator,uD.isCoroutine,uD.more,272,oY.code,[("lexer",H.heap.objs.size+1)],[],uX,Yi H.heap yG,Yi H.heap yG,H.heap.objs.size⟩
 obtain⟨o1,vO⟩:=h1;refine aRt (k:=k) (⟨ghost_below J,XG,Vq,(ghost_code J).1⟩) (qu (hideAll_size _ _)) (show uX.depth+1+30< bk by decide) (show uX.units+3+1200< dQ by decide) ⟨o1,Yj vO (by decide)⟩ (ghost_get J hS λq=>absurd (congrArg Obj.cls q) nofun) sc pl S3 λs' led a b Y m1 H=>?_;have g1:=Y.h.at_ _ m1;have g2:=Y.h.at_ _ H;refine h s' ⟨λb o e=>?_,λb o e=>?_⟩ Y.os (Y.gens True.intro)
 ·by_cases Z:b∈yG.map (·.2)
  ·obtain⟨q,hq,rfl⟩:=bq.mp Z;have e2:=(J q hq).2;rw[e]at e2;obtain rfl:=dH e2;refine .inr (.inl ⟨((J q hq).1.tab (J q hq).2).isCodeTable,rfl,#[],?_⟩);rcases a9.mp hq with rfl|hq
   ·exact⟨_,rfl,rR aX8 g1⟩
   ·obtain rfl:=bI.mp hq;exact⟨_,rfl,rR aX8 g2⟩
  ·exact .inl (Y.h.keep b o (Yj e Z))
 ·by_cases Z:b∈yG.map (·.2)
  ·obtain⟨q,hq,rfl⟩:=bq.mp Z;rcases a9.mp hq with rfl|hq
   ·exact⟨_,g1⟩
   ·obtain rfl:=bI.mp hq;exact⟨_,g2⟩
  ·exact⟨o,Y.h.keep b o (Yj e Z)⟩
def signs:List Nat:=nc ([97,38,60,62,34,92,32,10,9,13])
def o9:List (List Nat):=nc ([[],[97],[38],[60],[62],[34],[92],[32],[10],[9],[13]])
def wI:List Int:=nc ([4,3,2,1,4,3,2,0])
structure PR.Ok(p:PR):Prop where
 nm:p.nm.length<=2
 na:∀c∈p.nm,c∈signs
 dr:p.dr< 3
 E0:0<=p.tu
 tu:p.tu< 64
 wJ:0<=p.sh
 sh:p.sh<=4
 wK:0<=p.va
 va:p.va<=4
structure Lb(p:Nat->PR):Prop where
 ok:∀i,(p i).Ok
 d0:(p 0).dp=0
 d1:(p 1).dp=1
 d2:1<=(p 2).dp/\(p 2).dp<=2
 d3:1<=(p 3).dp/\(p 3).dp<=(p 2).dp+1
section
variable (vs:List ag)(h k d:Int)
def Lc:List Value:=nc ((yW vs.toArray none (some 60) none).toList)
def Ld:List Value:=(yW (Lc vs).toArray (some k) none (some 4)).toList
def fi:Int:=(h+(yV (Ld vs k)).sum).fmod 4460544
def rV(c:Int)(n:Int):Nat:=(((fi vs h k).fdiv c).fmod n).toNat
def E1:Nat:=((((fi vs h k).fdiv 363).fdiv 192).fmod 8).toNat
def Bq:Nat:=(((fi vs h k).fdiv 363).fdiv 1536).toNat
def yH:PR:=⟨min d (1+(fi vs h k).fmod 3),o9.getD (rV vs h k 3 11) []++o9.getD (rV vs h k 33 11) [],(((fi vs h k).fdiv 363).fmod 3).toNat,(((fi vs h k).fdiv 363).fdiv 3).fmod 64,wI.getD (E1 vs h k) 0,wI.getD (Bq vs h k) 0⟩
def yI:RT:=⟨Lc vs,Ld vs k,(yV (Ld vs k)).sum,min d (1+(fi vs h k).fmod 3),rV vs h k 3 11,rV vs h k 33 11,E1 vs h k,Bq vs h k,aW (o9.getD (rV vs h k 3 11) []),aW (o9.getD (rV vs h k 33 11) []),aW (o9.getD (rV vs h k 3 11) []++o9.getD (rV vs h k 33 11) []),wI.getD (E1 vs h k) 0,wI.getD (Bq vs h k) 0⟩
end
theorem aRx(vs:List ag)(h k:Int):0<=fi vs h k/\fi vs h k< 4460544:=by unfold fi;exact rR (Gh _ (by decide)) ⟨(aX9 _ (by decide)),(aYa _ (by decide))⟩
theorem fm{x n:Int}(hn:0< n):0<=x.fmod n/\x.fmod n< n:=rR (Gh _ (gm hn)) ⟨aX9 _ (nM hn),aYa _ hn⟩
theorem E2{k:Int}(H:0<=k)(J:k< n)(hn:n<=100):xF k n k.toNat:=by
 refine⟨?_,?_⟩;·refine rR (decide_eq_false (λh=>absurd (aXy h (by decide)) (fH.mpr H))) (rR (decide_eq_false (wN.mpr (iB [_,(n:Nat)] [lL Y0 Y1,lE Y1 100] (lL Y0 9223372036854775808) rfl J (bK.mpr hn)))) ?_);rfl
 ·have e:(if k< 0 then k+(n:Int)else k)=k:=if_neg (fH.mpr (bf [lE 0 Y0] (lE 0 Y0) rfl H));show(if _=true then some (if k< 0 then k+_ else k).toNat else none)=some k.toNat;refine rR e (rR (decide_eq_true H) (rR (decide_eq_true J) ?_));rfl
theorem pa:("":Str)=aW []/\("a":Str)=aW [97]/\("&":Str)=aW [38]/\("<":Str)=aW [60]/\(">":Str)=aW [62]/\("\"":Str)=aW [34]/\("\\":Str)=aW [92]/\(" ":Str)=aW [32]/\("\n":Str)=aW [10]/\("\t":Str)=aW [9]/\("\r":Str)=aW [13]:=by decide+kernel
theorem Vr(b j:Nat)(h:j< 11):(zW b)[j]?=some (.str (aW (o9.getD j [])) (b+6+j)):=by
 have k:∀{x y:Str}{n m:Nat},x=y->n=m->some (ag.str x n)=some (ag.str y m):=λh h'=>by rw[h,h']
 match j,h with
 |0,_=>exact k pa.1 rfl|1,_=>exact k pa.2.1 rfl|2,_=>exact k pa.2.2.1 rfl|3,_=>exact k pa.2.2.2.1 rfl|4,_=>exact k pa.2.2.2.2.1 rfl|5,_=>exact k pa.2.2.2.2.2.1 rfl|6,_=>exact k pa.2.2.2.2.2.2.1 rfl|7,_=>exact k pa.2.2.2.2.2.2.2.1 rfl|8,_=>exact k pa.2.2.2.2.2.2.2.2.1 rfl|9,_=>exact k pa.2.2.2.2.2.2.2.2.2.1 rfl|10,_=>exact k pa.2.2.2.2.2.2.2.2.2.2 rfl|n+11,h=>exact absurd h (dA.mpr (dG ..))
theorem Vs(b j:Nat)(h:j< 8):(zX b)[j]?=some (.int (wI.getD j 0) (b+18+j)):=by
 match j,h with
 |0,_=>rfl|1,_=>rfl|2,_=>rfl|3,_=>rfl|4,_=>rfl|5,_=>rfl|6,_=>rfl|7,_=>rfl|n+8,h=>exact absurd h (dA.mpr (dG ..))
theorem E3:∀j< 11,(o9.getD j []).length<=1/\∀c∈o9.getD j [],c∈signs:=by decide
theorem Vt:∀j< 8,0<=wI.getD j 0/\wI.getD j 0<=4:=by decide
theorem aRy(a b:List Nat):aW a++aW b=aW (a++b):=by
 show(⟨a.toArray++b.toArray⟩:Str)=⟨(a++b).toArray⟩
 exact rR (FI ..) rfl
section
variable (hi:zd vs ns)(h k d:Int)
theorem jx(c:Int)(vs:List ag):rV vs h k c 11< 11:=by have:=fm (x:=(fi vs h k).fdiv c) (n:=11) (by decide);exact cc.mp (bR [lL Y1 11,eQ Y0 Y1] (lL Y0 11) rfl this.2 (mS (this.1)))
theorem Vu(vs:List ag):(0<=((fi vs h k).fdiv 363).fdiv 1536/\((fi vs h k).fdiv 363).fdiv 1536< 8)/\E1 vs h k< 8/\Bq vs h k< 8:=by
 have b:=aRx vs h k;have e:((fi vs h k).fdiv 363).fdiv 1536=fi vs h k / 363 / 1536:=by rw[BE _ (by decide),BE _ (by decide)]
 have c:=fm (x:=((fi vs h k).fdiv 363).fdiv 192) (n:=8) (by decide);refine⟨by rw[e];exact⟨jO [lE 0 Y1,lL Y2 ((Ax.m 1536 Y0)+1536),lL Y1 ((Ax.m 363 Y2)+363)] (lE 0 Y0) [1,363,1] 557568 rfl b.1 (B5 (by decide)) (B5 (by decide)),jO [lL Y1 4460544,lE (Ax.m 1536 Y0) Y2,lE (Ax.m 363 Y2) Y1] (lL Y0 8) [1,363,1] 557568 rfl b.2 (B6 (by decide)) (B6 (by decide))⟩,?_,?_⟩;·exact cc.mp (bR [lL Y1 8,eQ Y0 Y1] (lL Y0 8) rfl c.2 (mS (c.1)))
 ·unfold Bq;exact rR e (cc.mp (YW [lL Y1 4460544,eQ Y0 Y2,lE (Ax.m 1536 Y2) Y3,lE (Ax.m 363 Y3) Y1] (lL Y0 8) [1,557568,363,1] 557568 rfl b.2 (mS (jO [lE 0 Y1,lL Y2 ((Ax.m 1536 Y0)+1536),lL Y1 ((Ax.m 363 Y2)+363)] (lE 0 Y0) [1,363,1] 557568 rfl b.1 (B5 (by decide)) (B5 (by decide)))) (B6 (by decide)) (B6 (by decide))))
include hi in
theorem E4:(yI vs h k d).Ok vs h k d:=by
 have J:=fm (x:=(fi vs h k).fdiv 3) (n:=11) (by decide);have Z:=fm (x:=(fi vs h k).fdiv 33) (n:=11) (by decide);have Y:=fm (x:=((fi vs h k).fdiv 363).fdiv 192) (n:=8) (by decide);obtain⟨j4,Le,Lf⟩:=Vu ..;refine⟨rfl,rfl,?_,rfl,rfl,E2 J.1 J.2 (by decide),λb=>Vr b _ (jx ..),E2 Z.1 Z.2 (by decide),λb=>Vr b _ (jx ..),aRy _ _,?_,E2 Y.1 Y.2 (by decide),λb=>Vs b _ Le,E2 j4.1 j4.2 (by decide),λb=>Vs b _ Lf⟩
 ·intro v H;have:∀{vs:List ag}{ns:List Int},zd vs ns->∀v∈vs,∃a t,v= .int a t:=λh=>by
   induction h with
   |nil=>exact λz h=>nomatch h|cons n t _ ih=>exact λv H=>(a9.mp H).elim (λe=>⟨n,t,e⟩) (ih v)
  exact this (IntsAre.pick (hi.pick ..) ..) v (F9.mp H)
 ·show(o9.getD _ []).toArray.size+(o9.getD _ []).toArray.size<=100;exact aT [lE Y0 1,lE Y1 1] (lE (Y0+Y1) 100) rfl (E3 _ (jx ..)).1 (E3 _ (jx ..)).1
theorem E5(vs:List ag):(yH vs h k d).Ok:=by
 obtain⟨H,J,Z⟩:=Vu ..;have p1:=E3 _ (jx h k 3 vs);have p2:=E3 _ (jx h k 33 vs);have H:=fm (x:=((fi vs h k).fdiv 363).fdiv 3) (n:=64) (by decide);have fd:=fm (x:=(fi vs h k).fdiv 363) (n:=3) (by decide);have Y:=Vt _ J;have J:=Vt _ Z;refine⟨?_,λc hc=>?_,?_,H.1,H.2,Y.1,Y.2,J.1,J.2⟩
 ·show(_++_:List Nat).length<=2;exact rR bQ (Fx p1.1 p2.1)
 ·rcases cr.mp hc with hc|hc
  ·exact p1.2 c hc
  ·exact p2.2 c hc
 ·exact cc.mp (bR [lL Y1 3,eQ Y0 Y1] (lL Y0 3) rfl fd.2 (mS (fd.1)))
theorem E6(vs:List ag):(yI vs h k d).Is h (yH vs h k d):=by have fd:=fm (x:=(fi vs h k).fdiv 363) (n:=3) (by decide);refine⟨rfl,rfl,?_,rfl,rfl,rfl⟩;exact bw (cP [eQ Y1 Y0] (lE Y0 Y1) [-1] 1 rfl (mS (fd.1))) (bR [eQ Y0 Y1] (lE Y0 Y1) rfl (mS (fd.1)))
end
theorem aRz(J:zd vs ns)(hz:vs.length<=63):∃T p v sm b,EZ vs T p v sm b/\Lb p:=by
 let d1:=min 0 (1+(fi vs 5514 0).fmod 3)+1;let Y:=min d1 (1+(fi vs 693213 1).fmod 3)+1;let d3:=min Y (1+(fi vs 163261 2).fmod 3)+1;have H:=fm (x:=fi vs 5514 0) (n:=3) (by decide);have Z:=fm (x:=fi vs 693213 1) (n:=3) (by decide);have f2:=fm (x:=fi vs 163261 2) (n:=3) (by decide);refine⟨λi=>match i with|0=>yI vs 5514 0 0|1=>yI vs 693213 1 d1|2=>yI vs 163261 2 Y|_=>yI vs 1603350 3 d3,λi=>match i with|0=>yH vs 5514 0 0|1=>yH vs 693213 1 d1|2=>yH vs 163261 2 Y|_=>yH ..,Lc vs,(yV _).sum,_==1,⟨E4 J ..,E4 J ..,E4 J ..,E4 J ..,E6 ..,E6 ..,E6 ..,E6 ..,aE hz (by decide),rfl,?_,rfl,rfl⟩,⟨λi=>?_,?_,?_,?_,?_⟩⟩
 ·intro v hv;have:∀{vs:List ag}{ns:List Int},zd vs ns->∀v∈vs,∃a t,v= .int a t:=λh=>by
   induction h with
   |nil=>exact λz h=>nomatch h|cons n t _ ih=>exact λv hv=>(a9.mp hv).elim (λe=>⟨n,t,e⟩) (ih v)
  exact this (J.pick none _ none) v (F9.mp hv)
 ·match i with
  |0=>exact E5 ..|1=>exact E5 ..|2=>exact E5 ..|n+3=>exact E5 ..
 ·exact bw (bf [eQ Y0 0] (lE Y0 0) rfl (By (bf [lE 0 Y0] (lE 0 (1+Y0)) rfl H.1))) (g9 [eQ Y0 0] (lE 0 Y0) [-1] 1 rfl (By (bf [lE 0 Y0] (lE 0 (1+Y0)) rfl H.1)))
 ·exact YR H Z
 ·exact MX H Z f2
 ·exact YS (MX H Z f2).1 (fm (by decide))
noncomputable def rW(b:Bool)(κ:Nat)(n:Int):List (Nat×Int):=match b with
 |true=>[]|false=>[(κ,n)]
noncomputable def Lg(b:Bool)(l:List (Nat×Int)):List (Nat×Int):=match b with
 |true=>l.reverse|false=>l
def qp(p:PR):List (Nat×Int):=Lg (decide (p.tu % 2=1)) (rW (decide (p.tu=0)) 0 p.tu++(rW (decide (p.sh=4)) 1 p.sh++rW (decide (p.va=4)) 2 p.va))
def uE(dr:Nat)(l:List (Nat×Int)):List (Nat×List Nat):=l.flatMap λq=>[(dr,tC q.1),(dr,eX q.2)]
def nJ(p:PR):List (Nat×List Nat):=(p.dr,eX p.dp)::(p.dr,p.nm)::uE p.dr (qp p)
def spS(q:Nat×List Nat):Str:=aW (gK q.1 q.2)
theorem E7:("h":Str)≠"s"/\("h":Str)≠"v"/\("s":Str)≠"v":=by decide+kernel
theorem aR0(n:Int)(t:ab)(z:Nat)(u:ab):b9 ⟨z,"h",t,n,u⟩=decide (n=0):=by
 show(decide _||_)=_;by_cases h:n=0;·rw[decide_eq_true h,decide_eq_true ⟨rfl,h.symm⟩];rfl
 ·rw[decide_eq_false h,decide_eq_false λq=>h q.2.symm];rfl
theorem aR1(n:Int)(t:ab)(z:Nat)(u:ab):b9 ⟨z,"s",t,n,u⟩=decide (n=4):=by
 show(decide (("h":Str)="s"/\(0:Int)=n)||(decide (("s":Str)="s"/\(4:Int)=n)||(decide (("v":Str)="s"/\(4:Int)=n)||false)))=_;rw[decide_eq_false (λh:("h":Str)="s"/\_=n=>E7.1 h.1),decide_eq_false (λh:("v":Str)="s"/\_=n=>E7.2.2 h.1.symm)];by_cases h:n=4;·rw[decide_eq_true h,decide_eq_true ⟨rfl,h.symm⟩];rfl
 ·rw[decide_eq_false h,decide_eq_false λq=>h q.2.symm];rfl
theorem aR2(n:Int)(t:ab)(z:Nat)(u:ab):b9 ⟨z,"v",t,n,u⟩=decide (n=4):=by
 show(decide (("h":Str)="v"/\(0:Int)=n)||(decide (("s":Str)="v"/\(4:Int)=n)||(decide (("v":Str)="v"/\(4:Int)=n)||false)))=_;rw[decide_eq_false (λh:("h":Str)="v"/\_=n=>E7.2.1 h.1),decide_eq_false (λh:("s":Str)="v"/\_=n=>E7.2.2 h.1)];by_cases h:n=4;·rw[decide_eq_true h,decide_eq_true ⟨rfl,h.symm⟩];rfl
 ·rw[decide_eq_false h,decide_eq_false λq=>h q.2.symm];rfl
theorem aR3(p:PR)(y:Nat->Nat)(k:Nat):cv (p.at_ y k)=(nJ p).map spS:=by unfold cv oX nJ qp;simp only[show b9 (jY (p.at_ y k) 0 0)=decide (p.tu=0)from aR0 ..,show b9 (jZ (p.at_ y k) 0 0)=decide (p.sh=4)from aR1 ..,show b9 (j0 (p.at_ y k) 0 0)=decide (p.va=4)from aR2 ..,show jA (p.at_ y k)=decide (p.tu % 2=1)from rfl];cases decide (p.tu % 2=1)<;>cases decide (p.tu=0)<;>cases decide (p.sh=4)<;>cases decide (p.va=4)<;>rfl
theorem E8(l:List Str):(jf "" l).cps.toList=l.flatMap (·.cps.toList):=by
 have J:("":Str).cps=#[]:=by decide+kernel
 have Y:∀(r:List Str)(H:Array Nat),(r.foldl (λH p=>H++("":Str).cps++p.cps) H).toList=H.toList++r.flatMap (·.cps.toList):=by
  intro r;induction r with
  |nil=>intro H;simp only[nS,dR];rfl|cons p r ih=>intro H;rw[Gf,ih,jh,J,Array.append_empty,zb,bH]
 induction l with
 |nil=>rfl|cons a r=>show((r.foldl _ a.cps)).toList=_;rw[Y,jh]
theorem aR4:∀(H:List (Nat×List Nat))(j:Nat),((H.map spS).mapIdx λk s=>s++(⟨#[lC (k+j)]⟩:Str)).flatMap (·.cps.toList)=qY j H:=by
 intro H;induction H with
 |nil=>exact λz=>rfl|cons q H ih=>
  intro j;simp only[iK,aWn,jh];have e:(λ(i:Nat)(s:Str)=>s++(⟨#[lC (i+1+j)]⟩:Str))=λi s=>s++(⟨#[lC (i+(j+1))]⟩:Str):=by funext i s;rw[show i+1+j=i+(j+1) by exact c8 (aT [] (lE (Y0+1+Y1) (Y0+(Y1+1))) rfl) (aT [] (lE (Y0+(Y1+1)) (Y0+1+Y1)) rfl)]
  simp only[e,ih (j+1)];show((gK q.1 q.2).toArray++#[lC _]).toList++qY _ H=gK q.1 q.2++lC j::qY _ H;rw[Mo,zb,bH];rfl
def rX(p:Nat->PR):List (Nat×List Nat):=nJ (p 0)++(nJ (p 1)++(nJ (p 2)++nJ (p 3)))
theorem Vx(p:Nat->PR):(gh p λ_=>0).flatMap cv=(rX p).map spS:=by unfold gh rX;simp only[jh,nS,aR3,bM,dR]
theorem Vy(p:Nat->PR):(fR (gh p λ_=>0)).cps.toList=qY 0 (rX p):=by unfold fR iF;exact rR (E8 ..) (rR (Vx ..) (aR4 _ 0))
theorem aR5:∀i< 64,(eX ((i:Nat):Int)).length<=2/\(∀c∈eX ((i:Nat):Int),c< 128)/\eX ((i:Nat):Int)≠[]/\uO ⟨(eX ((i:Nat):Int)).toArray⟩=some ((i:Nat):Int)/\([⟨#[104]⟩,⟨#[115]⟩,⟨#[118]⟩]:List Str).any (· ==⟨(eX ((i:Nat):Int)).toArray⟩)=false:=by decide+kernel
theorem pc{n:Int}(H:0<=n)(h:n< 64):(eX n).length<=2/\(∀c∈eX n,c< 128)/\eX n≠[]/\uO ⟨(eX n).toArray⟩=some n/\tD (eX n):=by have:=aR5 n.toNat (cc.mp (iB [(n.toNat:Nat),_] [lL Y1 64,eQ Y0 Y1] (lL Y0 64) rfl h (mS (H))));replace this:=(mS H)▸this;exact this
theorem Lh:∀c∈signs,c< 128:=by decide
theorem E9(h:p.Ok)(d0:0<=p.dp)(d1:p.dp< 64)(y:Nat->Nat)(k:Nat):(p.at_ y k).Ok:=by
 have H:∀n:Int,0<=n->n< 64->n.natAbs.log2< 1920:=λn a b=>(Sm.mk a (L6 b (by decide)):Sm n).log;have dg:=pc d0 d1;have Y:=pc h.E0 h.tu;have Z:=pc h.wJ (jF h.sh (by decide));have d4:=pc h.wK (jF h.va (by decide));have J:∀x∈(["h","s","v"]:List Str),yt x.cps.toList:=λx hx=>by
  have:∀x∈(["h","s","v"]:List Str),x.cps.toList.length<=2/\∀c∈x.cps.toList,c< 128:=by decide+kernel
  exact⟨(this x hx).1,(this x hx).2⟩
 refine⟨?_,⟨dg.1,dg.2.1⟩,H _ d0 d1,⟨h.nm,λc hc=>Lh c (h.na c hc)⟩,⟨J _ ay,⟨Y.1,Y.2.1⟩,H _ h.E0 h.tu⟩,⟨J _ (aB ay),⟨Z.1,Z.2.1⟩,H _ h.wJ (jF h.sh (by decide))⟩,⟨J _ (aB (aB ay)),⟨d4.1,d4.2.1⟩,H _ h.wK (jF h.va (by decide))⟩⟩;have:=h.dr;exact(by decide:∀x< 3,x=0\/x=1\/x=2) _ this
theorem Vz(H:Bool):∀w:List Nat,(pZ H w).length<=2*w.length
 |[]=>a8 _|c::l=>by have:=Vz H l;unfold pZ;simp only[bQ,eI];split<;>simp only[eI,BZ]<;>omega
theorem VA:∀w:List Nat,(qX w).length<=2*w.length
 |[]=>a8 _|c::l=>by have:=VA l;unfold qX;simp only[bQ,eI];split<;>simp only[eI,BZ]<;>omega
theorem VB(q:Nat×List Nat)(h:q.2.length<=2):(gK q.1 q.2).length<=6:=by
 unfold gK;induction quoted q.1 q.2;·exact fA [lE Y1 2,lE Y0 (.m 2 Y1)] (lE Y0 6) [2,1] 1 rfl h (Vz _ q.2)
 ·simp only[cond_true,eI,bQ,eI,BZ];exact fA [lE Y1 2,lE Y0 (.m 2 Y1)] (lE (Y0+(0+1)+1) 6) [2,1] 1 rfl h (VA q.2)
theorem aR6:∀(H:List (Nat×List Nat))(j:Nat),(∀q∈H,q.2.length<=2)->(qY j H).length<=7*H.length:=by
 intro H;induction H with
 |nil=>exact λz z=>a8 _|cons q H ih=>intro j h;unfold qY;simp only[bQ,eI,eI];exact b8 [lE Y0 6,lE Y1 (.m 7 Y2)] (lE (Y0+(Y1+1)) (.m 7 (Y2+1))) rfl (VB q (h q ay)) (ih _ λq H=>h q (aB H))
theorem aR7(h:p.Ok):(qp p).length<=3/\∀q∈qp p,(q=(0,p.tu)\/q=(1,p.sh)\/q=(2,p.va)):=by unfold qp;cases decide (p.tu % 2=1)<;>cases decide (p.tu=0)<;>cases decide (p.sh=4)<;>cases decide (p.va=4)<;>simp[Lg,rW]
theorem VC(h:p.Ok)(H:0<=p.dp)(Y:p.dp< 64):(nJ p).length<=8/\∀q∈nJ p,q.2.length<=2:=by
 refine d8 (aR7 h) λl m=>?_;unfold nJ uE;have e:∀ds:List (Nat×Int),(ds.flatMap λq=>[(p.dr,tC q.1),(p.dr,eX q.2)]).length=2*ds.length:=λds=>by
  induction ds with
  |nil=>rfl|cons q ds ih=>simp only[jh,bQ,ih,eI];exact c8 (bu [] (lE (0+1+1+(Ax.m 2 Y0)) (Ax.m 2 (Y0+1))) rfl) (bu [] (lE (Ax.m 2 (Y0+1)) (0+1+1+(Ax.m 2 Y0))) rfl)
 refine⟨?_,λq hq=>?_⟩;·simp only[eI,eI,e];exact qM [lE Y0 3] (lE ((Ax.m 2 Y0)+1+1) 8) [2] 1 rfl l
 ·rcases a9.mp hq with rfl|hq
  ·exact(pc H Y).1
  rcases a9.mp hq with rfl|hq
  ·exact h.nm
  refine aO (XF.mp hq) λr J hq=>?_;rcases a9.mp hq with rfl|hq
  ·have:∀κ,(tC κ).length<=2:=λκ=>by rcases κ with _|_|_|κ<;>exact(by decide:1<=2)
   exact this _
  ·rw[bI.mp hq];rcases m r J with rfl|rfl|rfl
   ·exact(pc h.E0 h.tu).1
   ·exact(pc h.wJ (jF h.sh (by decide))).1
   ·exact(pc h.wK (jF h.va (by decide))).1
theorem VD(c:Nat):∀H:List Str,H≠[]->(∀p∈H,c ∉ p.cps.toList)->(B4 ⟨#[c]⟩ H).cps.toList.count c+1=H.length
 |[],h,_=>absurd rfl h|[p],_,h=>by show p.cps.toList.count c+1=1;rw[aYb (h p ay)]
 |p::q::r,_,h=>by show(p++⟨#[c]⟩++B4 ⟨#[c]⟩ _).cps.toList.count c+1=_;simp only[XT,XT,zb,zb,ig,ig,aYb (h p ay),show List.count c (⟨#[c]⟩:Str).cps.toList=1 from by simp];simp only[eI,<-(VD c (q::r) nofun λa H=>h a (aB H))];exact c8 (bu [] (lE (0+1+Y0+1) (Y0+1+1)) rfl) (bu [] (lE (Y0+1+1) (0+1+Y0+1)) rfl)
theorem aR8(x:Str)(c:Nat)(hc:c< 256):(kb x ⟨#[c]⟩ 0 x.length (x.length+1)).length=x.cps.toList.count c:=by
 have H:(Txt.split x ⟨#[c]⟩).length=(kb x ⟨#[c]⟩ 0 x.length (x.length+1)).length+1/\Txt.split x ⟨#[c]⟩≠[]:=by
  unfold Txt.split;split
  ·rename_i h;rcases aTz.mp h with h|h
   ·have Y:=of_decide_eq_true h;refine⟨?_,nofun⟩;induction Z:kb x ⟨#[c]⟩ 0 x.length _ with
    |nil=>rfl|cons i r=>have:=(StrLaws.occ_spec x ⟨#[c]⟩ 0 x.length (x.length+1) i (Z▸ay)).1;have e:(⟨#[c]⟩:Str).length=1:=rfl;exact c8 (nA [_,_,_,_,_] [lL Y2 1,lE (Y3+Y4) Y2,eQ Y4 1] (lE Y0 (Y1+1)) [1,1,-1] 0 rfl Y this e) (nA [_,_,_,_,_] [lL Y2 1,lE (Y3+Y4) Y2,eQ Y4 1] (lE (Y0+1) Y1) [1,1,-1] 0 rfl Y this e)
   ·have J:=of_decide_eq_true h;have e:Yk ⟨#[c]⟩=1:=by unfold Yk;rw[if_pos];simp[hc]
    rw[e]at J;unfold Yk at J;split at J;·omega
    ·split at J<;>omega
  ·split
   ·rename_i h;refine⟨?_,nofun⟩;rw[List.isEmpty_iff.mp h];rfl
   ·exact⟨aYc ..,λh=>by have:=congrArg Mz h;rw[aYc]at this;injection this⟩
 have:=VD c _ H.2 (aW0 x c);rw[(aW1 x ⟨#[c]⟩)]at this;exact c8 (cA [eQ Y2 (Y0+1),eQ (Y1+1) Y2] (lE Y0 Y1) [-1,-1] 1 rfl H.1 this) (b8 [eQ Y2 (Y1+1),eQ (Y0+1) Y2] (lE Y0 Y1) rfl H.1 this)
theorem aR9(l:List (Nat×ab)):aL l=(((l.map (·.1)).count 10:Nat):Int):=by
 induction l with
 |nil=>rfl|cons p l ih=>
  show _+aL l=_;simp only[ih,iK,List.count_cons];by_cases h:p.1=10;·rw[if_pos h,if_pos (by rw[h];rfl)];exact bw (bf [] (lE (1+Y0) (Y0+1)) rfl) (bf [] (lE (Y0+1) (1+Y0)) rfl)
  ·rw[if_neg h,if_neg (by simpa using h)];exact bw (bf [] (lE (0+Y0) (Y0+0)) rfl) (bf [] (lE (Y0+0) (0+Y0)) rfl)
theorem aSa{x:Str}{l:List (Nat×ab)}(h:l.map (·.1)=x.cps.toList):((kb x "\n" 0 x.length (x.length+1)).length:Int)=aL l:=by rw[show("\n":Str)=⟨#[10]⟩ by decide+kernel,aR8 x 10 (by decide),aR9,h]
section
set_option exponentiation.threshold 3000
def lX(x:UInt64)(k n:Int):SI:=⟨iJ x (d7 k),n,bO n⟩
theorem Lj{x:UInt64}{k n:Int}(H:lh (d7 k)=false)(h:Is (iJ x (d7 k)) z)(J:0<=z)(hn:z / 2 ^ 1074=n)(s:Sm n):(lX x k n).Ok x k:=⟨H,rfl,by have:=h.int J;rw[hn]at this;exact this,s.log,rfl⟩
theorem kU:(lh (d7 64)=false/\lh (d7 1024)=false/\lh (d7 2097152)=false/\lh (d7 4194304)=false)/\jQ (d7 64) (64*2 ^ 1074)=true/\jQ (d7 2097152) (2097152*2 ^ 1074)=true/\jQ (d7 4194304) (4194304*2 ^ 1074)=true/\jQ 4618441417868443648 (6*2 ^ 1074)=true:=by decide+kernel
theorem aSb{n:Int}(H:j<=1074):N j (n*2 ^ j)/ 2 ^ 1074=n:=by unfold N;exact rR (pk ..) (rL (wO ..) (rR (show j+_=1074 by exact c8 (aT [eQ (Y1+Y0) 1074] (lE (Y0+Y1) 1074) rfl (bY (H))) (fA [eQ (Y1+Y0) 1074] (lE 1074 (Y0+Y1)) [-1] 1 rfl (bY (H))) ..) (aT6 _ (nM (r7 (by decide))))))
theorem yJ{x:UInt64}{K n:Int}(J:K=2 ^ j)(H:j<=22)(inf:lh (d7 K)=false)(Z:jQ (d7 K) (K*2 ^ 1074)=true)(hx:Is x (N j n))(Y:0<=n)(h1:n<=4194304):(lX x K n).Ok x K:=by
 have hk:Is _ (N 0 K):=m6 Z rfl;have Z:=J▸gm (r7 (by decide));have hK1:K<=4194304:=by
  have:_ ^ j<=2 ^ 22:=FF (by decide) H;have e:((2 ^ j:Nat):Int)=2 ^ j:=by push_cast;rfl
  exact rR J (rL e (bK.mpr this))
 have b0:=ma Y Z;refine Lj inf (qR hx hk Y Z (m4 (bf [lE 0 Y0] (lE (0-9007199254740991) Y0) rfl b0) (bf [lE Y0 (Ax.m 4194304 4194304)] (lE Y0 9007199254740991) rfl (L7 h1 hK1 Z (by decide)))) (aE H (by decide))) (og b0) ?_ ⟨Y,bf [lE Y0 4194304] (lL Y0 10000000000) rfl h1⟩;simp only[aX6,J];exact aSb (aE H (by decide))
theorem wL{B F w:Int}(hB:0<=B)(Z:B<=256)(J:0<=F)(cg:F<=256)(Y:0<=w)(H:w<=32):0<=Li B F w/\Li B F w<=2097152:=by have c:=cP [lE Y0 256,lE 0 Y1] (lE 0 ((Ax.m 32 (256-Y0))+Y1)) [32,1] 1 rfl cg (ma J Y);refine⟨ma hB c,?_⟩;have:=L7 Z (hH [lE Y1 Y2,eQ Y2 (Ax.m 32 Y0)] (lE ((Ax.m 32 (256-Y0))+Y1) 8192) rfl (FE H J) (fk (F) _)) c (by decide);exact bf [lE Y0 (Ax.m 256 8192)] (lE Y0 2097152) rfl this
theorem aSc:∀P< 64,uv ((P:Nat):Int) 0=wt 0 P/\uv ((P:Nat):Int) 64=wt 64 P/\uv ((P:Nat):Int) 128=wt 128 P:=by decide+kernel
theorem VE{P:Nat}{F B:Int}(h:P< 64):lS (P:Int) F B 0=Li B F (wt 0 P)/\lS (P:Int) F B 64=Li B F (wt 64 P)/\lS (P:Int) F B 128=Li B F (wt 128 P):=by refine cJ (aSc P h) λa b c=>?_;unfold lS Li;rw[a,b,c];exact⟨rfl,rfl,rfl⟩
theorem aSd{P:Nat}{F B:Int}{D:DS}(hP:P< 64)(Y:0<=F)(J:F<=256)(hB:0<=B)(H:B<=256)(C:d9 P F B D.r D.g D.b):JE (lX D.r 2097152 (Li B F (wt 0 P))) (lX D.g 2097152 (Li B F (wt 64 P))) (lX D.b 2097152 (Li B F (wt 128 P))) D (jf " " [bO (Li B F (wt 0 P)),bO (Li B F (wt 64 P)),bO (Li B F (wt 128 P))])/\(jf " " [bO (Li B F (wt 0 P)),bO (Li B F (wt 64 P)),bO (Li B F (wt 128 P))]).length<=30:=by
 refine hO λZ Z=>qI (zD P hP) λz z w0 w1 w2=>Z ?_;have Z:=wL hB H Y J w0.1 w0.2;have l1:=wL hB H Y J w1.1 w1.2;have l2:=wL hB H Y J w2.1 w2.2;have H:∀n:Int,0<=n/\n<=2097152->(bO n).length<=8:=λn h=>aE (Ye (k:=7) h.1 (by decide) (bf [lE Y0 2097152] (lL Y0 10000000) rfl h.2)) (by decide);have k:=H _ Z;have k1:=H _ l1;have k2:=H _ l2;have VF:(jf " " [bO (Li B F (wt 0 P)),bO (Li B F (wt 64 P)),bO (Li B F (wt 128 P))]).length<=30:=by exact rR (Gg ..) (nB [_,_,_,_,_] [lE Y0 8,lE Y1 8,lE Y2 8,eQ Y3 (Ax.m 1 Y4),eQ (Y4+1) (0+1+1+1)] (lE (Y0+(Y1+(Y2+0))+Y3) 30) rfl k k1 k2 (dW _ _) (bY (dG ..)))
 refine⟨⟨yJ rfl (by decide) kU.1.2.2.1 kU.2.2.1 C.r Z.1 (bf [lE Y0 2097152] (lE Y0 4194304) rfl Z.2),yJ rfl (by decide) kU.1.2.2.1 kU.2.2.1 C.g l1.1 (bf [lE Y0 2097152] (lE Y0 4194304) rfl l1.2),yJ rfl (by decide) kU.1.2.2.1 kU.2.2.1 C.b l2.1 (bf [lE Y0 2097152] (lE Y0 4194304) rfl l2.2),rfl,?_,?_⟩,VF⟩;·exact decide_eq_false (dA.mpr (b8 [lE Y0 8,lE Y1 8,lE Y2 8] (lE (0+Y0+1+Y1+1+Y2+1) 16777216) rfl k k1 k2))
 ·exact aE VF (by decide)
theorem VG:∀P< 64,(decide ((3*((P:Nat):Int))/ 32< -(2 ^ 63:Int))||decide ((3*((P:Nat):Int))/ 32>=2 ^ 63))=false/\(pC (3*((P:Nat):Int)/ 32) ("rygcbm":Str).length).bind (("rygcbm":Str).cps[·]?)=some (bT P)/\(3*((P:Nat):Int)).fdiv 32=3*((P:Nat):Int)/ 32:=by decide+kernel
noncomputable def gV(F B:Nat):Bool:=F==0||B==0
def cG(F B:Nat):Nat:=match gV F B with
 |true=>0|false=>1
def Qd(F B:Nat):Int:=match gV F B with
 |true=>0|false=>((1024*(32*(B*F))/ min (Bo B F) (4194304 - Bo B F):Nat):Int)
def Hd(P F B:Nat):Int:=match gV F B with
 |true=>0|false=>P
theorem wM(J:F<=256)(H:B<=256):Bo B F<=4194304/\32*(B*F)<=Bo B F/\Bo B F+32*(B*F)<=4194304:=aAn H (dU _ J)
theorem aSe{P:Nat}{b:UInt64}(Z:P< 64)(Y:F<=256)(J:B<=256)(C:d9 P F B r g b):∃(h lg pu m:UInt64)(ki:Int),(∀aa:aw,aK w aa->aa.NoLimit->JF True w aa r g b h lg pu m ki (bT P) (cG F B))/\(lX pu 1024 (Qd F B)).Ok pu 1024/\(lX lg 4194304 (Bo B F)).Ok lg 4194304/\(lX h 64 (Hd P F B)).Ok h 64:=by
 refine hO λci aY=>?_;obtain⟨h,l,p,A,Il,way⟩:=aCt Z Y J C;refine aY ?_;have jl:=yJ rfl (by decide) kU.1.2.2.2 kU.2.2.2.1 Il (bG _) ((bK.mpr ((wM Y J)).1));rcases way with ⟨hF,hB,Ih,z,Iz,z0,Im,ez⟩|⟨H,rfl,rfl⟩
 ·have H:gV F B=false:=by unfold gV;simp only[beq_false_of_ne (jd (bu [lL 0 Y0] (lL 0 Y0) rfl hF):F≠0),beq_false_of_ne (jd (bu [lL 0 Y0] (lL 0 Y0) rfl hB):B≠0)];rfl
  have e1:cG F B=1:=by unfold cG;rw[H]
  have e2:Qd F B=((1024*(32*(B*F))/ min (Bo B F) (4194304 - Bo B F):Nat):Int):=by unfold Qd;rw[H]
  have e3:Hd P F B=P:=by unfold Hd;rw[H]
  refine rR e1 (rR e2 (rR e3 ?_));have i6:Is 4618441417868443648 (N 0 6):=m6 kU.2.2.2.2 rfl;have q1:1024*(32*(B*F))/ min (Bo B F) (4194304 - Bo B F)<=1024:=by refine WN ?_;have:32*_<=min _ _:=aYd.mpr ⟨(wM Y J).2.1,LJ (wM Y J).2.2⟩;exact rR (dW ..) (jG _ this)
  refine cJ (VG P Z) λt1 t2 J=>⟨h,l,p,iJ h 4618441417868443648,3*_ / 32,λaa XK NL=>⟨A aa XK NL, .inr ⟨rfl,?_,rfl,?_,t1,t2⟩⟩,?_,jl,?_⟩;·refine rR (Iz.cmp xm) (rR (show compare z 0= .gt from FC.mpr z0) ?_);rfl
  ·have:=(qR Ih i6 (bG _) (by decide) (m4 (iA [_,(P:Nat)] [eQ Y0 (Ax.m 6 Y1),lE 0 Y1] (lE (0-9007199254740991) Y0) [-1,6] 1 rfl (fk (↑P) _) (bG _)) (iA [_,(P:Nat)] [lL Y1 64,eQ Y0 (Ax.m 6 Y1)] (lE Y0 9007199254740991) [6,1] 1 rfl (cc.mpr Z) (fk (↑P) _))) (by decide)).int (og (ma (bG _) (by decide)));rw[(N6 P)]at this;exact this
  ·exact Lj kU.1.2.1 Im (cP [lL 0 Y1,eQ Y0 (Ax.m 1024 Y1)] (lE 0 Y0) [1024,-1] 1 rfl z0 (fk (z) _)) ez ⟨bG _,bf [lE Y0 1024] (lL Y0 10000000000) rfl (bK.mpr q1)⟩
  ·exact yJ rfl (by decide) kU.1.1 kU.2.1 Ih (bG _) (iB [(P:Nat)] [lL Y0 64] (lE Y0 4194304) rfl (cc.mpr Z))
 ·have Ll:gV F B=true:=by unfold gV;rcases H with h|h<;>subst h<;>simp
  have e1:cG F B=0:=by unfold cG;rw[Ll]
  have e2:Qd F B=0:=by unfold Qd;rw[Ll]
  have e3:Hd P F B=0:=by unfold Hd;rw[Ll]
  refine rR e1 (rR e2 (rR e3 ?_));refine⟨0,l,0,0,0,λaa XK NL=>⟨A aa XK NL, .inl ⟨rfl,by decide+kernel⟩⟩,?_,jl,?_⟩;·exact Lj kU.1.2.1 (mw (by decide+kernel:jQ _ 0=true)) (by decide) rfl ⟨by decide,by decide⟩
  ·exact yJ (j:=6) rfl (by decide) kU.1.1 kU.2.1 (xm) (by decide) (by decide)
end
section
set_option exponentiation.threshold 3000
def Lm(k:Nat)(n:Int)(P:Nat)(F B:Int)(Y:Nat)(H J:Int):Prop:=∃g:Nat,n=g/\(k=0/\g< 64/\Y=(P+g) % 64/\H=F/\J=B\/k=1/\g< 5/\F*g=4*H/\0<=H/\H<=256/\Y=P/\J=B\/k=2/\g< 5/\B*g=4*J/\0<=J/\J<=256/\Y=P/\H=F)
def lY(ds:List (Nat×Int)):Nat->Int->Int->Nat->Int->Int->Prop:=ds.foldr (λq R P F B H J B2=>∃P' Y Z,Lm q.1 q.2 P F B P' Y Z/\R P' Y Z H J B2) λP F B H J B2=>P=H/\F=J/\B=B2
structure Bx(P:Nat)(F B:Int):Prop where
 P:P< 64
 F0:0<=F
 F:F<=256
 B0:0<=B
 B:B<=256
theorem VH{κ:Nat}{fg:Int}{P P':Nat}{F B F' Y:Int}(D:Lm κ fg P F B P' F' Y)(H:Bx P F B){b:UInt64}(C:d9 P F B r g b):∃V:DV,κ< 3/\0<=fg/\fg< 64/\(∀aa:aw,aK w aa->aa.NoLimit->tw True w aa κ V fg r g b)/\d9 P' F' Y V.r V.g V.b/\Bx P' F' Y:=by
 refine aO D λn e D2=>?_;subst e;rcases D2 with ⟨rfl,J,rfl,rfl,rfl⟩|⟨rfl,J,h4,Z,h1,rfl,rfl⟩|⟨rfl,J,h4,Z,h1,rfl,rfl⟩
 ·obtain⟨V,a,c⟩:=aCp H.P H.F0 H.F H.B0 H.B J C;exact⟨V,by decide,bG _,cc.mpr J,a,c,uM _ (by decide),H.F0,H.F,H.B0,H.B⟩
 ·obtain⟨V,a,c⟩:=aCr H.P H.F0 H.F H.B0 H.B J h4 C;exact⟨V,by decide,bG _,cc.mpr (y4 J (by decide)),a,c,H.P,Z,h1,H.B0,H.B⟩
 ·obtain⟨V,a,c⟩:=aCs H.P H.F0 H.F H.B0 H.B J h4 C;exact⟨V,by decide,bG _,cc.mpr (y4 J (by decide)),a,c,H.P,H.F0,H.F,Z,h1⟩
def Behind(j:Nat)(H:List (Nat×List Nat))(rest:List (Nat×ab)):Prop:=match H with
 |[]=>rest=[]|_::H=>on j H rest
def jD(H:List (Nat×List Nat)):List Nat:=match H with
 |[]=>[]|q::_=>q.2
theorem VI{H:List (Nat×List Nat)}{l:List (Nat×ab)}(A:on j H l):∃rest,fb rest l (jD H)/\Behind (j+1) H rest/\rest.length<=l.length:=by
 induction H with
 |nil=>exact⟨[],aC0 A,rfl,f4 _⟩|cons q H=>exact ii (vz A) λH a b c=>⟨H,a,b,c⟩
theorem aSf{Y:List (Nat×List Nat)}(nk:tD (jD Y))(hW:(jD Y).length<=640)(ds:List (Nat×Int)):∀{P Z:Nat}{F B J B2:Int}(D:lY ds P F B Z J B2)(bx:Bx P F B){r g b:UInt64}(C:d9 P F B r g b)(q:Option (Int×UInt64×UInt64×UInt64)){j:Nat}{l:List (Nat×ab)}(H:l.length<=1000)(A:on j (uE dr ds++Y) l),∃(Dv:DS)(rest:List (Nat×ab))(j':Nat),(∀aa:aw,aK w aa->aa.NoLimit->xA True w aa (jD Y) rest Dv l r g b q)/\d9 Z J B2 Dv.r Dv.g Dv.b/\Bx Z J B2/\Behind j' Y rest/\rest.length<=l.length:=by
 induction ds with
 |nil=>intro P Z F B J B2 D bx r g b C q j l H A;obtain⟨rfl,rfl,rfl⟩:=D;exact ii (VI A) λrest a c d=>⟨⟨r,g,b,0,0,0,[],(q.getD default).1,(q.getD default).2.1,(q.getD default).2.2.1,(q.getD default).2.2.2,0,0,0,0,0,0,0,0,0,0⟩,rest,_,λaa z z=> .stop a nk hW H rfl rfl rfl (λp h=>by subst h;rfl),C,bx,c,d⟩
 |cons q0 ds ih=>intro P Z F B J B2 D bx r g b C q j l H A;refine mY D λJ J J J D'=>MP (VH (w:=w) J bx C) λV k3 f0 f1 ok C' Ln=>ii (vz A) λJ t1 J h1=>ii (vz J) λJ t2 A2 h2=>?_;obtain⟨Dv,rest,j',R,C2,b2,bh,hr⟩:=ih D' Ln C' _ (aE h2 (aE h1 H)) A2;have Y:=pc f0 f1;exact⟨Dv,rest,j',λaa Z J=> .Ou q0.1 V q0.2 _ k3 t1 t2 (aE Y.1 (by decide)) Y.2.2.2.1 H (aE h1 H) (ok aa Z J) (R aa Z J),C2,b2,bh,aE hr (aE h2 h1)⟩
theorem aSg{Y:List (Nat×List Nat)}(nk:tD (jD Y))(hW:(jD Y).length<=640){ds:List (Nat×Int)}{P P2:Nat}{F B F2:Int}(D:lY ds P F B P2 F2 B2)(bx:Bx P F B){b:UInt64}(C:d9 P F B r g b){l:List (Nat×ab)}(hl:l.length<=1000)(A:on j (uE dr ds++Y) l):∃(Dv:DS)(rest:List (Nat×ab))(j' f:Nat),(f=1\/f=2)/\(∀aa:aw,aK w aa->aa.NoLimit->∀(T:TF)(X:LX)(t2 t3 t4:ab)(e2:Nat)(H:Int),H=X.n+(aL l - aL rest)->Any True w aa 10 (qU T.L) (iq T X w (uA r g b t2 t3 t4) 0 l [] e2) (ir T X w Dv (jD Y) rest H f e2))/\d9 P2 F2 B2 Dv.r Dv.g Dv.b/\Bx P2 F2 B2/\Behind j' Y rest/\rest.length<=l.length:=by
 induction ds using px with
 |nil=>obtain⟨rfl,rfl,rfl⟩:=D;exact ii (VI A) λrest a c d=>⟨uA r g b 0 0 0,rest,_,1, .inl rfl,λaa Z J T X t2 t3 t4 e2 H hN=>aCl Z J a nk hW hl X _ e2 H hN,C,bx,c,d⟩
 |cons q ds=>refine mY D λY Y Y Y D'=>MP (VH (w:=w) Y bx C) λV k3 f0 f1 ok C' Ln=>ii (vz A) λY t1 Y h1=>ii (vz Y) λY t2 A2 h2=>?_;obtain⟨Dv,rest,j',R,C2,b2,bh,hr⟩:=aSf nk hW ds D' Ln C' _ (aE h2 (aE h1 hl)) A2;have Y:=pc f0 f1;exact⟨Dv,rest,j',2, .inr rfl,λaa Z J T X u2 u3 u4 e2 H hN=>aCm Z J q.1 V q.2 _ k3 t1 t2 (aE Y.1 (by decide)) Y.2.2.2.1 hl (aE h1 hl) _ (ok aa Z J) (R aa Z J) X e2 H hN,C2,b2,bh,aE hr (aE h2 h1)⟩
theorem lY.app{a b:List (Nat×Int)}:∀{P H J:Nat}{F B Y Z F2 B2:Int},lY a P F B H Y Z->lY b H Y Z J F2 B2->lY (a++b) P F B J F2 B2:=by
 induction a with
 |nil=>rintro P H J F B Y Z F2 B2 ⟨rfl,rfl,rfl⟩ k;exact k
 |cons q a ih=>exact λh k=>mY h λY H J d h=>⟨Y,H,J,d,ih h k⟩
theorem lY.one{n:Int}{P H:Nat}{F B J:Int}(d:Lm k n P F B H J B2):lY [(k,n)] P F B H J B2:=⟨_,_,_,d,rfl,rfl,rfl⟩
theorem VJ{P t:Nat}(F B:Int)(H:P< 64)(h:t< 64):lY (rW (decide ((t:Int)=0)) 0 t) P F B ((P+t) % 64) F B:=by
 by_cases e:(t:Int)=0
 ·obtain rfl:t=0:=Int.ofNat.inj e;exact⟨(Nat.mod_eq_of_lt H).symm,rfl,rfl⟩
 ·exact rR (decide_eq_false e) (.one ⟨t,rfl, .inl ⟨rfl,h,rfl,rfl,rfl⟩⟩)
theorem quarter{F J:Int}{a:Nat}(H:F*a=4*J)(e:(a:Int)=4):J=F:=by rw[e]at H;exact bw (jO [eQ Y2 (Ax.m 4 Y0),eQ Y2 (Ax.m 4 Y1)] (lE Y0 Y1) [-1,1] 4 rfl H (fk (F) _)) (jO [eQ Y2 (Ax.m 4 Y1),eQ Y2 (Ax.m 4 Y0)] (lE Y0 Y1) [1,-1] 4 rfl H (fk (F) _))
theorem VK{P a:Nat}{F H:Int}(B:Int)(h:a< 5)(J:F*a=4*H)(Z:0<=H)(Y:H<=256):lY (rW (decide ((a:Int)=4)) 1 a) P F B P H B:=by
 by_cases e:(a:Int)=4;·exact rR (decide_eq_true e) ⟨rfl,(quarter J e).symm,rfl⟩
 ·exact rR (decide_eq_false e) (.one ⟨a,rfl, .inr (.inl ⟨rfl,h,J,Z,Y,rfl,rfl⟩)⟩)
theorem VL{P a:Nat}{B:Int}(F:Int)(h:a< 5)(H:B*a=4*B2)(Y:0<=B2)(J:B2<=256):lY (rW (decide ((a:Int)=4)) 2 a) P F B P F B2:=by
 by_cases e:(a:Int)=4;·exact rR (decide_eq_true e) ⟨rfl,rfl,(quarter H e).symm⟩
 ·exact rR (decide_eq_false e) (.one ⟨a,rfl, .inr (.inr ⟨rfl,h,H,Y,J,rfl,rfl⟩)⟩)
theorem VM{F H:Int}{a:Nat}(J:0<=F)(h1:F<=256)(Y:a< 5)(Z:F*a=4*H):0<=H/\H<=256:=by have H:0<=F*(a:Int):=ma J (bG _);have J:=L7 h1 (by exact iB [(a:Nat)] [lL Y0 5] (lE Y0 4) rfl (cc.mpr Y)) (bG _) (by decide);rw[Z]at H J;exact⟨g9 [lE 0 (Ax.m 4 Y0)] (lE 0 Y0) [1] 4 rfl H,g9 [lE (Ax.m 4 Y0) (Ax.m 256 4)] (lE Y0 256) [1] 4 rfl J⟩
theorem Lo(b:Bool)(k:Nat)(n:Int):(rW b k n).reverse=rW b k n:=by induction b<;>rfl
theorem Lr(hp:p.Ok){P:Nat}{F B J:Int}(H:Bx P F B)(Y:F*p.sh=4*J)(Z:B*p.va=4*B2):lY (qp p) P F B ((P+p.tu.toNat) % 64) J B2:=by
 obtain⟨dp,nm,dr,tu,sh,va⟩:=p;obtain⟨z,z,z,t0,VN,a0,a4,c0,c4⟩:=hp;dsimp only at t0 VN a0 a4 c0 c4 Y Z;obtain⟨t,rfl⟩:∃t:Nat,tu=t:=⟨tu.toNat,(mS t0).symm⟩
 obtain⟨a,rfl⟩:∃a:Nat,sh=a:=⟨sh.toNat,(mS a0).symm⟩
 obtain⟨c,rfl⟩:∃c:Nat,va=c:=⟨va.toNat,(mS c0).symm⟩
 have f:=VM H.F0 H.F (cc.mp (jF a4 (by decide))) Y;have g:=VM H.B0 H.B (cc.mp (jF c4 (by decide))) Z;show lY (Lg _ _) P F B _ J B2;have a5:a< 5:=cc.mp (jF a4 (by decide));have c5:c< 5:=cc.mp (jF c4 (by decide));have t6:=cc.mp VN;induction decide ((t:Int) % 2=1)with
 |false=>exact(VJ F B H.P t6).app ((VK B a5 Y f.1 f.2).app (VL J c5 Z g.1 g.2))|true=>show lY (aXn _) ..;simp only[FW,FW,Lo,Lo,Lo];exact((VL F c5 Z g.1 g.2).app (VK B2 a5 Y f.1 f.2)).app (VJ J B2 H.P t6)
end
section
set_option exponentiation.threshold 3000
theorem Ls{n:Int}(J:0<=n)(H:n<=4194304):(bO n).length<=8:=aE (Ye (k:=7) J (by decide) (jF H (by decide))) (by decide)
def Fa(P:Nat)(F B:Int):Str:=jf " " [bO (Li B F (wt 0 P)),bO (Li B F (wt 64 P)),bO (Li B F (wt 128 P))]
theorem Fb(J:F<=256)(H:B<=256):0<=Qd F B/\Qd F B<=4194304:=by
 unfold Qd;split;·exact⟨by decide,by decide⟩
 ·refine⟨bG _,?_⟩;have b:=(wM J H).2;have:1024*(32*(B*F))/ min (Bo B F) (4194304 - Bo B F)<=1024:=by refine WN ?_;have:32*_<=min _ _:=aYd.mpr ⟨b.1,LJ b.2⟩;exact rR (dW ..) (jG _ this)
  exact bf [lE Y0 1024] (lE Y0 4194304) rfl (bK.mpr this)
theorem VO{P:Nat}(H:P< 64):0<=Hd P F B/\Hd P F B<=4194304:=by
 unfold Hd;split;·exact⟨by decide,by decide⟩
 ·exact⟨(bG _),iB [(P:Nat)] [lL Y0 64] (lE Y0 4194304) rfl (cc.mpr H)⟩
structure Read(w:aj)(p:PR)(P2 F2 B2:Nat)(r g b:UInt64)(l:List (Nat×ab))(ws:List (Nat×List Nat))(V:mR):Prop where
 hd:V.d=p.dp
 hr:V.r=r
 hg:V.g=g
 hb:V.b=b
 hl:V.l=l
 hF:V.F=p.nm
 hW:V.W=jD ws
 C:d9 P2 F2 B2 V.Dv.r V.Dv.g V.Dv.b
 bh:∃j,Behind j ws V.l2
 hz:V.l2.length<=l.length
 ok:∀f c,az.g ⟨f,c,bT P2⟩=cG F2 B2->V.Ok w ⟨f,c,bT P2⟩
 J:V.J=Fa P2 F2 B2
 j1:V.J1.s=bO (Qd F2 B2)
 j2:V.J2.s=bO (Bo B2 F2)
 j3:V.J3.s=bO (Hd P2 F2 B2)
theorem row_read(hp:p.Ok){P F2 B2:Nat}(hP:P< 64)(hF:F<=256)(hB:B<=256)(h4:(F:Int)*p.sh=4*F2)(h5:(B:Int)*p.va=4*B2){b:UInt64}(C:d9 P F B r g b){J:List (Nat×List Nat)}(nk:tD (jD J))(hW:(jD J).length<=640){l:List (Nat×ab)}(hl:l.length<=1000)(A:on j ((p.dr,p.nm)::(uE p.dr (qp p)++J)) l):∃V:mR,Read w p ((P+p.tu.toNat) % 64) F2 B2 r g b l J V:=by
 refine ii (vz A) λl1 t1 A1 h1=>?_;have bx:Bx P F B:=⟨hP,bG _,bK.mpr hF,bG _,bK.mpr hB⟩
 refine hO λci aY=>?_;obtain⟨Dv,l2,j',f,hf,an,Z,H,bh,hr⟩:=aSg nk hW (Lr hp bx h4 h5) bx C (aE h1 hl) A1;refine aY ?_;have Lu:=H.P;have cg:=bK.mp H.F;have Y:=bK.mp H.B;refine hO λkB d5=>?_;obtain⟨h,lg,pu,m,ki,hl_,j1,j2,j3⟩:=aSe Lu cg Y Z;obtain⟨co,jl⟩:=aSd Lu H.F0 H.F H.B0 H.B Z;refine d5 ?_;have q:=Fb cg Y;have hd:=VO (F:=F2) (B:=B2) Lu;exact⟨⟨p.dp,r,g,b,p.nm,Dv,f,h,lg,pu,m,ki,lX ..,lX ..,lX ..,Fa ..,lX ..,lX ..,lX ..,l,l1,l2,jD J⟩,⟨rfl,rfl,rfl,rfl,rfl,rfl,rfl,Z,⟨j',bh⟩,aE hr h1,λH c Z=>⟨t1,hl,aE hp.nm (by decide),hf,an,λaa J H=>Z▸hl_ aa J H,co,j1,j2,j3,jl,aE (Ls q.1 q.2) (by decide),aE (Ls (bG _) (bK.mpr ((wM cg Y).1))) (by decide),aE (Ls hd.1 hd.2) (by decide)⟩,rfl,rfl,rfl,rfl⟩⟩
end
section
set_option exponentiation.threshold 3000
noncomputable abbrev cL(s:Str):List Nat:=s.cps.toList
theorem cX(a b:Str):cL (a++b)=cL a++cL b:=by show(a.cps++b.cps).toList=_;exact rR zb rfl
theorem aSh{a b:Str}(h:cL a=cL b):a=b:=congrArg Str.mk (aX5.mp h)
theorem VP{n:Int}(h:0<=n):∀c∈cL (bO n),48<=c/\c<=57:=λc J=>by obtain⟨m,rfl⟩:=Yl h;rw[show bO (m:Int)=⟨((Nat.toDigits 10 m).map Char.toNat).toArray⟩from text_ofNat m]at J;refine aO (bq.mp J) λd Y H=>?_;subst H;have:=Nat.isDigit_of_mem_toDigits (by decide) (by decide) Y;unfold Char.isDigit at this;simp only[gy,decide_eq_true_eq]at this;exact this
noncomputable def pg(c:Nat):Bool:=!(c==38||(c==60||(c==62||(c==34||(c==9||(c==10||c==13))))))
theorem yK{c:Nat}{z l:List Nat}(h:∀k∈l,k≠c):cV c z l=l:=AD c z l λm=>h c m rfl
theorem aSi{c:Nat}(h:pg c=true):c≠38/\c≠60/\c≠62/\c≠34/\c≠9/\c≠10/\c≠13:=by unfold pg at h;simpa using h
theorem Lw{l:List Nat}(h:∀k∈l,pg k=true):qg l=l:=by have g:=λk H=>aSi (h k H);unfold qg;simp only[yK λk H=>(g k H).1,yK λk H=>(g k H).2.1,yK λk H=>(g k H).2.2.2.1,yK λk H=>(g k H).2.2.2.2.1,yK λk H=>(g k H).2.2.2.2.2.1,yK λk H=>(g k H).2.2.2.2.2.2]
theorem aSj(a b:List Nat):qg (a++b)=qg a++qg b:=by unfold qg;simp only[AE]
theorem aSk(a b:List Nat):oN (a++b)=oN a++oN b:=by unfold oN;simp only[AE]
theorem aSl:∀c∈signs,qg [c]=cL (rN true c)/\oN [c]=cL (rN false c):=by decide+kernel
theorem aSm(a:Bool)(nm:List Nat):cL (gQ a nm)=nm.flatMap λc=>cL (rN a c):=by unfold gQ;exact rR (show cL _=_ from E8 _ ..) (rR (List.flatMap_map ..) rfl)
theorem Fc:∀{nm:List Nat},(∀c∈nm,c∈signs)->qg nm=cL (gQ true nm)/\oN nm=cL (gQ false nm)
 |[],_=>⟨rfl,rfl⟩|c::nm,h=>by obtain⟨a,b⟩:=Fc λk H=>h k (aB H);obtain⟨Y,J⟩:=aSl c (h c ay);have e:c::nm=[c]++nm:=rfl;simp only[aSm,e,aSj,aSk,a,b,Y,J,za,za];exact⟨by simp,by simp⟩
theorem Fd{n:Int}(h:0<=n):∀k∈cL (bO n),pg k=true:=λk H=>by
 have:∀k,48<=k->k<=57->pg k=true:=λk a b=>by exact(by decide+kernel:∀k< 58,48<=k->pg k=true) k (Nat.lt_succ_of_le b) a
 exact this k (VP h k H).1 (VP h k H).2
theorem Lx{n:Int}(h:0<=n):cL (iD (bO n))=cL (bO n):=Lw (Fd h)
theorem VQ(a b c:Str):cL (jf " " [a,b,c])=cL a++(cL " "++(cL b++(cL " "++cL c))):=by show(a.cps++(" ":Str).cps++b.cps++(" ":Str).cps++c.cps).toList=_;simp only[zb,bH]
theorem aSn(J:0<=a)(Y:0<=b)(Z:0<=c):cL (iD (jf " " [bO a,bO b,bO c]))=cL (bO a)++(cL " "++(cL (bO b)++(cL " "++cL (bO c)))):=by
 refine rL (VQ ..) (Lw λk hk=>?_);rw[show(jf " " [bO a,bO b,bO c]).cps.toList=_ from VQ _ _ _]at hk;have H:∀k∈cL " ",pg k=true:=by decide+kernel
 simp only[cr]at hk;rcases hk with hk|hk|hk|hk|hk
 ·exact Fd J k hk
 ·exact H k hk
 ·exact Fd Y k hk
 ·exact H k hk
 ·exact Fd Z k hk
def nK(b:Bool)(p:Option Str):List Nat:=(i7 b p).flatMap cL
theorem aSo(b:Bool)(x:Str):nK b (some x)=oN (cL (iZ b x)):=by
 show(oQ b x).flatMap cL=_;unfold oQ;split
 ·rename_i h;show []=oN (iZ b x).cps.toList;rw[h];rfl
 ·simp only[jh,nS,dR]
def names:List (List Nat):=nc ([]::(signs.map λa=>[a])++signs.flatMap λa=>signs.map λb=>[a,b])
theorem VR(h:nm.length<=2)(H:∀c∈nm,c∈signs):nm∈names:=by
 match nm,h,H with
 |[],_,_=>exact ay|[a],_,H=>exact aB (bL _ (b7 (H a ay)))|[a,b],_,H=>exact aB (bD _ (XF.mpr ⟨a,H a ay,b7 (H b (aB ay))⟩))|a::b::c::r,h,_=>exact absurd h (by simp)
theorem Ly:∀nm∈names,pK (aW nm)=aW (lW nm)/\(lW nm).length<=2/\(∀c∈lW nm,c∈signs)/\Yb (" \t\n\r":Str).cps.contains true true (aW nm)=aW (lW nm)/\(MI (" \t\n\r":Str).cps.contains true true (aW nm)=true->aW nm=aW (lW nm)):=by decide+kernel
end
section
set_option exponentiation.threshold 3000
theorem aSp{P:Nat}(J:P< 64):EI P F B=8192*(B:Int)/\EJ P F B=8192*(B:Int) - 32*((B:Int)*F):=by
 refine hO λci aY=>?_;obtain⟨e0,e1,e2⟩:=VE J;refine qI (zD P J) λqS h0 w0 w1 w2=>aY ?_;have X:0<=(B:Int)*F:=ma (bG _) (bG _);have Z:∀w:Int,0<=w/\w<=32->8192*(B:Int) - 32*((B:Int)*F)<=Li B F w/\Li B F w<=8192*_:=λw J=>by have a:=ma X J.1;have b:=FE J.2 X;rw[vv];generalize (B:Int)*F=Y at a b ⊢;exact⟨iB [(B:Nat),_,_] [lE 0 Y2] (lE ((Ax.m 8192 Y0)-(Ax.m 32 Y1)) ((Ax.m 8192 Y0)-(Ax.m 32 Y1)+Y2)) rfl a,iB [(B:Nat),_,_,_] [lE Y2 Y3,eQ Y3 (Ax.m 32 Y1)] (lE ((Ax.m 8192 Y0)-(Ax.m 32 Y1)+Y2) (Ax.m 8192 Y0)) rfl b (fk (Y) _)⟩
 have H:∀w:Int,w=32->8192*(B:Int)=Li B F w:=λw h=>by simp only[vv,h];generalize (B:Int)*F=Y;exact bw (iA [(B:Nat),_,_] [eQ Y2 (Ax.m 32 Y1)] (lE (Ax.m 8192 Y0) ((Ax.m 8192 Y0)-(Ax.m 32 Y1)+Y2)) [-1] 1 rfl (fk (Y) _)) (iB [(B:Nat),_,_] [eQ Y2 (Ax.m 32 Y1)] (lE ((Ax.m 8192 Y0)-(Ax.m 32 Y1)+Y2) (Ax.m 8192 Y0)) rfl (fk (Y) _))
 have J:∀w:Int,w=0->8192*(B:Int) - 32*((B:Int)*F)=Li B F w:=λw h=>by simp only[vv,h,yN,uG]
 unfold EI EJ;rw[e0,e1,e2];exact⟨YO (qS.imp (H _) (Yh (H _) (H _))) (Z _ w0).2 (Z _ w1).2 (Z _ w2).2,YP (h0.imp (J _) (Yh (J _) (J _))) (Z _ w0).1 (Z _ w1).1 (Z _ w2).1⟩
theorem aSq(H:F<=256):8192*(B:Int)+(8192*(B:Int) - 32*((B:Int)*F))=(Bo B F:Nat):=aAo (dU B H)
theorem aSr:8192*(B:Int) - (8192*(B:Int) - 32*((B:Int)*F))=((32*(B*F):Nat):Int):=by simp only[<-aT1];generalize B*F=X;exact bw (iB [(B:Nat),(X:Nat)] [] (lE ((Ax.m 8192 Y0)-((Ax.m 8192 Y0)-(Ax.m 32 Y1))) (Ax.m 32 Y1)) rfl) (iB [(X:Nat),(B:Nat)] [] (lE (Ax.m 32 Y0) ((Ax.m 8192 Y1)-((Ax.m 8192 Y1)-(Ax.m 32 Y0)))) rfl)
structure Nums(ys:List PW)(r:FR)(P F B:Nat):Prop where
 eP:fv ys r=P
 eF:j6 ys r=F
 eB:j7 ys r=B
 pT:P< 64
 rY:F<=256
 uF:B<=256
section
variable {r:FR}{P:Nat}(H:Nums ys r P F B)
include H
theorem Nums.l:gS ys r 0=Li B F (wt 0 P)/\gS ys r 64=Li B F (wt 64 P)/\gS ys r 128=Li B F (wt 128 P):=by unfold gS;simp only[H.eP,H.eF,H.eB];exact VE H.pT
theorem Nums.mx:kO ys r=8192*(B:Int)/\kP ys r=8192*(B:Int) - 32*((B:Int)*F):=by unfold kO kP;simp only[H.eP,H.eF,H.eB];exact aSp H.pT
theorem Nums.bo:kO ys r+kP ys r=(Bo B F:Nat):=by simp only[H.mx.1,H.mx.2,aSq H.rY]
theorem Nums.ap:kO ys r - kP ys r=((32*(B*F):Nat):Int):=by simp only[H.mx.1,H.mx.2,aSr]
theorem Nums.d:gg ys r=!gV F B:=by
 unfold gg;refine rR H.ap ?_;induction F using r8 with
 |zero=>rfl|succ F=>
  induction B with
  |zero=>refine rR (BB ..) ?_;rfl|succ B=>have:0<(B+1)*(F+1):=BN (BO _) (BO _);exact decide_eq_true (iA [((B+1)*_:Nat)] [lL 0 Y0] (lL 0 (Ax.m 32 Y0)) [32] 1 rfl (cc.mpr this))
theorem Nums.q:lV (gg ys r) (rQ ys r)=Qd F B:=by
 rw[H.d];unfold Qd;induction J:gV F B with
 |true=>rfl|false=>unfold rQ wC;refine rR H.ap (rR H.bo ?_);have e:min _ (4194304 - _)=((min _ _:Nat):Int):=MU ((wM H.rY H.uF).1);simp only[e,show _*_=_ by push_cast;rfl];rw[BE _ (bG _)];rfl
theorem Nums.h:lV (gg ys r) (fv ys r)=Hd P F B:=by refine rR H.d (rR H.eP ?_);unfold Hd;induction gV F B<;>rfl
theorem Nums.x:bT (fv ys r)=bT P:=rR H.eP rfl
end
def jE(ys:List PW)(P F B:Nat):Nat:=match gV F B with
 |true=>0|false=>match ys.any λy=>decide (y.tg=gO (bT P))with
  |true=>1|false=>2
theorem Lz(ys:List PW)(P F B:Nat)(f:Option (Nat×Nat)):az.g ⟨f,jE ys P F B,bT P⟩=cG F B:=by
 unfold jE cG;induction gV F B with
 |true=>rfl|false=>cases ys.any λy=>decide (y.tg=gO _)<;>rfl
theorem lits:cL "<"=[60]/\cL "c"=[99]/\cL ":"=[58]/\cL " "=[32]/\cL "=\""=[61,34]/\cL "\""=[34]/\cL ">"=[62]/\cL " xmlns:"=32::cL "xmlns:"/\cL "=\"urn:"=[61,34,117,114,110,58]/\cL " c=\""=[32,99,61,34]/\cL "\" h=\""=[34,32,104,61,34]/\cL "\" l=\""=[34,32,108,61,34]/\cL lU=[32,110,61,34]/\cL "\" s=\""=[34,32,115,61,34]/\cL "\">"=[34,62]/\cL pG=[]/\cL "</"=[60,47]:=by decide+kernel
theorem Br{b:Bool}{x y:Nat}(J:pg x=true)(H:pg y=true):pg (cond b x y)=true:=by
 induction b with
 |false=>exact H|true=>exact J
theorem aSs(P:Nat):cL (iD (bv (bT P)))=[117,114,110,58,bT P]:=by have:∀k∈([117,114,110,58,bT P]:List Nat),pg k=true:=w7.mpr ⟨by decide,w7.mpr ⟨by decide,w7.mpr ⟨by decide,w7.mpr ⟨by decide,w7.mpr ⟨(Br (by decide) (Br (by decide) (Br (by decide) (Br (by decide) (Br (by decide) (by decide)))))),nofun⟩⟩⟩⟩⟩;exact Lw this
end
variable {x:Str}{h:aw}{l:List (Nat×ab)}{d:Option af}
section
set_option exponentiation.threshold 3000
theorem aSt(h:nm∈names)(H:∀c∈nm,c∈signs)(b:Bool):nK b (some (aW nm))=cL (gQ false (rP b nm (lW nm))):=by
 rw[aSo];induction b with
 |false=>exact(Fc H).2|true=>refine zh (Ly nm h) λe z H z=>?_;show oN (cL (pK _))=_;exact rR e ((Fc H).2)
theorem VS(k v:Str):cL (fS k v)=32::(cL k++(61::34::(cL (iD v)++[34]))):=by refine hO λH H=>H ?_;simp only[cX,cX,cX,cX,cX,lits.2.2.2.1,lits.2.2.2.2.1,lits.2.2.2.2.2.1,lits.2.2.2.2.2.2.2.2.2.2.2.2.2.2.2.1];simp
theorem aSu(a b c d e:Int):cL (iH a b c d e)=[32,99,61,34]++(cL (bO a)++(32::(cL (bO b)++(32::(cL (bO c)++([34,32,104,61,34]++(cL (bO d)++([34,32,108,61,34]++(cL (bO e)++[34]))))))))):=by refine hO λH H=>H ?_;unfold iH;simp only[cX,cX,cX,cX,cX,cX,cX,cX,cX,cX,lits.2.2.2.1,lits.2.2.2.2.2.1,lits.2.2.2.2.2.2.2.2.2.1,lits.2.2.2.2.2.2.2.2.2.2.1,lits.2.2.2.2.2.2.2.2.2.2.2.1];simp
theorem aSv(q:Int):cL (j5 q)=[34,32,115,61,34]++(cL (bO q)++[34,62]):=by refine hO λH H=>H ?_;unfold j5;simp only[cX,cX,lits.2.2.2.2.2.2.2.2.2.2.2.2.2.1,lits.2.2.2.2.2.2.2.2.2.2.2.2.2.2.1];rfl
theorem aSw{P:Nat}(hP:P< 64)(H:F<=256)(J:B<=256)(hs:∀c∈nm,c∈signs){a:AT}(an:a.n=aW nm)(ac:a.c=Fa P F B)(LA:a.s=bO (Qd F B))(al:a.l=bO (Bo B F))(ah:a.h=bO (Hd P F B))(X:List Nat):(nu a).flatMap cL++(62::X)=cL (iH (Li B F (wt 0 P)) (Li B F (wt 64 P)) (Li B F (wt 128 P)) (Hd P F B) (Bo B F))++(cL lU++(cL (gQ true nm)++(cL (j5 (Qd F B))++X))):=by
 refine hO λY aY=>qI (zD P hP) λz z Z Y w2=>aY ?_;have e1:cL (iD a.c)=cL (bO (Li B F (wt 0 P)))++(cL " "++(cL (bO (Li B F (wt 64 P)))++(cL " "++cL (bO (Li B F (wt 128 P)))))):=by simp only[ac];exact aSn ((wL (bG B) (bK.mpr J) (bG F) (bK.mpr H) Z.1 Z.2).1) ((wL (bG B) (bK.mpr J) (bG F) (bK.mpr H) Y.1 Y.2).1) ((wL (bG B) (bK.mpr J) (bG F) (bK.mpr H) w2.1 w2.2).1)
 have e2:cL (iD a.h)=cL _:=rR ah (Lx (VO hP).1);have Y:cL (iD a.l)=cL _:=rR al (Lx (bG _));have Z:cL (iD a.s)=cL _:=rR LA (Lx (Fb H J).1);have H:cL (iD a.n)=cL _:=rR an ((Fc hs).1);unfold nu;simp only[jh,nS,VS,e1,e2,Y,Z,H,aSu,aSv,lits.2.2.2.2.2.2.2.2.2.2.2.2.1,lits.2.2.2.1,bH,sj,uP];rfl
theorem aSx{r:FR}{P:Nat}(H:Nums ys r P F B)(hn:r.nm∈names)(hs:∀c∈r.nm,c∈signs)(b:Bool)(f:Option (Nat×Nat)){a:AT}(an:a.n=aW r.nm)(ac:a.c=Fa P F B)(LA:a.s=bO (Qd F B))(al:a.l=bO (Bo B F))(ah:a.h=bO (Hd P F B))(T:Str):cL (uy b r T ys)=cL T++((az.ws ⟨f,jE ys P F B,bT P⟩ a).flatMap cL++nK b (some (aW r.nm))):=by
 obtain⟨J,l2,l3,Z,Z,l6,l7,l8,l9,Z,Z,Z,Z,Z,Z,l16,_⟩:=lits;have Z:=aSw H.pT H.rY H.uF hs an ac LA al ah (nK b (some (aW r.nm)));have Y:∀l:List Str,cL (mH l)=l.flatMap cL:=E8;have tl:cL (uy b r T ys)=cL (rS ys r (T++"<"++fT ys r))++((nu a).flatMap cL++(62::nK b (some (aW r.nm)))):=by rw[Z];unfold uy;refine rR (H.l.1 ..) (rR (H.l.2.1 ..) (rR (H.l.2.2 ..) (rR (H.h ..) (rR (H.bo ..) (rR (H.q ..) (rR (aSt hn hs ..) ?_))))));simp only[cX,bH]
 rw[tl];unfold az.ws jE rS yA fT;refine rR H.d (rR H.x ?_);induction gV F B with
 |true=>
  show cL (T++"<"++"c")++_=cL T++([("<":Str)++cS,mH (nu a),">"].flatMap cL++_)
  simp only[jh,nS,cX,Y,J,l2,l7,bH,sj,uP];rfl
 |false=>
  have H:rO (!false) (bT P)=gO (bT P):=rfl;have eq:cL (iw (bT P))=[bT P,58,99]:=by rw[cX,cX,cX,l16,l3];rfl
  refine rR H ?_;induction ys.any λy=>decide (y.tg=gO (bT P))with
  |true=>
   show cL (T++"<"++gO (bT P))++_=cL T++([("<":Str)++iw (bT P),mH (nu a),">"].flatMap cL++_)
   simp only[jh,nS,cX (T++"<"),cX T,cX "<" (iw _),eq,Y,J,l7,bH,sj,uP];rfl
  |false=>
   show cL (wz (T++"<"++gO (bT P)) (bT P))++_=cL T++([("<":Str)++iw (bT P),mH (fS (ru (bT P)) (bv (bT P))::nu a),">"].flatMap cL++_)
   have H:cL (ru (bT P))=cL "xmlns:"++[bT P]:=cX _ _;have e2:cL (wz (T++"<"++gO (bT P)) (bT P))=cL T++(60::bT P::58::99::32::(cL "xmlns:"++(bT P::61::34::117::114::110::58::bT P::[34]))):=by unfold wz;rw[cX,cX,cX,cX,cX,cX,cX,J,l6,l8,l9];show((((((cL T++[60])++[bT P,58,99])++_)++[bT P])++_)++[bT P])++[34]=_;simp only[bH,sj,uP]
   rw[e2];simp only[jh,nS,cX "<" (iw _),eq,Y,VS,H,aSs,J,l7,bH,sj,uP]
end
section
set_option exponentiation.threshold 3000
abbrev i8:Type:=Str×List PW
def eC(k:Nat)(S:i8):i8:=(nH (S.2.take (S.2.length - k)) S.1,S.2.drop (S.2.length - k))
def Fe(b:Bool)(r:FR)(S:i8):i8:=(uy b r S.1 S.2,⟨fT S.2 r,fv S.2 r,j6 S.2 r,j7 S.2 r⟩::S.2)
theorem step_eq(b:Bool)(S:i8)(r:FR):gw b S r=Fe b r (eC r.dp.toNat S):=rfl
theorem VT:∀(a c:List PW)(T:Str),nH (a++c) T=nH c (nH a T)
 |[],_,_=>rfl|_::a,c,_=>VT a c _
theorem Bt{S:i8}(h:S.2.length<=k):eC k S=S:=by unfold eC;refine rR (BM h) ?_;rfl
theorem LB(h:k<=j)(S:i8):eC k (eC j S)=eC k S:=by
 by_cases H:S.2.length<=j;·exact rR (Bt H) rfl
 ·obtain⟨T,ys⟩:=S;have J:=Nat.le_of_not_le H;unfold eC;refine rR (Gj ..) (rR (List.drop_drop ..) (rL (VT ..) (rR (MV J h ..) ?_)));exact rL List.take_add (rR (MV J h) rfl)
theorem aSz(T:Str)(y:PW)(ys:List PW)(h:ys.length=k):eC k (T,y::ys)=(T++"</"++y.tg++">",ys):=by unfold eC;simp only[eI,h,show k+1 - k=1 by exact c8 (aT [eQ (Y0+Y1) (Y1+1)] (lE Y0 1) rfl (bY (fG ..))) (fA [eQ (Y0+Y1) (Y1+1)] (lE 1 Y0) [-1] 1 rfl (bY (fG ..)))];rfl
theorem aS0{b:Bool}(S:i8)(r:FR)(h:r.dp.toNat<=k):gw b (eC k S) r=gw b S r:=by simp only[step_eq,step_eq,LB h]
theorem aS1{b:Bool}(S:i8):∀H:List FR,(∀r,H.head?=some r->r.dp.toNat<=k)->eC k (H.foldl (gw b) (eC k S))=eC k (H.foldl (gw b) S)
 |[],_=>by simp only[aYe,aYe,LB (a8 k)]
 |r::H,h=>by simp only[Gf,Gf,aS0 S r (h r rfl)]
noncomputable abbrev fF(p:PR):FR:=p.at_ (λ_=>0) 0
inductive ka:List PW->Nat->Nat->Nat->Prop
 |nil:ka [] 0 256 256
 |cons {ys P F B:_} (p:PR) (F2 B2:Nat):ka ys P F B->p.Ok->ys.length<=3->(F:Int)*p.sh=4*F2->(B:Int)*p.va=4*B2->ka (⟨fT ys (fF p),fv ys (fF p),j6 ys (fF p),j7 ys (fF p)⟩::ys) ((P+p.tu.toNat) % 64) F2 B2
structure VU(ys:List PW)(P F B:Nat):Prop where
 a:wB ys=((P:Int),(F:Int),(B:Int))
 p:P< 64
 f:F<=256
 b:B<=256
 df:4 ^ (4 - ys.length) ∣ F
 db:4 ^ (4 - ys.length) ∣ B
theorem Ff{H:Nat}{s:Int}(Y:0<=s)(J:s<=4)(h:(F:Int)*s=4*H)(hn:n<=3)(Z:F<=256)(d:4 ^ (4 - n) ∣ F):H<=256/\4 ^ (4 - (n+1)) ∣ H:=by
 obtain⟨t,rfl⟩:=Yl Y;have h':F*t=4*H:=by exact_mod_cast h
 refine⟨?_,?_⟩
 ·have:=Nat.mul_le_mul Z (bK.mp J);exact fA [eQ Y1 (.m 4 Y0),lE Y1 (.m 256 4)] (lE Y0 256) [-1,1] 4 rfl h' this
 ·obtain⟨c,rfl⟩:=d;refine⟨c*t,?_⟩;have e:4 - n=(4 - _)+1:=s1 hn;simp only[e,XV]at h';have:4*(4 ^ (4 - (n+1))*(c*t))=4*H:=by refine rL h' ?_;ac_rfl
  exact c8 (fA [eQ (.m 4 Y1) (.m 4 Y0)] (lE Y0 Y1) [-1] 4 rfl this) (fA [eQ (.m 4 Y0) (.m 4 Y1)] (lE Y0 Y1) [1] 4 rfl this)
theorem Fg{s:Int}(H:0<=s)(hn:n<=3)(d:4 ^ (4 - n) ∣ F):∃J:Nat,(F:Int)*s=4*J:=by obtain⟨t,rfl⟩:=Yl H;obtain⟨c,rfl⟩:=d;refine⟨4 ^ (4 - (n+1))*c*t,?_⟩;simp only[(s1 hn),XV];push_cast;ac_rfl
theorem Fh{P J B2:Nat}(S:VU ys P F B)(H:p.Ok)(Y:ys.length<=3)(Z:(F:Int)*p.sh=4*J)(h5:(B:Int)*p.va=4*B2):Nums ys (fF p) ((P+p.tu.toNat) % 64) J B2:=by
 refine⟨?_,?_,?_,uM _ (by decide),(Ff H.wJ H.sh Z Y S.f S.df).1,(Ff H.wK H.va h5 Y S.b S.db).1⟩
 ·show((wB ys).1+p.tu).fmod 64=_;refine rR S.a ?_;show((P:Int)+p.tu).fmod 64=_;exact rR (Gh _ (by decide)) (YQ H.E0)
 ·show((wB ys).2.1*p.sh).fdiv 4=_;exact rR S.a (rR Z (rR (BE _ (by decide)) (bw (iA [_,(J:Nat)] [lE (Ax.m 4 Y0) (Ax.m 4 Y1)] (lE Y0 Y1) [1] 4 rfl (B6 (by decide))) (iA [(J:Nat),_] [lL (Ax.m 4 Y0) ((Ax.m 4 Y1)+4)] (lE Y0 Y1) [1] 4 rfl (B5 (by decide))))))
 ·show((wB ys).2.2*p.va).fdiv 4=_;exact rR S.a (rR h5 (rR (BE _ (by decide)) (bw (iA [_,(B2:Nat)] [lE (Ax.m 4 Y0) (Ax.m 4 Y1)] (lE Y0 Y1) [1] 4 rfl (B6 (by decide))) (iA [(B2:Nat),_] [lL (Ax.m 4 Y0) ((Ax.m 4 Y1)+4)] (lE Y0 Y1) [1] 4 rfl (B5 (by decide))))))
theorem ka.facts{P:Nat}(h:ka ys P F B):VU ys P F B:=by
 induction h with
 |nil=>exact⟨rfl,by decide,by decide,by decide,⟨1,rfl⟩,⟨1,rfl⟩⟩|cons p F2 B2 _ hp hl h4 h5 ih=>have n:=Fh ih hp hl h4 h5;have f:=Ff hp.wJ hp.sh h4 hl ih.f ih.df;have g:=Ff hp.wK hp.va h5 hl ih.b ih.db;refine⟨?_,n.pT,f.1,g.1,f.2,g.2⟩;show(fv _ _,j6 _ _,j7 _ _)=_;simp only[n.eP,n.eF,n.eB]
theorem ka.drop{P:Nat}(h:ka ys P F B):∀k,∃P F B,ka (ys.drop k) P F B:=by
 induction h with
 |nil=>exact λk=>rR Yg ⟨_,_,_, .nil⟩|cons p F2 B2 h hp hl h4 h5 ih=>
  intro k;induction k with
  |zero=>exact⟨_,_,_, .cons p F2 B2 h hp hl h4 h5⟩|succ k=>exact ih k
def yL(ys:List PW)(xs:List Nat):Prop:=∀x,x∈xs ↔ (ys.any λy=>decide (y.tg=gO x))=true
theorem VV{x z:Nat}(h:gO x=gO z):x=z:=(List.cons.inj (congrArg cL h)).1
theorem aS2{r:FR}{P:Nat}(h:yL ys xs)(n:Nums ys r P F B)(f:Option (Nat×Nat)):yL (⟨fT ys r,fv ys r,j6 ys r,j7 ys r⟩::ys) (az.xs ⟨f,jE ys P F B,bT P⟩ xs):=by
 intro z;have Y:fT ys r=rO (!gV F B) (bT P):=by unfold fT;rw[n.d,n.x]
 refine rR Y ?_;have H:=h z;unfold az.xs jE;dsimp only;induction Y:gV F B with
 |true=>exact H|false=>
  show _ ↔ (decide (gO _=gO z)||_)=true;induction J:ys.any λy=>decide (y.tg=gO _)with
  |true=>
   show z∈xs ↔ _;rw[MA,decide_eq_true_iff];constructor;·exact λq=> .inr (H.mp q)
   ·rintro (q|q);·exact rL (VV q) ((h _).mpr J)
    ·exact H.mpr q
  |false=>
   show z∈bT P::xs ↔ _;rw[MA,decide_eq_true_iff,a9];constructor
   ·rintro (q|q);·exact rR q (.inl rfl)
    ·exact .inr (H.mp q)
   ·rintro (q|q);·exact .inl (VV q).symm
    ·exact .inr (H.mpr q)
theorem Bu{b:Bool}{x y:Nat}{l:List Nat}(J:x∈l)(H:y∈l):cond b x y∈l:=by
 induction b with
 |false=>exact H|true=>exact J
theorem VW(P:Nat):bT P∈dS:=Bu (by decide) (Bu (by decide) (Bu (by decide) (Bu (by decide) (Bu (by decide) (by decide)))))
theorem VX(h:yL ys xs)(P F B:Nat)(f:Option (Nat×Nat))(J:f≠none\/ys=[]):az.Fits ⟨f,jE ys P F B,bT P⟩ xs:=by
 refine⟨?_⟩;have Y:=h (bT P);unfold jE;dsimp only;induction Z:gV F B with
 |true=>exact .inl rfl|false=>
  induction H:ys.any λy=>decide (y.tg=gO _)with
  |true=>
   refine .inr (.inl ⟨rfl,?_,VW P,Y.mpr H⟩);rcases J with J|rfl
   ·exact J
   ·injection H
  |false=>exact .inr (.inr ⟨rfl,VW P,λq=>by replace H:=(Y.mp q)▸H;injection H⟩)
end
section
set_option exponentiation.threshold 3000
def lZ(H:List PR):List (Nat×List Nat):=H.flatMap nJ
def Chain:List PR->Prop
 |[]=>True|q::rs=>(q.Ok/\1<=q.dp/\q.dp<=3)/\(∀r,rs.head?=some r->r.dp<=q.dp+1)/\Chain rs
theorem Chain.suffix:∀{a b:List PR},Chain (a++b)->Chain b
 |[],_,h=>h|_::_,_,h=>Chain.suffix h.2.2
abbrev i9(b:Bool)(S:i8)(H:List PR):i8:=(H.map fF).foldl (gw b) S
structure VY(w:aj)(b:Bool)(xs:List Nat)(d:Nat)(r g bl:UInt64)(S:i8)(Wr:List Nat)(fU:Option Str)(l:List (Nat×ab))(rs below after:List PR)(o:List Str)(l2:List (Nat×ab))(p2:Option Str):Prop where
 split:rs=below++after
 hd:∀r,after.head?=some r->r.dp<=d
 kids:∃m,rE w (16 - d) xs (d+1) b d r g bl l2 (jD (lZ after)) p2 m fU l (jD (lZ rs)) o
 bh:∃j,Behind j (lZ after) l2
 hz:l2.length<=l.length
 st:(eC (d+1) (i9 b S below)).2=S.2
 tx:cL (eC (d+1) (i9 b S below)).1=Wr++(o.flatMap cL++nK b p2)
 p2:o8 b p2
 n:o.length<=6*below.length
def LC(w:aj)(b:Bool)(n:Nat):Prop:=∀(Y:List PR)(d:Nat)(S:i8)(xs:List Nat)(P F B:Nat)(r g bl:UInt64)(Wr:List Nat)(Z:Option Str)(l:List (Nat×ab))(j:Nat),Y.length<=n->Chain Y->(∀r,Y.head?=some r->r.dp<=d+1)->d<=3->S.2.length=d+1->ka S.2 P F B->yL S.2 xs->d9 P F B r g bl->cL S.1=Wr++nK b Z->o8 b Z->l.length<=1000->Behind j (lZ Y) l->∃H J o l2 p2,VY w b xs d r g bl S Wr Z l Y H J o l2 p2
theorem VZ{H:List PR}(h:Chain H):tD (jD (lZ H))/\(jD (lZ H)).length<=640/\∀q Y,H=q::Y->jD (lZ H)=eX q.dp/\eX q.dp≠[]/\uO ⟨(eX q.dp).toArray⟩=some q.dp:=by
 induction H with
 |nil=>exact⟨by show([⟨#[104]⟩,⟨#[115]⟩,⟨#[118]⟩]:List Str).any _=false;decide+kernel,f4 _,λq Y h=>nomatch h⟩|cons q H=>have J:=pc (kW (by decide) h.1.2.1) (jF h.1.2.2 (by decide));exact⟨J.2.2.2.2,aE J.1 (by decide),λH Y h=>by injection h with h;subst h;exact⟨rfl,J.2.2.1,J.2.2.2.1⟩⟩
theorem aS3(h:nm∈names)(H:nm.length<=2)(b:Bool):o8 b (some (aW nm)):=λx e=>by
 injection e with e;subst e
 refine⟨bu [lE Y0 2] (lE Y0 100) rfl H,?_⟩;induction b with
 |false=>exact bu [lE Y0 2] (lE Y0 100) rfl H|true=>refine cJ (Ly nm h) λe l z=>?_;show(pK _).length<=100;exact rR e (rR (show(aW _).length=(lW nm).length from pz) (bu [lE Y0 2] (lE Y0 100) rfl l))
theorem V6(b:Bool)(p:Option Str):(i7 b p).length<=1:=by
 induction p with
 |none=>exact f4 _|some x=>
  show(oQ b x).length<=1;unfold oQ;split;·exact f4 _
  ·exact a8 _
theorem aS4{r:FR}{P:Nat}(H:Nums ys r P F B)(f:Option (Nat×Nat))(T:Str):cL (T++"</"++fT ys r++">")=cL T++cL ("</"++oU (az.g ⟨f,jE ys P F B,bT P⟩) (bT P)++">"):=by
 refine hO λJ J=>J ?_;simp only[cX,cX,cX,cX,cX,bH,bH,bH];congr 1;congr 1;congr 1;have e:fT ys r=rO (!gV F B) (bT P):=by unfold fT;rw[H.d,H.x]
 simp only[e,Lz];unfold cG;induction gV F B with
 |true=>rfl|false=>rfl
theorem V7{b:Bool}(IH:LC w b n)(p:PR)(rs:List PR)(d:Nat)(S:i8)(xs:List Nat)(P F B:Nat)(r g bl:UInt64)(Wr:List Nat)(fU:Option Str)(l:List (Nat×ab))(j:Nat)(hn:rs.length<=n)(hp:p.Ok)(hd:p.dp=d)(d3:d<=3)(ch:Chain rs)(hh:∀r,rs.head?=some r->r.dp<=d+1)(hl:S.2.length=d)(sk:ka S.2 P F B)(xo:yL S.2 xs)(C:d9 P F B r g bl)(tx:cL S.1=Wr++nK b fU)(hz:l.length<=1000)(A:on j ((p.dr,p.nm)::(uE p.dr (qp p)++lZ rs)) l):∃(J Z B2:Nat)(V:mR)(H Y:List PR)(o2:List Str)(l2:List (Nat×ab))(p2:Option Str),Read w p J Z B2 r g bl l (lZ rs) V/\Nums S.2 (fF p) J Z B2/\VY w b (az.xs ⟨none,jE S.2 J Z B2,bT J⟩ xs) d V.Dv.r V.Dv.g V.Dv.b (Fe b (fF p) S) (Wr++nK b fU++(az.ws ⟨none,jE S.2 J Z B2,bT J⟩ V.at_).flatMap cL) (some (aW p.nm)) V.l2 rs H Y o2 l2 p2/\(eC d (i9 b S (p::H))).2=S.2/\cL (eC d (i9 b S (p::H))).1=Wr++(V.outs ⟨none,jE S.2 J Z B2,bT J⟩ b fU p2 o2).flatMap cL/\(V.outs ⟨none,jE S.2 J Z B2,bT J⟩ b fU p2 o2).length<=6*(H.length+1):=by
 have fa:=sk.facts;have l3:=aT [lE Y1 3,eQ Y0 Y1] (lE Y0 3) rfl d3 hl;obtain⟨Z,h4⟩:=Fg hp.wJ l3 fa.df;obtain⟨B2,h5⟩:=Fg hp.wK l3 fa.db;have N:=Fh fa hp l3 h4 h5;refine hO λci aY=>cJ (VZ ch) λnk hW z=>?_;obtain⟨V,R⟩:=row_read (w:=w) hp fa.p fa.f fa.b h4 h5 C nk hW hz A;refine aY ?_;have V8:=ka.cons p Z B2 sk hp l3 h4 h5;generalize _ % 64=J at N R V8;have V9:=VR hp.nm hp.na;have tx2:cL (Fe b (fF p) S).1=Wr++nK b fU++(az.ws ⟨none,jE S.2 J Z B2,bT J⟩ V.at_).flatMap cL++nK b (some (aW p.nm)):=by show cL _=_;refine rR (aSx N V9 hp.na b none (a:=V.at_) (by show(⟨V.F.toArray⟩:Str)=_;refine rR R.hF ?_;rfl) R.J R.j1 R.j2 R.j3 S.1) (rR tx (rL (bH ..) ?_));rfl
 refine hO λkB d5=>?_;obtain⟨j',bh⟩:=R.bh;obtain⟨H,Y,o2,l2,p2,K⟩:=IH rs d _ _ J Z B2 V.Dv.r V.Dv.g V.Dv.b _ _ V.l2 j' hn ch hh d3 (by show S.2.length+1=_;exact rR hl rfl) V8 (aS2 xo N none) R.C tx2 (aS3 V9 hp.nm b) (aE R.hz hz) bh;refine d5 ⟨J,Z,B2,V,H,Y,o2,l2,p2,R,N,K,?_⟩;have J:eC d (i9 b S (p::H))=eC d (eC (d+1) (i9 b (Fe b (fF p) S) H)):=by rw[LB (aWt d)];show eC d ((H.map fF).foldl _ _)=_;simp only[step_eq,show(fF p).dp.toNat=d by show p.dp.toNat=d;refine rR hd ?_;rfl,Bt (qu hl)]
 have H:eC _ _=((eC _ _).1,⟨fT S.2 _,fv S.2 _,j6 S.2 _,j7 S.2 _⟩::S.2):=Prod.ext rfl K.st;refine rR J (rR H (rR (aSz _ _ _ hl) ?_));refine⟨rfl,?_,?_⟩
 ·rw[aS4 N none,K.tx];show _=Wr++(i7 b fU++az.ws _ V.at_++o2++_).flatMap cL;simp only[za,jh,nS,dR,bH];rfl
 ·have H:=V6 b fU;show(i7 b fU++[_,_,_]++o2++_).length<=_;simp only[bQ,eI,BZ];exact qN [lE Y0 1,lE Y2 1,lE Y1 (.m 6 Y3)] (lE (Y0+(0+1+1+1)+Y1+(Y2+(0+1))) (.m 6 (Y3+1))) rfl H (V6 b p2) K.n
theorem aS5{b:Bool}(IH:LC w b n)(q:PR)(Z:List PR)(d:Nat)(S:i8)(xs:List Nat)(P F B:Nat)(r g bl:UInt64)(Wr:List Nat)(fU:Option Str)(l:List (Nat×ab))(j:Nat)(hn:Z.length<=n)(hp:q.Ok)(hd:q.dp=((d+1:Nat):Int))(Y:d+1<=3)(ch:Chain Z)(hh:∀r,Z.head?=some r->r.dp<=((d+1:Nat):Int)+1)(hl:S.2.length=d+1)(sk:ka S.2 P F B)(xo:yL S.2 xs)(C:d9 P F B r g bl)(tx:cL S.1=Wr++nK b fU)(po:o8 b fU)(hz:l.length<=1000)(A:on j ((q.dr,q.nm)::(uE q.dr (qp q)++lZ Z)) l):∃(H J:List PR)(o1:List Str)(l1:List (Nat×ab)),Z=H++J/\(∀r,J.head?=some r->r.dp<=((d+1:Nat):Int))/\JV w (16 - d) xs (d+1) b fU q.dp r g bl l o1 l1 (jD (lZ J))/\(∃j,Behind j (lZ J) l1)/\l1.length<=l.length/\(eC (d+1) (i9 b S (q::H))).2=S.2/\cL (eC (d+1) (i9 b S (q::H))).1=Wr++o1.flatMap cL/\o1.length<=6*(H.length+1):=by refine hO λci aY=>?_;obtain⟨P2,F2,B2,V,H,J,o2,l2,p2,R,N,K,a,c,e⟩:=V7 IH q Z _ S xs P F B r g bl Wr fU l j hn hp hd Y ch hh hl sk xo C tx hz A;refine aY ⟨H,J,_,l2,K.split,K.hd,?_,K.bh,aE K.hz R.hz,a,c,e⟩;obtain⟨m,km⟩:=K.kids;have t:=aQm (n:=16 - (d+1)) (N:=16 - d) (cA [eQ (Y0+(Y2+1)) 16,eQ (Y1+Y2) 16] (lE (Y0+1) Y1) [1,-1] 1 rfl (bY (bu [lE (Y0+1) 3] (lE (Y0+1) 16) rfl Y)) (bY (bu [lE (Y0+1) 3] (lE Y0 16) rfl Y))) (fA [lE (Y1+1) 3,eQ (Y0+Y1) 16] (lE 14 Y0) [1,-1] 1 rfl Y (bY (bu [lE (Y0+1) 3] (lE Y0 16) rfl Y))) V _ _ (λf=>R.ok f _ (Lz ..)) (dG ..) (aE Y (dG ..)) (λq=>VX xo P2 F2 B2 _ (.inl nofun)) po K.p2 (by simp only[R.hd,hd,R.hF,R.hW];exact km);simp only[R.hd,R.hr,R.hg,R.hb,R.hl]at t;exact t
theorem aS6(w:aj)(b:Bool):∀n,LC w b n:=by
 intro n;induction n with
 |zero=>intro Z d S xs P F B r g bl Wr fU l j hn Y hh d3 hl sk xo C tx po hz bh;obtain rfl:Z=[]:=XC.mp (Nat.le_zero.mp hn);exact⟨[],[],[],l,fU,rfl,(λr h=>nomatch h),⟨0, .stop 0 0 ⟨.inl ⟨rfl,rfl⟩⟩⟩,⟨j,bh⟩,a8 _,rR (show i9 b S []=S from rfl) (rR (Bt (qu hl)) rfl),by refine rR (show i9 b S []=S from rfl) (rR (Bt (qu hl)) ?_);exact tx,po,a8 _⟩
 |succ n ih=>
  intro Z d S xs P F B r g bl Wr fU l j hn Y hh d3 hl sk xo C tx po hz bh;have c0:=Bt (qu hl);induction Z with
  |nil=>exact⟨[],[],[],l,fU,rfl,(λr h=>nomatch h),⟨0, .stop 0 0 ⟨.inl ⟨rfl,rfl⟩⟩⟩,⟨j,bh⟩,a8 _,rR (show i9 b S []=S from rfl) (rR c0 rfl),by refine rR (show i9 b S []=S from rfl) (rR c0 ?_);exact tx,po,a8 _⟩|cons q Z=>
   refine cJ (VZ Y) λz hW hq=>cJ (hq q Z rfl) λe1 e2 e3=>?_;by_cases H:q.dp<=d;·refine⟨[],q::Z,[],l,fU,rfl,λr h=>by injection h with h;subst h;exact H,⟨0, .stop 1 q.dp ⟨.inr ⟨rfl,e2,hW,e3,H⟩⟩⟩,⟨j,bh⟩,a8 _,rR (show i9 b S []=S from rfl) (rR c0 rfl),by refine rR (show i9 b S []=S from rfl) (rR c0 ?_);exact tx,po,a8 _⟩
   ·have yD:q.dp=((d+1:Nat):Int):=by have:=hh q rfl;exact bw (this) (iB [(d:Nat),_] [lL Y0 Y1] (lE (Y0+1) Y1) rfl (wN.mp H))
    have d3':d+1<=3:=by have:=Y.1.2.2;exact bK.mp (iB [(d:Nat),_] [lL Y0 Y1,lE Y1 3] (lE (Y0+1) 3) rfl (wN.mp H) this)
    have rm:=LR hn;refine hO λci aY=>YF (aS5 ih q Z d S xs P F B r g bl Wr fU l j rm Y.1.1 yD d3' Y.2.2 (λr J=>yD▸Y.2.1 r J) hl sk xo C tx po hz bh) λFi Wa o1 l1 s1 h1 t1 z2 z1 w9 tx1 n1=>?_;obtain⟨j1,bh1⟩:=z2;refine aY ?_;have ch1:Chain Wa:=by have:=Y.2.2;rw[s1]at this;exact this.suffix
    refine hO λY d5=>?_;obtain⟨Bv,aS7,o2,l2,p2,K⟩:=ih Wa d _ xs P F B r g bl _ none l1 j1 (by have:=congrArg Mz s1;rw[bQ]at this;exact lr [lE Y2 Y1,eQ Y2 (Y3+Y0)] (lE Y0 Y1) [1,-1] 1 rfl rm this) ch1 (λr J=>by have:=h1 r J;exact this) d3 (w9▸hl) (w9▸sk) (w9▸xo) C (by rw[tx1];show _=_++[];rw[dR]) (λx h=>nomatch h) (aE z1 hz) bh1;refine d5 ?_;have ef:eC (d+1) (i9 b S (q::Fi++Bv))=eC (d+1) (i9 b (eC (d+1) (i9 b S (q::Fi))) Bv):=by
     rw[aS1]
     ·show eC _ (((q::Fi++Bv).map fF).foldl _ S)=_;simp only[bM,Xy]
     ·intro r J;induction Bv using px with
      |nil=>injection J|cons c rest=>
       injection J with J;subst J
       have:=h1 c (by refine rR K.split ?_;rfl);exact aTw.mpr this
    obtain⟨m,km⟩:=K.kids;refine⟨q::Fi++Bv,aS7,o1++o2,l2,p2,by refine rR s1 (rR K.split ?_);simp,K.hd,⟨m+1,?_⟩,K.bh,aE K.hz z1,?_,?_,K.p2,?_⟩;·exact .Tf q.dp e2 (hW) e3 H t1 km
    ·simp only[ef,K.st,w9]
    ·simp only[ef,K.tx,za,bH,bH]
    ·have:=K.n;simp only[bQ,bQ,eI];exact qN [lE Y0 (.m 6 (Y2+1)),lE Y1 (.m 6 Y3)] (lE (Y0+Y1) (.m 6 (Y2+1+Y3))) rfl n1 this
end
section
set_option exponentiation.threshold 3000
theorem Fj{n:Int}(J:0<=n)(H:n<=4194304):Sm n:=⟨J,jF H (by decide)⟩
theorem in_of(h:n<=256):In (-100000000) 100000000 (n:Int):=⟨kW (by decide) (bG n),kW (bK.mpr h) (by decide)⟩
theorem Wb{r:FR}{P:Nat}(H:Nums ys r P F B):Bj ys r:=by
 have J:=wM H.rY H.uF;refine qI (zD P H.pT) λz z w0 w1 w2=>?_;have Z:=λ(w:Int)(hw:0<=w/\w<=32)=>wL (bG B) (bK.mpr H.uF) (bG F) (bK.mpr H.rY) hw.1 hw.2;have sl:=λ(w:Int)(hw:0<=w/\w<=32)=>Fj (Z w hw).1 (kW (Z w hw).2 (by decide));refine⟨H.eF▸in_of H.rY,H.eB▸in_of H.uF,H.l.1▸sl _ w0,H.l.2.1▸sl _ w1,H.l.2.2▸sl _ w2,H.bo▸Fj (bG _) (bK.mpr J.1),H.eP▸Fj (bG _) (kW (bK.mpr (cT H.pT)) (by decide)),λY=>?_⟩;have q:=H.q;rw[Y]at q;have q':rQ ys r=Qd F B:=q;have g:gV F B=false:=by
  have:=H.d;replace this:=Y▸this;induction hg:gV F B with
  |true=>replace this:=hg▸this;injection this|false=>rfl
 have pos:0< B*F:=by unfold gV at g;rw[BI]at g;exact BN (L8 (by simpa using g.2)) (L8 (by simpa using g.1))
 have Z:wC ys r=((min (Bo B F) (4194304 - Bo B F):Nat):Int):=by unfold wC;exact rR H.bo (MU J.1)
 have mp:0< min (Bo B F) (4194304 - Bo B F):=by have:=J.2;exact(Wk _ _).elim (λY=>cA [lE (Ax.m 32 Y1) Y2,lL 0 Y1,eQ Y0 Y2] (lL 0 Y0) [1,32,-1] 1 rfl this.1 pos (rZ (Y))) (λY=>lr [lE (Y1+(Ax.m 32 Y2)) 4194304,lL 0 Y2,eQ Y0 Y3,eQ (Y3+Y1) 4194304] (lL 0 Y0) [1,32,-1,-1] 1 rfl this.2 pos (Fq (Y)) (bY (J.1)))
 refine cJ (VG P H.pT) λt1 t2 Y=>⟨q'▸Fj (Fb H.rY H.uF).1 (Fb H.rY H.uF).2,?_,?_,?_⟩
 ·rw[Z];intro h;have:=eq_of_beq h;exact aUz 0 (g9 [lL 0 Y0,eQ Y0 0] (lL 0 0) [1,1] 0 rfl (cc.mpr mp) this)
 ·simp only[Z,Int.natAbs_natCast];exact iI (aE (X8 _ _) J.1) (qr (by decide:4194304< 2 ^ 23) (FF (by decide) (by decide)))
 ·exact rR H.eP ⟨Y▸t1,Y▸t2⟩
theorem aS8(H:nm.length<=2)(J:∀c∈nm,c∈signs)(b:Bool):EK b nm:=qI (Ly nm (VR H J)) λj l s a c=>⟨H,λc H=>Lh c (J c H),l,λc H=>Lh c (s c H),λz=>⟨a,c,aE l (by decide)⟩⟩
theorem ka.all{P:Nat}(h:ka ys P F B):∀y∈ys,y.tg.length<=3/\In (-100000000) 100000000 y.fu/\In (-100000000) 100000000 y.br:=by
 induction h with
 |nil=>exact λy hy=>nomatch hy|cons p F2 B2 sk hp hl h4 h5 ih=>
  intro y hy;have n:=Fh sk.facts hp hl h4 h5;rcases a9.mp hy with rfl|hy
  ·refine⟨KC,?_,?_⟩;·simp only[n.eF];exact in_of n.rY
   ·simp only[n.eB];exact in_of n.uF
  ·exact ih y hy
theorem aS9{r:FR}{P:Nat}(H:Nums ys r P F B)(b:Bool)(hn:EK b r.nm){t:Nat}(Y:T.length<=t):(uy b r T ys).length<=t+2100:=by
 have N:=Wb H;have ns:(rS ys r (T++"<"++fT ys r)).length<=t+1+3+17:=by
  have a:(T++"<"++fT ys r).length<=t+1+3:=ln (ln Y (by decide+kernel)) KC;unfold rS;split;·exact aE (ln (ln (ln (ln (ln a (b:=7) (by decide+kernel)) (rM _)) (b:=6) (by decide+kernel)) (rM _)) (b:=1) (by decide+kernel)) (bu [] (lE (Y0+1+3+7+1+6+1+1) (Y0+1+3+17)) rfl)
  ·exact aE a (fG ..)
 have J:(rP b r.nm (lW r.nm)).length<=2:=by
  induction b with
  |true=>exact hn.l'|false=>exact hn.l
 exact aE (ln (ln (ln (ln (ln ns (UJ N.l0 N.l1 N.l2 (EN λz=>N.P) N.bo)) (b:=4) (by decide+kernel)) (EG hn.l)) (UI (EN λh=>(N.q h).1))) (EG J)) (bu [] (lE (Y0+1+3+17+1000+4+12+1000+12) (Y0+2100)) rfl)
theorem Fl{b:Bool}{S:i8}{P t:Nat}(sk:ka S.2 P F B)(hT:S.1.length<=t)(ht:t<=30000)(H:p.Ok)(h0:0<=p.dp)(Y:S.2.length<=3)(d0:S.2=[]->p.dp=0)(d1:S.2≠[]->1<=p.dp/\p.dp<=S.2.length):yB b S (fF p)/\(∃P F B,ka (gw b S (fF p)).2 P F B)/\((gw b S (fF p)).2.length:Int)=p.dp+1/\(gw b S (fF p)).1.length<=t+2200:=by
 refine hO λci aY=>?_;obtain⟨P',F',B',Wc⟩:=sk.drop _;refine aY ?_;have lk:((S.2.drop (kR S.2 (fF p))).length:Int)=p.dp:=by
  refine rR Gj ?_;have e:kR S.2 (fF p)=S.2.length - p.dp.toNat:=rfl;refine rR e ?_;induction hs:S.2 with
  |nil=>refine rR (d0 hs) ?_;rfl|cons y ys=>have:=d1 (hs▸nofun);rw[hs]at this;exact MW this.1 this.2
 have J:(S.2.drop (kR S.2 (fF p))).length<=3:=rR Gj (aE (nL _ _) Y);have Z:=Wc.facts;obtain⟨F2,h4⟩:=Fg H.wJ J Z.df;obtain⟨B2,h5⟩:=Fg H.wK J Z.db;have N:=Fh Z H J h4 h5;have nm:=aS8 H.nm H.na b;refine⟨⟨aE hT ht,sk.all,Y,d0,λh=>?_,Wb N,nm⟩,⟨_,_,_, .cons p F2 B2 Wc H J h4 h5⟩,?_,?_⟩
 ·have:=d1 h;exact⟨this.1,⟨this.2,iB [(S.snd.length:Nat),_] [lE Y0 3,lE 1 Y1] (lE Y0 (Y1+2)) rfl (bK.mpr Y) this.1⟩⟩
 ·exact bw (bR [eQ Y0 Y1] (lE (Y0+1) (Y1+1)) rfl lk) (cP [eQ Y1 Y0] (lE (Y0+1) (Y1+1)) [-1] 1 rfl lk)
 ·have J:=EO (S.2.take (kR S.2 (fF p))) S.1 t hT λy H=>(sk.all y (Yf H)).1;exact aE (aS9 N b nm J) (fA [lE Y1 3] (lE (Y0+(.m 6 Y1)+2100) (Y0+2200)) [6] 1 rfl (rR wY (aE (aXm _ _) Y)))
end
section
set_option exponentiation.threshold 3000
abbrev Fn(p:Nat->PR):List PR:=nc ([p 0,p 1,p 2,p 3])
theorem step_at(b:Bool)(S:i8)(q:PR)(y:Nat->Nat)(k:Nat):gw b S (q.at_ y k)=gw b S (fF q):=rfl
theorem LF(b:Bool)(p:Nat->PR)(y:Nat->Nat):mP b (gh p y)=i9 b ("",[]) (Fn p):=by show gw b _ _=gw ..;simp only[step_at b _ (p 0) y 3,step_at b _ (p 1) y 10,step_at b _ (p 2) y 17,step_at b _ (p 3) y 24]
theorem Fo{b:Bool}{S:i8}{q:PR}(y:Nat->Nat)(k:Nat)(h:yB b S (fF q)):yB b S (q.at_ y k):=⟨h.T,h.W,h.l,h.d0,h.d1,⟨h.n.F,h.n.B,h.n.l0,h.n.l1,h.n.l2,h.n.bo,h.n.P,h.n.q⟩,h.nm⟩
theorem Wd:("":Str).length=0:=by decide+kernel
section
variable {p:Nat->PR}(H:Lb p)(b:Bool)
include H
theorem aTa:(∀y,yE b (gh p y))/\(jB b (kT p)).length<=50024:=by
 refine hO λci aY=>?_;obtain⟨o0,⟨j,j,j,s0⟩,l0,t0⟩:=Fl (S:=("",[])) .nil (a8 0) (by decide) (H.ok 0) (by rw[H.d0];decide) (by decide) (λz=>H.d0) (λh=>absurd rfl h);refine aY ?_;have Z:(gw b ("",[]) (fF (p 0))).2.length=1:=by have:=H.d0;exact c8 (bK.mp (bR [eQ Y0 (Y1+1),eQ Y1 0] (lE Y0 1) rfl l0 this)) (bK.mp (cP [eQ Y0 (Y1+1),eQ Y1 0] (lE 1 Y0) [-1,-1] 1 rfl l0 this))
 refine hO λkB d5=>?_;obtain⟨o1,⟨j,j,j,s1⟩,l1,t1⟩:=Fl s0 t0 (by decide) (H.ok 1) (by rw[H.d1];decide) (by rw[Z];decide) (λh=>by replace Z:=h▸Z;injection Z) (λz=>rR Z (rR H.d1 ⟨by decide,by decide⟩));refine d5 ?_;have n1:(gw b (gw b ("",[]) (fF (p 0))) (fF (p 1))).2.length=2:=by have:=H.d1;exact c8 (bK.mp (bR [eQ Y0 (Y1+1),eQ Y1 1] (lE Y0 2) rfl l1 this)) (bK.mp (cP [eQ Y0 (Y1+1),eQ Y1 1] (lE 2 Y0) [-1,-1] 1 rfl l1 this))
 obtain⟨o2,⟨j,j,j,s2⟩,l2,t2⟩:=Fl s1 t1 (by decide) (H.ok 2) (by have:=H.d2;exact bf [lE 1 Y0] (lE 0 Y0) rfl this.1) (by rw[n1];decide) (λh=>by replace n1:=h▸n1;injection n1) (λz=>rR n1 H.d2);have d2:=H.d2;have Y:=H.d3;refine hO λkB d5=>?_;obtain⟨o3,⟨j,j,j,s3⟩,l3,t3⟩:=Fl s2 t2 (by decide) (H.ok 3) (bf [lE 1 Y0] (lE 0 Y0) rfl Y.1) (bK.mp (bR [eQ Y0 (Y1+1),lE Y1 2] (lE Y0 3) rfl l2 d2.2)) (λh=>by rw[h]at l2;exact bw (cP [eQ 0 (Y1+1),lE 1 Y1] (lE Y0 0) [-1,1] 0 rfl l2 d2.1) (bf [lE 1 Y0] (lE 0 Y0) rfl Y.1)) (λz=>⟨Y.1,jO [eQ Y1 (Y2+1),lE Y0 (Y2+1)] (lE Y0 Y1) [-1,1] 1 rfl l2 Y.2⟩);refine d5 ?_;have al:=s3.all;have l4:=bK.mp (hH [lE Y1 2,lE Y2 (Y1+1),eQ Y0 (Y2+1)] (lE Y0 4) rfl d2.2 Y.2 l3);refine⟨λy=>⟨λi r J=>?_,?_,?_,?_⟩,?_⟩
 ·match i,J with
  |0,J=>injection J with J;subst J;exact Fo y 3 o0
  |1,J=>obtain rfl:=dH J;exact Fo y 10 o1
  |2,J=>obtain rfl:=dH J;exact Fo y 17 o2
  |3,J=>obtain rfl:=dH J;exact Fo y 24 o3
  |n+4,J=>injection J
 ·exact aE t3 (by decide)
 ·exact aE l4 (by decide)
 ·exact λy J=>(al y J).1
 ·exact aE (EO _ _ _ t3 λy J=>(al y J).1) (qM [lE Y0 4] (lE (0+2200+2200+2200+2200+(Ax.m 6 Y0)) 50024) [6] 1 rfl l4)
theorem We:Chain [p 1,p 2,p 3]:=by
 have Z:=H.d1;have J:=H.d2;have Y:=H.d3;refine⟨⟨H.ok 1,g9 [eQ Y0 1] (lE 1 Y0) [-1] 1 rfl Z,bf [eQ Y0 1] (lE Y0 3) rfl Z⟩,λr h=>?_,⟨H.ok 2,bf [lE 1 Y0] (lE 1 Y0) rfl J.1,bf [lE Y0 2] (lE Y0 3) rfl J.2⟩,λr h=>?_,⟨H.ok 3,bf [lE 1 Y0] (lE 1 Y0) rfl Y.1,bR [lE Y1 2,lE Y0 (Y1+1)] (lE Y0 3) rfl J.2 Y.2⟩,(λr h=>nomatch h),True.intro⟩;·injection h with h;subst h;exact cP [eQ Y1 1,lE Y0 2] (lE Y0 (Y1+1)) [-1,1] 1 rfl Z J.2
 ·injection h with h;subst h;exact bR [lE Y0 (Y1+1)] (lE Y0 (Y1+1)) rfl Y.2
theorem dps:∀q∈Fn p,0<=q.dp/\q.dp< 64/\q.Ok:=λq hq=>by
 have Y:=H.d0;have d1:=H.d1;have J:=H.d2;have Z:=H.d3;rcases a9.mp hq with rfl|hq
 ·exact⟨g9 [eQ Y0 0] (lE 0 Y0) [-1] 1 rfl Y,bf [eQ Y0 0] (lL Y0 64) rfl Y,H.ok 0⟩
 rcases a9.mp hq with rfl|hq
 ·exact⟨g9 [eQ Y0 1] (lE 0 Y0) [-1] 1 rfl d1,bf [eQ Y0 1] (lL Y0 64) rfl d1,H.ok 1⟩
 rcases a9.mp hq with rfl|hq
 ·exact⟨bf [lE 1 Y0] (lE 0 Y0) rfl J.1,bf [lE Y0 2] (lL Y0 64) rfl J.2,H.ok 2⟩
 exact bI.mp hq▸⟨bf [lE 1 Y0] (lE 0 Y0) rfl Z.1,bR [lE Y1 2,lE Y0 (Y1+1)] (lL Y0 64) rfl J.2 Z.2,H.ok 3⟩
end
theorem Wf:∀(l:List Str)(n:Nat),l.foldl (λa s=>a+s.length+("":Str).length) n=n+(l.map (·.length)).sum
 |[],_=>rfl|s::l,n=>by exact rR (Gf ..) (rR (Wf l ..) (rR (iK ..) (rR (aW9 ..) (rR (Wd ..) (c8 (b8 [] (lE (Y0+Y1+0+Y2) (Y0+(Y1+Y2))) rfl) (b8 [] (lE (Y0+(Y1+Y2)) (Y0+Y1+0+Y2)) rfl))))))
theorem aTb{l:List Str}{t:Str}(h:jf "" l=t)(H:t.length<=50024):sw (l.toArray.foldl (· +·.length+("":Str).length) 0)=false:=by rw[X0,Wf];have:=Gg "" l;rw[h,Wd]at this;have s:=nP;exact decide_eq_false (by omega)
theorem aTc:d9 0 256 256 0x3FF0000000000000 0 0:=by
 refine⟨?_,?_,?_⟩;·exact m6 (by decide+kernel) rfl
 ·exact m6 (n:=0) (by decide+kernel) rfl
 ·exact m6 (n:=0) (by decide+kernel) rfl
theorem aTd:eX 0=[48]:=by decide+kernel
theorem aTe(p:Nat->PR):rX p=((p 0).dr,eX (p 0).dp)::((p 0).dr,(p 0).nm)::(uE (p 0).dr (qp (p 0))++lZ [p 1,p 2,p 3]):=by unfold rX lZ;simp only[jh,nS,dR];rfl
theorem aTf(w:aj)(b:Bool){p:Nat->PR}(H:Lb p):K9 w b p:=by
 obtain⟨Lr,dz⟩:=aTa H b;have J:=dps H;have h1:∀q∈rX p,q.2.length<=2:=λq hq=>by
  unfold rX at hq;simp only[cr]at hq;have k:∀i,p i∈Fn p->q∈nJ (p i)->q.2.length<=2:=λi hi h=>(VC (J _ hi).2.2 (J _ hi).1 (J _ hi).2.1).2 q h;rcases hq with h|h|h|h
  ·exact k 0 ay h
  ·exact k 1 (aB ay) h
  ·exact k 2 (aB (aB ay)) h
  ·exact k 3 (aB (aB (aB ay))) h
 have h2:(rX p).length<=32:=by unfold rX;have k:∀i,p i∈Fn p->(nJ (p i)).length<=8:=λi hi=>(VC (J _ hi).2.2 (J _ hi).1 (J _ hi).2.1).1;simp only[bQ,bQ,bQ];exact qN [lE Y0 8,lE Y1 8,lE Y2 8,lE Y3 8] (lE (Y0+(Y1+(Y2+Y3))) 32) rfl (k 0 ay) (k 1 (aB ay)) (k 2 (aB (aB ay))) (k 3 (aB (aB (aB ay))))
 have h3:(fR (kT p)).length<=1000:=by have e:(fR _).length=(fR (kT p)).cps.toList.length:=nQ.symm;simp only[e,Vy];exact aE (aR6 _ 0 h1) (qM [lE Y0 32] (lE (.m 7 Y0) 1000) [7] 1 rfl h2)
 have sJ:∀y,jB b (gh p y)=jB b (kT p):=λy=>by unfold jB;rw[LF,LF]
 refine⟨λy r hr=>?_,λs hs=>?_,h3,Lr,sJ,aE dz (by decide),λl hl=>?_⟩
 ·rcases a9.mp hr with rfl|hr
  ·exact E9 (H.ok 0) (J _ ay).1 (J _ ay).2.1 _ _
  rcases a9.mp hr with rfl|hr
  ·exact E9 (H.ok 1) (J _ (aB ay)).1 (J _ (aB ay)).2.1 _ _
  rcases a9.mp hr with rfl|hr
  ·exact E9 (H.ok 2) (J _ (aB (aB ay))).1 (J _ (aB (aB ay))).2.1 _ _
  exact rR (bI.mp hr) (E9 (H.ok 3) (J _ (aB (aB (aB ay)))).1 (J _ (aB (aB (aB ay)))).2.1 _ _)
 ·rw[Vx]at hs;refine aO (bq.mp hs) λq hq eq1=>?_;subst eq1;have:=VB q (h1 q hq);exact aE this (by decide)
 ·have La:l.length<=1000:=by exact rL (dB ..) (rR (hl ..) (rR (nQ ..) h3))
  have J:=aC1 (hl.trans (Vy p));rw[aTe]at J;refine ii (vz J) λl0 tk A1 z1=>?_;have tL:fb l0 l [48]:=by simp only[show _.2=eX (p 0).dp from rfl,H.d0,aTd]at tk;exact tk
  refine hO λJ aY=>?_;obtain⟨P2,F2,B2,V,Z,Y,o2,J,p2,R,N,K,J,tx,n⟩:=V7 (aS6 w b 3) (p 0) [p 1,p 2,p 3] 0 ("",[]) [] 0 256 256 0x3FF0000000000000 0 0 [] none l0 1 (a8 _) (H.ok 0) H.d0 (by decide) (We H) (λr h=>by injection h with h;subst h;rw[H.d1];decide) rfl .nil (λx=>⟨nofun,nofun⟩) aTc (by show cL ""=[]++[];decide+kernel) (aE z1 La) A1;refine aY ?_;have ha:Y=[]:=by
   induction Y using px with
   |nil=>rfl|cons q r=>have c:=We H;rw[K.split]at c;have:=K.hd q rfl;have:=c.suffix.1.2.1;omega
  subst ha;obtain⟨j,bh⟩:=K.bh;subst bh;obtain⟨m,km⟩:=K.kids;have eb:Z=[p 1,p 2,p 3]:=by have:=K.split;rw[dR]at this;exact this.symm
  subst eb;have J:jf "" (V.outs ⟨none,jE [] P2 F2 B2,bT P2⟩ b none p2 o2)=jB b (kT p):=by refine aSh ?_;rw[show cL _=_ from E8 _];rw[<-show cL _=(V.outs ⟨none,jE [] ..,bT P2⟩ ..).flatMap cL from tx];unfold jB;rw[LF];unfold eC;simp only[Nat.sub_zero,BV]
  refine⟨⟨V,jE [] P2 F2 B2,bT P2,m,p2,o2,[]⟩,⟨?_,?_,R.hr,R.hg,R.hb,R.ok none _ (Lz [] ..),VX (ys:=[]) (xs:=[]) (λx=>⟨nofun,nofun⟩) P2 F2 B2 none (.inr rfl),K.p2,aE n (by show 6*4<=880;decide),?_, .eof rfl⟩,f4 _,J,aTb J dz,aSa hl⟩;·simp only[show _.V.l=V.l from rfl,R.hl];exact tL
  ·exact R.hd.trans H.d0
  ·simp only[R.hd,H.d0,R.hF,R.hW];exact km
end
theorem aTg(h:zd vs ns):vs.length=ns.length:=by
 induction h with
 |nil=>rfl|cons _ _ _ ih=>simp only[eI,eI,ih]
theorem walk{H:am}{p:c9}{lo:List Str}{sM:WC->Option ag}{mg mb:Str->Option ag}(J:aK w H.heap)(T:Top p lo sM mg mb H.heap)(h8:∀P∈[123,247,252,259,264,269],H.heap.get? P=some (jJ #[]))(hg:H.gens=#[])(Z:∃o,H.heap.get? 1=some o){Y:af}(hL:H.heap.IsList S vs.toArray)(hI:zd vs ns)(hz:ns.length<=63)(hm:mg "law"=some (.ref Y)){cl:Str->Option af}{args:List WData}(hp:Rw.row.claim.post args (.bool true) args=true)(hr:∀x,Rw.row.claim.raises args x=false):eH (av w) uX (gG Y [.ref S]) (GoodWG Rw.row.claim cl sM args H) H:=by
 have e:=mg_of J T.g (n:="law") (v:= .ref 272) (by kernel_rfl);replace e:=hm▸e;obtain rfl:Y=272:=by cases e;rfl
 refine hO λH aY=>?_;obtain⟨⟨c,d,dt,sl⟩,ho,hc,n,hd⟩:=hL;refine aY ?_;obtain rfl:c= .type "list":=hc;obtain rfl:dt= .seq vs.toArray n:=hd;exact hO λH Y=>YH (aRz hI (aTg hI▸hz)) λH H v sm b sc H=>Y (aRw J T (w7.mpr ⟨⟨codeHd_of_K J (by kernel_rfl),h8 252 (by decide)⟩,w7.mpr ⟨⟨codeHd_of_K J (by kernel_rfl),h8 123 (by decide)⟩,λz h=>nomatch h⟩⟩) hg Z ho sc (aTf w b H) λs' Z h2 h3=>
  ⟨.inl ⟨.bool true, .bool true,[],rfl,hr, .bool true,hp,λz=>⟨bN,λa H=>nomatch H⟩⟩,Z,h2,h3⟩)
noncomputable def DL:{d:DefRec // d=sA}:=by apply aUf;conv=>rhs;whnf
theorem final:Rw.Holds:=aC6 (by
 refine rL DL.2 ?_;k_fill;intro w ak H H H G Y H o H H H H H H H H H J hg args H H H Z hrd JY pU;have Y1:=Y.1;refine Ground.open G ?_;intro T B D TE TW;wrow_args H Z hrd JY pU;rename zd _ _=>hI;rename Heap.IsList _ _ _=>hL;rename ¬_=>hc;refine enter_call (walk (km_in_of Y1) T (km_tabs_of Y1) hg Y.2 hL hI ?_ J ?_ ?_);·exact bK.mp ((fH.mp hc))
 ·exact postW_of (by wrow_shape) (by wtm_val) (by str_meet;first|done|w_fin)
 ·exact raisesW_false (by wrow_none_raised))
end
end Mine.Internal
theorem PySem.Challenge.cw_sc0109_01_holds : PySem.Challenge.rw_sc0109_01.Holds :=
  Mine.Internal.final
