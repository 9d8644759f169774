import PyProof.Rows.All
import Wide.All
import OpenK.AllK
import Wide.FinOn
import PySem.Challenge.RW_ta0103_01
open List renaming mem_of_getElem?->A6,mem_cons_self->A9,mem_cons_of_mem->B1,mem_singleton->B2,getElem?_eq_getElem->B3,length_map->B5,getElem?_map->B7,mem_cons->B9,replicate->C1,mem_map->C5,getElem?_eq_some_iff->C7,getD_eq_getElem?_getD->C8,mem_append_left->D3,mem_append_right->D4,not_mem_nil->D6,map_cons->E5,map_map->E6,mem_append->G1,range->G2,mem_singleton_self->H4,map_congr_left->H6,sum_cons->H7,getElem?_eq_none->H9,size_toArray->I1,nil_append->I2,getElem?_append_left->I3,mem_map_of_mem->I4,mem_range->I8,map_append->J2,append_assoc->J3,length_append->K1,mem_iff_getElem?->K4,all_eq_true->K5,getElem?_append_right->M0,getElem?_range->N6,cons_append->N9,getElem?_zip_eq_some->O8,take_add_one->P4,getElem?_set_ne->P8,replicate_succ->Q1,getElem_mem->Q6,append_nil->S0,take_of_length_le->S6,length_cons->S7,ext_getElem?->T3,mem_filterMap->T5,length_take->U1,nodup_nil->U7,take_length->V5,getElem?_eq_none_iff->W4,eq_nil_of_length_eq_zero->W5,range_succ->X0,eq_of_mem_replicate->X7,flatMap_cons->Y6,flatMap_map->zaa,drop_drop->zag,lookup_cons->zal,length_range->zao,nodup_cons->za5,forIn_cons->zbv,foldl_append->zb3,drop_eq_getElem_cons->zca,length_eq_zero_iff->zce,filter_cons->zcf,map_nil->zcm,sum_append->zc2,map_fst_zip->zdh,getElem?_set_self->zdj,length_replicate->zd1,length_filter_le->zd2,take_append_of_le_length->zef,map_flatMap->zeg,length_drop->zeh,mem_of_mem_take->zes,toList_toArray->ze8,length_reverse->ze9,length_nil->zfa,length->zfb,filter_map->zfc,getElem?_set->zfo,getElem?_set_self'->zgk,getElem?_replicate->zgl,flatten_cons->zgx,getElem?_cons_succ->zhn,isEmpty_nil->zh1,drop_zero->zia,take_append_drop->zi3,sum_nil->zi4,mem_filter->zi5,getElem?_reverse->zi6,mem_of_mem_drop->zkc,getElem?_take->zkd,getElem?_inj->zk4,filterMap_cons->zk5,map_singleton->zlq,of_mem_zip->zm0,nodup_append->zm1,any_eq_false->zm2,map_toArray->zn8,map_reverse->zn9,drop_append_of_le_length->zoa,range_zero->zpp,length_set->zpq,foldl_cons->zpr,drop->zq5,mem_or_eq_of_mem_set->zrk,forIn_nil->zrl,drop_left->zrm,map_take->zt1,map->zt2,drop_of_length_le->zu0,drop_eq_nil_of_le->zu1,zipWith->zu8,eraseIdx_sublist->zu9,take_sublist->zxr,pairwise_append->zxs,take_succ_cons->zx7,take->zx8,replicate_zero->zx9,range'->zya,length_flatten->zyb,getD_cons_succ->zyc,sum_singleton->yat,map_replicate->yau,reverse_cons->ybw
open Nat renaming le_trans->A7,lt_of_le_of_lt->C2,lt_of_lt_of_le->C9,le_refl->D2,not_lt->D7,add_le_add_right->G3,le_succ_of_le->G5,mul_le_mul_left->G6,lt_irrefl->H8,mul_le_mul_right->I0,add_le_add->I5,mul_comm->I7,pow_le_pow_right->J1,two_pow_pos->J5,le_add_left->J6,le_add_right->J9,le_of_lt->K3,le_succ->L6,lt_or_ge->O3,div_lt_iff_lt_mul->O6,mod_lt->O9,pow_add->P5,le_of_eq->Q0,add_le_add_left->Q2,zero_le->Q7,add_comm->Q9,mul_add->R6,mul_lt_mul_of_pos_right->S1,mul_le_mul->S4,lt_succ_self->S5,mul_one->W6,add_assoc->W7,add_mul->X8,le_sub_one_of_lt->Z9,zero_add->zac,lt_of_le_of_ne->zad,add_right_comm->zae,div_add_mod->zat,sub_add_cancel->zaz,ne_of_lt->za0,ne_of_gt->za1,one_mul->zba,mul_assoc->zbb,succ_le_succ->zbj,eq_zero_or_pos->zbp,lt_succ_iff_lt_or_eq->zb9,add_lt_add_left->zcl,le_mul_of_pos_right->zdb,sub_eq_zero_iff_le->zdl,sub_pos_of_lt->zdv,le_of_succ_le->zdw,le_of_lt_succ->zdx,zero_mul->zea,mod_eq_of_lt->zeq,div_eq_of_lt->zer,le_sub_of_add_le->zex,sub_le->ze6,pow_le_pow_left->zfm,min_eq_left->zfn,mul_lt_mul_of_pos_left->zf9,succ_mul->zgg,mul_zero->zgh,lt_trans->zgi,add_zero->zgj,sub_lt->zg8,lt_succ_of_lt->zg9,lt_succ_of_le->zha,pow_pos->zhy,lt_add_of_pos_right->zhz,add_sub_cancel_left->zh0,min_eq_right->zh9,lt_of_succ_lt_succ->zix,lt_add_of_pos_left->ziy,succ_pos->zjz,mul_add_mod->zj0,mul_add_div->zj1,lt_asymm->zj2,div_mul_le_self->zle,sub_add_eq->zpd,lt_one_iff->zpe,two_pow_add_eq_or_of_lt->zq1,strongRecOn->zq2,not_lt_zero->zq3,div_le_self->zq4,lt_of_mul_lt_mul_right->zrj,le_total->zsq,sub_le_of_le_add->zuz,le_mul_of_pos_left->zu6,div_div_eq_div_mul->zu7,sub_ne_zero_of_lt->zxn,pow_succ->zxo,le_of_ble_eq_true->zxp,add_le_of_le_sub'->zxq,sub_le_sub_right->zx5,eq_of_testBit_eq->zx6,max_eq_right->yaq,log2_lt->yar,add_left_cancel->yas,max_eq_left->ybu,add_sub_cancel->ybv
open PySem renaming Shared->A8,wpAny_bind->B0,wpAny_pure->C4,wpAny->D0,model->D1,World->E3,wpAny_mono->E7,wpAny_execs_cons->E8,Around->H2,callEnvC->H3,sizeLine->H5,rawInt->I6,foldedSetIterable->J0,starEach->J7,wpAny_holding->J8,wpAny_standAt->K7,FuncData->K9,wpAny_Call_NameR->L0,builtinLookup_eq_fast->L3,strLen_append->M2,eval->M3,assign->M9,intBits_le_iff->N8,Heap->P9,typeLookup_type->R0,wpAny_toks->S8,cellsFrom->T0,wpAny_Name->T7,letOwnedTupleGo->U3,swapsWith->U6,wpAny_Assign_Name->V3,seg_execs_nil->X4,execs->X5,NameKind->X6,wpAny_truthy_bool->X9,wpAny_specialOf->Y0,wpAny_Call_method->Z2,typeLookup->Z3,wpAny_storeName_local->Z6,wpAny_isTrue_Compare1->Z7,wpAny_newObj_type->zah,wpAny_field->zai,bindArgs->zay,wpAny_of_eq->zbe,sizeLine->zbf,pyNext->zbh,keywordEach->zbk,typeIs_str->zbt,backTo->zb6,GenState->zb7,assignInOrder->zcd,spliced->zcn,Builtin->zcp,wpAny_callSpecial?_slot->zcz,interactive->zc4,swappedStores->zdn,pushCells->zdp,noteFrame->zdr,attributeBase->zdu,wpAny_call_entry->zd3,codeAny->zek,call_meets->zel,isSubtype->ze2,getitemInPython_of_ne->ze3,Model->ze7,standAt->zfe,wpAny_letTemporaryGo->zft,wpAny_setField->zfv,wpAny_isTrue_value->zfw,backToKw->zf5,Ctx->zf8,wpAny_Expr->zgc,wpAny_Return_some->zgu,entryFor_of_tree->zhq,Operator->zhw,wpAny_rule->zid,wpAny_call->zif,wpAny_assign_Name->zig,strValues->zih,cameBackBy->zit,notedBy->zje,leaving->zji,pyIter->zj8,firstArgMember->zkk,holding->zkz,wpAny_operating->zk9,theTreesLotGoes->zlb,callWith_function_kw->zme,seg_execs_cons->zmu,letTemporaryGo->zmv,eval_Subscript->zmx,strIterType->zna,codeAny_forLoop_any->zng,wpAny_isInstance->zog,wpAny_BinOp->zpj,wpAny_loadPart_at->zpu,sysModules->zpy,codeAny_builtin->zqs,builtinsNs->zqu,concat_meets->zrc,wpAny_seqItems->zrp,truthy->zrr,recursionLimit->zrz,noFill_tuple_add->zr3,newTuple->zr4,isSubtype_stop->zr8,Builtin->zsp,compPost->ztp,bindName->ztw,wpAny_attempt->zt6,wpAny_alloc->zt7,wpAny_Tuple->zt8,pushCells_keeps->zuf,post_val_or_str->zug,behindInMarks->zuv,assign->zuw,Result->zuy,Arguments->zu4,wpAny_comprehension_free->zx0,wpAny_throw->zyg,wpAny_newList->zyh,wpAny_loadName_local->zyi,wpAny_getItem_str_slice->zyj,wpAny_callSpecial?_none->zyk,unpackItems->zyo,seq_tuple_add->zy3,rangeSize_one->zy4,evalPart_none->zz7,entryFor->yaa,comprehension->yad,cLine->yai,Keyword->yav,codeAny_compStart_list->ybp
open PySem.Builtin.Int renaming intBits->B6
open Int renaming toNat_natCast->C0,le_trans->E1,natCast_nonneg->E9,ofNat_le->H1,eq_ofNat_of_zero_le->K2,natAbs_natCast->K8,toNat_of_nonneg->L8,toNat->N7,toNat_le->O4,not_lt->R7,fmod_eq_emod_of_nonneg->R8,ofNat_sub->T8,zero_add->U0,le_refl->V2,fdiv_eq_ediv_of_nonneg->V6,lt_of_le_of_lt->V8,one_mul->W0,mul_assoc->W8,add_le_add_right->W9,ofNat_lt->X2,natCast_add->X3,sub_nonneg_of_le->Y2,natAbs_mul->Y7,mul_comm->Y8,add_zero->zab,le_sub_one_of_lt->zap,le_of_lt->za2,add_comm->za6,add_le_add_left->zbc,add_assoc->zbd,add_sub_cancel->zbq,sub_le_sub->zcg,zero_mul->zco,natAbs_neg->zcw,add_nonneg->zcx,neg_neg_of_pos->zdd,lt_of_lt_of_le->zde,fmod_nonneg_of_pos->zdm,natAbs_of_nonneg->zdz,natAbs_add_le->zd0,max_eq_left->zeb,toNat_of_nonpos->zei,sub_le_sub_right->zey,natCast_mul->zfp,mul_one->zfq,le_add_of_nonneg_right->zga,fmod_lt_of_pos->zgm,max_eq_right->zgs,neg_nonpos_of_nonneg->zhb,add_mul->zh2,neg_le_of_neg_le->zi0,emod_nonneg->zj4,le_natAbs->zke,add_le_add->zk6,le_total->zlf,toNat_sub->zml,sub_add_cancel->zmm,lt_toNat->zoc,mul_le_mul_of_nonneg_left->zpf,le_max_right->zpg,sub_lt_self->zq6,neg_neg->zq7,neg_mul->zq8,natCast_pow->zq9,mul_add->zra,lt_add_of_sub_right_lt->zrn,natAbs_pow->zsr,mul_nonneg->zss,neg_nonneg_of_nonpos->zt3,max_le->zt4,toNat_lt->zxt,sub_zero->zxu,ne_of_gt->zxv,lt_or_le->zxw,sub_sub->yaw,sub_mul->yax,pow_add->yay,toNat_le_toNat->ybx,neg_pos_of_neg->yby,emod_lt_of_pos->ybz,add_right_comm->yb0
open PySem.Heap renaming get?_push_of_some->C3,lt_size->C6,get?_push_size->D8,size_push->G8,SameBut->P2,get?_update_self->Y9,get?_update_other->zaw,ExtBut->zbr,IsCell->zfr,size_after_update->zib,size_update->zlr,get?_some_iff->zls
open Exists renaming elim->E4
open PySem.Str renaming ofString->G9,join->L9,empty->zfl,length->zg6,cps_append->zk3,mk->ybr
open Array renaming getElem?_eq_some_iff->J4,replicate->R9,length_toList->V9,getElem?_eq_getElem->W1,getElem?_setIfInBounds_ne->zan,getElem?_setIfInBounds_self_of_lt->zbs,toList_append->zch,size_push->ze5,getElem?_toList->zi1,size_append->zms,eq_empty_of_size_eq_zero->zm4,toList_inj->znl,getD_eq_getD_getElem?->zpi,getElem?_eq_none->zt5,getElem?_mapIdx->zu2,size_replicate->zva,size_extract->zyd,append_assoc->zye,any_toList->yb2
open PySem.Calls renaming spliced_cons->K6,callWith_builtin->O0,callWith_function->R3,spliced_nil->S9,evalArgs_plain->zbo,Name_function_global->zks
open PySem.Builtin.Str renaming occurrences->L4,strKind->P6,tooLong->R2,partsBetween->zm3
open Lean renaming Syntax->M1,maxHeartbeats->zzh
open PySem.F renaming slot_list_append->M5,plainAttrs_str->M6,type_list_append->N5,slot_str_join->U2,type_str_join->Z5,slot_str_lower->za8,plainAttrs_list->zcj,type_str_lower->zc1,slot_str_getitem->zf6,args_tuple_add_2->zf7,entry_tuple_add->zgq,slot_tuple_add->zg7,slot_tuple_iterator_next->zjx,slot_list_setitem->zo8,slot_list_reverse->zo9,slot_list_getitem->zpa,objNew->zpb,slot_lri_next->zpm,slot_list_insert->zpn,slot_list_extend->zpo,args_str_join_2->zq0,slot_str_split->zrg,entry_str_join->zrh
open PySem.Value renaming none->M7,ref->N0,str->za7,bool->zem,type->zre
open PySem.IntMulOk renaming of_left->N1,of_le->zob
open Nat.succ renaming inj->N3
open Bool renaming false_ne_true->N4,and_eq_true->O2,false_eq_true->V7,noConfusion->Y4,not_eq_true'->zgy,not_eq_true->zh4,true_and->zlv
open PyProof.Rows renaming callWith_type->O7,eq_str->zhm,bindName_->zo7,add_str->zpc,locs->ybe,fdOf->ybj
open PySem.Txt renaming lower->P1,slice->T9,mul->zbn,replace->zbx,split->zg5,slice_le->zjw
open PyProof renaming noPylong_of_log2->P3
open PySem.NameKind renaming free->P7,cell->zcv
open Option.some renaming inj->Q8,injEq->zck
open PySem.Heap.SameBut renaming update->R5
open Ne renaming symm->U8
open PySem.Builtin renaming bitAnd->Y3,bitOr->zax,bitXor->zhc,bitNot->zhd
open ForInStep renaming yield->zaf
open Option renaming map_some->zak,isSome_iff_exists->zb2,map_eq_some_iff->zda,map->zep,isSome_none->zi2,getD_some->yap,all_some->ybt
open PySem.Obj renaming mapFields->zbg,isFreed_of_fields->zhx,data_mapFields->zkr
open PySem.StrLaws renaming mk_of_toList->zby,glued_eq_join->zhv,sliceText->zld,join_length_le->zrf,strSub_toList->zso,sumLen_le->zxk
open PySem.Around renaming frames_deeper->zb4,under_plainId->zu3
open PySem.Challenge renaming rw_ta0103_01->zcu
open PySem.Sre renaming forSearch->zc9,Seen->zka,Frame->zxl
open Int.ofNat renaming inj->zdy
open PUnit renaming unit->zew
open PySem.BindsTo renaming of_eq->zgt,of_defaults->zj7
open PySem.Builtin.Range renaming small->zhe,rangeSize->zmq
open PySem.Value.type renaming inj->zhu
open List.Pairwise renaming nil->ziz
open PySem.Expr renaming Name->zi7
open PySem.PyData renaming keyHash->zjy
open List.cons renaming inj->zj3
open PySem.Builtin.Generator renaming genWake->zj6
open Or renaming inl->zkb,inr->zri
open Prod.mk renaming injEq->zkq
open PySem.Builtin.List renaming listFitsIndex->zlg,listTooLong->zmr
open PySem.Flow renaming next->zlu,ret->zph
open PySem.Manifest renaming find?->zn7
open Except renaming ok->zod
open PySem.EntryCells renaming newEntry->zro
open UInt32 renaming le_iff_toNat_le->zsn
open PySem.ScopeKind renaming function->zt0
open PySem.W renaming call_meth->zuu,tabObj->zx2
open And renaming intro->zxz
open ForIn renaming forIn->zzw
open PySem.Shared renaming setGen->yao
open PySem.Code renaming quiet_builtin->yaz
open PySem.Sem renaming pure->ybs
open PySem PySem.W PySem.Spec PySem.Calls PyProof.Rows
set_option Elab.async false
set_option maxRecDepth 100000
set_option linter.all false
set_option hygiene false
set_option compiler.extract_closed false
set_option compiler.reuse false
set_option compiler.small 0
set_option tactic.hygienic false
namespace Mine.Internal
theorem el20 {p0 p1:Prop}{G:Prop}(h:p0/\p1)(k:p0->p1->G):G:=k h.1 h.2
theorem el21 {A0:Sort _}{p0:A0->Prop}{G:Prop}(h: ∃x0,p0 x0)(k: ∀x0,p0 x0->G):G:=E4 h λ x0 h=>k x0 h
theorem el30 {p0 p1 p2:Prop}{G:Prop}(h:p0/\p1/\p2)(k:p0->p1->p2->G):G:=k h.1 h.2.1 h.2.2
theorem el31 {A0:Sort _}{p0 p1:A0->Prop}{G:Prop}(h: ∃x0,p0 x0/\p1 x0)(k: ∀x0,p0 x0->p1 x0->G):G:=E4 h λ x0 h=>k x0 h.1 h.2
theorem el32 {A0:Sort _}{A1:Sort _}{p0:A0->A1->Prop}{G:Prop}(h: ∃x0,∃x1,p0 x0 x1)(k: ∀x0 x1,p0 x0 x1->G):G:=E4 h λ x0 h=>E4 h λ x1 h=>k x0 x1 h
theorem el40 {p0 p1 p2 p3:Prop}{G:Prop}(h:p0/\p1/\p2/\p3)(k:p0->p1->p2->p3->G):G:=k h.1 h.2.1 h.2.2.1 h.2.2.2
theorem el41 {A0:Sort _}{p0 p1 p2:A0->Prop}{G:Prop}(h: ∃x0,p0 x0/\p1 x0/\p2 x0)(k: ∀x0,p0 x0->p1 x0->p2 x0->G):G:=E4 h λ x0 h=>k x0 h.1 h.2.1 h.2.2
theorem el42 {A0:Sort _}{A1:Sort _}{p0 p1:A0->A1->Prop}{G:Prop}(h: ∃x0,∃x1,p0 x0 x1/\p1 x0 x1)(k: ∀x0 x1,p0 x0 x1->p1 x0 x1->G):G:=E4 h λ x0 h=>E4 h λ x1 h=>k x0 x1 h.1 h.2
theorem el43 {A0:Sort _}{A1:Sort _}{A2:Sort _}{p0:A0->A1->A2->Prop}{G:Prop}(h: ∃x0,∃x1,∃x2,p0 x0 x1 x2)(k: ∀x0 x1 x2,p0 x0 x1 x2->G):G:=E4 h λ x0 h=>E4 h λ x1 h=>E4 h λ x2 h=>k x0 x1 x2 h
theorem el50 {p0 p1 p2 p3 p4:Prop}{G:Prop}(h:p0/\p1/\p2/\p3/\p4)(k:p0->p1->p2->p3->p4->G):G:=k h.1 h.2.1 h.2.2.1 h.2.2.2.1 h.2.2.2.2
theorem el51 {A0:Sort _}{p0 p1 p2 p3:A0->Prop}{G:Prop}(h: ∃x0,p0 x0/\p1 x0/\p2 x0/\p3 x0)(k: ∀x0,p0 x0->p1 x0->p2 x0->p3 x0->G):G:=E4 h λ x0 h=>k x0 h.1 h.2.1 h.2.2.1 h.2.2.2
theorem el52 {A0:Sort _}{A1:Sort _}{p0 p1 p2:A0->A1->Prop}{G:Prop}(h: ∃x0,∃x1,p0 x0 x1/\p1 x0 x1/\p2 x0 x1)(k: ∀x0 x1,p0 x0 x1->p1 x0 x1->p2 x0 x1->G):G:=E4 h λ x0 h=>E4 h λ x1 h=>k x0 x1 h.1 h.2.1 h.2.2
theorem el53 {A0:Sort _}{A1:Sort _}{A2:Sort _}{p0 p1:A0->A1->A2->Prop}{G:Prop}(h: ∃x0,∃x1,∃x2,p0 x0 x1 x2/\p1 x0 x1 x2)(k: ∀x0 x1 x2,p0 x0 x1 x2->p1 x0 x1 x2->G):G:=E4 h λ x0 h=>E4 h λ x1 h=>E4 h λ x2 h=>k x0 x1 x2 h.1 h.2
theorem el54 {A0:Sort _}{A1:Sort _}{A2:Sort _}{A3:Sort _}{p0:A0->A1->A2->A3->Prop}{G:Prop}(h: ∃x0,∃x1,∃x2,∃x3,p0 x0 x1 x2 x3)(k: ∀x0 x1 x2 x3,p0 x0 x1 x2 x3->G):G:=E4 h λ x0 h=>E4 h λ x1 h=>E4 h λ x2 h=>E4 h λ x3 h=>k x0 x1 x2 x3 h
theorem el60 {p0 p1 p2 p3 p4 p5:Prop}{G:Prop}(h:p0/\p1/\p2/\p3/\p4/\p5)(k:p0->p1->p2->p3->p4->p5->G):G:=k h.1 h.2.1 h.2.2.1 h.2.2.2.1 h.2.2.2.2.1 h.2.2.2.2.2
theorem el61 {A0:Sort _}{p0 p1 p2 p3 p4:A0->Prop}{G:Prop}(h: ∃x0,p0 x0/\p1 x0/\p2 x0/\p3 x0/\p4 x0)(k: ∀x0,p0 x0->p1 x0->p2 x0->p3 x0->p4 x0->G):G:=E4 h λ x0 h=>k x0 h.1 h.2.1 h.2.2.1 h.2.2.2.1 h.2.2.2.2
theorem el62 {A0:Sort _}{A1:Sort _}{p0 p1 p2 p3:A0->A1->Prop}{G:Prop}(h: ∃x0,∃x1,p0 x0 x1/\p1 x0 x1/\p2 x0 x1/\p3 x0 x1)(k: ∀x0 x1,p0 x0 x1->p1 x0 x1->p2 x0 x1->p3 x0 x1->G):G:=E4 h λ x0 h=>E4 h λ x1 h=>k x0 x1 h.1 h.2.1 h.2.2.1 h.2.2.2
theorem el63 {A0:Sort _}{A1:Sort _}{A2:Sort _}{p0 p1 p2:A0->A1->A2->Prop}{G:Prop}(h: ∃x0,∃x1,∃x2,p0 x0 x1 x2/\p1 x0 x1 x2/\p2 x0 x1 x2)(k: ∀x0 x1 x2,p0 x0 x1 x2->p1 x0 x1 x2->p2 x0 x1 x2->G):G:=E4 h λ x0 h=>E4 h λ x1 h=>E4 h λ x2 h=>k x0 x1 x2 h.1 h.2.1 h.2.2
theorem el64 {A0:Sort _}{A1:Sort _}{A2:Sort _}{A3:Sort _}{p0 p1:A0->A1->A2->A3->Prop}{G:Prop}(h: ∃x0,∃x1,∃x2,∃x3,p0 x0 x1 x2 x3/\p1 x0 x1 x2 x3)(k: ∀x0 x1 x2 x3,p0 x0 x1 x2 x3->p1 x0 x1 x2 x3->G):G:=E4 h λ x0 h=>E4 h λ x1 h=>E4 h λ x2 h=>E4 h λ x3 h=>k x0 x1 x2 x3 h.1 h.2
theorem el65 {A0:Sort _}{A1:Sort _}{A2:Sort _}{A3:Sort _}{A4:Sort _}{p0:A0->A1->A2->A3->A4->Prop}{G:Prop}(h: ∃x0,∃x1,∃x2,∃x3,∃x4,p0 x0 x1 x2 x3 x4)(k: ∀x0 x1 x2 x3 x4,p0 x0 x1 x2 x3 x4->G):G:=E4 h λ x0 h=>E4 h λ x1 h=>E4 h λ x2 h=>E4 h λ x3 h=>E4 h λ x4 h=>k x0 x1 x2 x3 x4 h
theorem el70 {p0 p1 p2 p3 p4 p5 p6:Prop}{G:Prop}(h:p0/\p1/\p2/\p3/\p4/\p5/\p6)(k:p0->p1->p2->p3->p4->p5->p6->G):G:=k h.1 h.2.1 h.2.2.1 h.2.2.2.1 h.2.2.2.2.1 h.2.2.2.2.2.1 h.2.2.2.2.2.2
theorem el71 {A0:Sort _}{p0 p1 p2 p3 p4 p5:A0->Prop}{G:Prop}(h: ∃x0,p0 x0/\p1 x0/\p2 x0/\p3 x0/\p4 x0/\p5 x0)(k: ∀x0,p0 x0->p1 x0->p2 x0->p3 x0->p4 x0->p5 x0->G):G:=E4 h λ x0 h=>k x0 h.1 h.2.1 h.2.2.1 h.2.2.2.1 h.2.2.2.2.1 h.2.2.2.2.2
theorem el72 {A0:Sort _}{A1:Sort _}{p0 p1 p2 p3 p4:A0->A1->Prop}{G:Prop}(h: ∃x0,∃x1,p0 x0 x1/\p1 x0 x1/\p2 x0 x1/\p3 x0 x1/\p4 x0 x1)(k: ∀x0 x1,p0 x0 x1->p1 x0 x1->p2 x0 x1->p3 x0 x1->p4 x0 x1->G):G:=E4 h λ x0 h=>E4 h λ x1 h=>k x0 x1 h.1 h.2.1 h.2.2.1 h.2.2.2.1 h.2.2.2.2
theorem el73 {A0:Sort _}{A1:Sort _}{A2:Sort _}{p0 p1 p2 p3:A0->A1->A2->Prop}{G:Prop}(h: ∃x0,∃x1,∃x2,p0 x0 x1 x2/\p1 x0 x1 x2/\p2 x0 x1 x2/\p3 x0 x1 x2)(k: ∀x0 x1 x2,p0 x0 x1 x2->p1 x0 x1 x2->p2 x0 x1 x2->p3 x0 x1 x2->G):G:=E4 h λ x0 h=>E4 h λ x1 h=>E4 h λ x2 h=>k x0 x1 x2 h.1 h.2.1 h.2.2.1 h.2.2.2
theorem el74 {A0:Sort _}{A1:Sort _}{A2:Sort _}{A3:Sort _}{p0 p1 p2:A0->A1->A2->A3->Prop}{G:Prop}(h: ∃x0,∃x1,∃x2,∃x3,p0 x0 x1 x2 x3/\p1 x0 x1 x2 x3/\p2 x0 x1 x2 x3)(k: ∀x0 x1 x2 x3,p0 x0 x1 x2 x3->p1 x0 x1 x2 x3->p2 x0 x1 x2 x3->G):G:=E4 h λ x0 h=>E4 h λ x1 h=>E4 h λ x2 h=>E4 h λ x3 h=>k x0 x1 x2 x3 h.1 h.2.1 h.2.2
theorem el75 {A0:Sort _}{A1:Sort _}{A2:Sort _}{A3:Sort _}{A4:Sort _}{p0 p1:A0->A1->A2->A3->A4->Prop}{G:Prop}(h: ∃x0,∃x1,∃x2,∃x3,∃x4,p0 x0 x1 x2 x3 x4/\p1 x0 x1 x2 x3 x4)(k: ∀x0 x1 x2 x3 x4,p0 x0 x1 x2 x3 x4->p1 x0 x1 x2 x3 x4->G):G:=E4 h λ x0 h=>E4 h λ x1 h=>E4 h λ x2 h=>E4 h λ x3 h=>E4 h λ x4 h=>k x0 x1 x2 x3 x4 h.1 h.2
theorem el76 {A0:Sort _}{A1:Sort _}{A2:Sort _}{A3:Sort _}{A4:Sort _}{A5:Sort _}{p0:A0->A1->A2->A3->A4->A5->Prop}{G:Prop}(h: ∃x0,∃x1,∃x2,∃x3,∃x4,∃x5,p0 x0 x1 x2 x3 x4 x5)(k: ∀x0 x1 x2 x3 x4 x5,p0 x0 x1 x2 x3 x4 x5->G):G:=E4 h λ x0 h=>E4 h λ x1 h=>E4 h λ x2 h=>E4 h λ x3 h=>E4 h λ x4 h=>E4 h λ x5 h=>k x0 x1 x2 x3 x4 x5 h
@[elab_as_elim] theorem rwR {α:Sort _}{a b:α}{P:α->Prop}(h:a=b)(k:P b):P a:=h▸k
@[elab_as_elim] theorem rwL {α:Sort _}{a b:α}{P:α->Prop}(h:b=a)(k:P b):P a:=h▸k
@[elab_as_elim] theorem rwI {a b:Prop}{P:Prop->Prop}(h:a↔b)(k:P b):P a:=propext h▸k
def kM (k:Lean.Name)(l:List M1):M1:= .node .none k l.toArray
def kN (k:String)(l:List M1):M1:=kM (.str `Lean.Parser.Tactic k) l
def kP (k:String)(l:List M1):M1:=kM (.str `Lean.Parser.Term k) l
def kL (l:List M1):M1:=kM `null l
def kA (s:String):M1:= .atom .none s
def kI (s:String):M1:=(Lean.mkIdent (.mkSimple s)).raw
def kF (l:List M1):M1:=kN "first" [kA "",kL (l.map λ t=>kL [kA "",t])]
def kT (f:M1)(l:List M1):M1:=kP "app" [f,kL l]
def kQ:M1:=kP "syntheticHole" [kA "?",kA "_"]
def kR (h:M1):M1:=kN "refine" [kA "",h]
def kE (f:String)(h:M1):M1:=kR (kT (kI f) [h,kQ])
def kS (e t:M1):M1:=kP "typeAscription" [kP "hygienicLParen" [kA "(",kM `hygieneInfo [(Lean.mkIdent .anonymous).raw]],e,kA ":",t,kA ")"]
def kJ (k:String)(l:List M1)(t:Option M1:=none):M1:=kN k (kA ""::kL l::t.toList)
theorem qsc {α:Type _}{a b:α}{G:Prop}(h:some a=some b)(k:a=b->G):G:=k (Q8 h)
theorem qo0 {a b c:Nat}(h:a<=b:=by assumption)(k:b<=c:=by decide+kernel):a<=c:=A7 h k
theorem qo1 {a b c:Nat}(h:a<b:=by assumption)(k:b<=c:=by decide+kernel):a<c:=C9 h k
theorem qo2 {a b c:Nat}(h:a<=b:=by assumption)(k:b<c:=by decide+kernel):a<c:=C2 h k
theorem qo3 {a b:Nat}{c:Int}(h:a<=b:=by assumption)(k:(b:Int)<=c:=by decide+kernel):(a:Int)<=c:=E1 (H1.mpr h) k
theorem qo4 {a b:Nat}{c:Int}(h:a<=b:=by assumption)(k:(b:Int)<c:=by decide+kernel):(a:Int)<c:=V8 (H1.mpr h) k
theorem qo5 {n:Nat}:(0:Int)<=n:=E9 n
local macro_rules (kind:=Lean.Parser.Tactic.omega)
 | s=>if s[1][0].getNumArgs=0 then pure (kF [kN "assumption" [kA ""],kN "withReducible" [kA "",kF (["qo0","qo2","qo3","qo4","qo1","qo5"].map λ f=>kN "exact" [kA "",kI f])],kN "lia" [kA "",s[1]]]) else Lean.Macro.throwUnsupported
local macro_rules (kind:=Lean.Parser.Tactic.obtain)
 | s =>
  let a:=s[1][0][0][0][1].getSepArgs.toList
  let n:=a.length
  let h:=s[3][1][0]
  let h:=if s[2].getNumArgs=0 then h else kS h (kL [s[2][1]])
  if 1 < n ∧ n < 8 then
   pure (kF ((List.range n).map λ k=>kL [kE s!"el{n}{k}" h,kF [kJ "clear" [h],kL []],
    kL (a.map λ p=>kJ "rintro" [kM `Lean.Parser.Tactic.rintroPat.one [let u:=p[0][0];if u.getNumArgs=1 then u[0] else kM `Lean.Parser.Tactic.rcasesPat.paren [kA "(",p,kA ")"]]] (kL []))]))
  else Lean.Macro.throwUnsupported
local macro_rules (kind:=Lean.Parser.Tactic.rintro)
 | s =>
  let p:=s[1][0][0]
  if s[1].getNumArgs ≠ 1 then pure (kL (s[1].getArgs.toList.map λ p=>kJ "rintro" [p] s[2]))
  else if p.getKind=`Lean.Parser.Tactic.rcasesPat.tuple then pure (kL [kJ "intro" [kI "z"],kN "obtain" [kA "",kL [kN "rcasesPatMed" [kL [p]]],kL [],kL [kA "",kL [kI "z"]]]])
  else Lean.Macro.throwUnsupported
local macro_rules (kind:=Lean.Parser.Tactic.cases)
 | s =>
  let e:=s[1][0][1]
  let u:=kJ "subst" [e]
  if e.isIdent then pure (kF [u,kL [kE "qsc" e,kJ "clear" [e],kJ "intro" [e],u]])
  else Lean.Macro.throwUnsupported
local macro_rules (kind:=Lean.Parser.Tactic.rwSeq)
 | s =>
  if s[3].getNumArgs=0 then
   pure (kL [kL (s[2][1].getSepArgs.toList.map λ r =>
    let w:=kN "rewriteSeq" [kA "",s[1],kN "rwRuleSeq" [kA "",kL [r],kA ""],kL []]
    let f:=if r[0].getNumArgs=0 then "rwR" else "rwL"
    let h:=kP "hole" [kA "_"]
    kL [kN "failIfSuccess" [kA "",kN "failIfSuccess" [kA "",w]],
     kF ([(f,[]),(f,[h]),(f,[h,h]),("rwI",[]),("rwI",[h])].map (λ (f,l)=>kN "withReducibleAndInstances" [kA "",kE f (if l.isEmpty then r[1] else kT r[1] l)]) ++ [w])]),
    kF [kN "withReducible" [kA "",kN "tacticRfl" [kA ""]],kL []]])
  else Lean.Macro.throwUnsupported
local macro_rules (kind:=Lean.Parser.Tactic.show)
 | s=>pure (kR (kS kQ (kL [s[1]])))
local macro_rules (kind:=Lean.Parser.Tactic.change)
 | s=>if s[2].getNumArgs=0 then pure (kR (kS kQ (kL [s[1]]))) else Lean.Macro.throwUnsupported
theorem lq {a b c:Nat}(h:a<b)(e:c=b):a<c:=e▸h
theorem z0 (i:Nat):(0+(i:Int)).toNat=i:=congrArg N7 (U0 _)
theorem nab {x:Int}{n:Nat}(h:x.natAbs<=n): -(n:Int)<=x/\x<=n:=
 ⟨E1 (Int.neg_le_neg (H1.mpr h)) (zi0 (zcw x▸zke)),E1 zke (H1.mpr h)⟩
theorem nmx (x:Int):((max 1 x.toNat:Nat):Int)=max 1 x:=by
 rcases zlf 0 x with h|h
 ·obtain⟨n,rfl⟩:=K2 h
  show((max 1 n:Nat):Int)=max 1 (n:Int);rcases zsq 1 n with q|q
  ·rw[yaq q];exact(zgs (H1.mpr q)).symm
  ·rw[ybu q];exact(zeb (H1.mpr q)).symm
 ·rw[zei h,zeb (E1 h (by decide))];rfl
theorem mpn (m:Int):(m.toNat:Int)+(if m<0 then m else 0)=m:=by
 split
 ·next h=>rw[zei (za2 h)];exact U0 m
 ·next h=>rw[L8 (R7.mp h)];exact zab m
theorem ifx (x:Int):(if x>1 then x else 1)=max 1 x:=by
 split
 ·next h=>exact(zgs (za2 h)).symm
 ·next h=>exact(zeb (R7.mp h)).symm
theorem nlb (n:Nat): -2^60<=(n:Int):=E1 (by decide) (E9 n)
theorem zn (n:Nat):0<=0+(n:Int):=zcx (V2 0) (E9 n)
theorem o3 {n:Nat}(h:n<3):n=0\/n=1\/n=2:=by omega
theorem m2 (x:Int):1-2*x.fmod 2=1\/1-2*x.fmod 2= -1:=by
 rw[R8 _ (by decide)]
 rcases Int.emod_two_eq x with e|e<;>rw[e]<;>decide
@[elab_as_elim] theorem n3 {P:Nat->Prop}(a:P 0)(b:P 1)(c:P 2){k:Nat}(h:k<3):P k:=by
  rcases o3 h with e|e|e<;>rw[e]<;>assumption
theorem l0 {α:Type}{P:List α->Prop}(h:P []): ∀l,l.length=0->P l:=λ z e=>W5 e▸h
theorem lS {α:Type}{n:Nat}{P:List α->Prop}(h: ∀a l,l.length=n->P (a::l)): ∀l,l.length=n+1->P l:=
 λ l=>List.casesOn l (λ e=>absurd e.symm (Nat.succ_ne_zero n)) λ a l e=>h a l (N3 e)
theorem all1 {α:Type}{P:List α->Prop}(h: ∀a,P [a]): ∀l,l.length=1->P l:=lS λ a=>l0 (P:=λ l=>P (a::l)) (h a)
theorem all2 {α:Type}{P:List α->Prop}(h: ∀a b,P [a,b]): ∀l,l.length=2->P l:=lS λ a=>all1 (P:=λ l=>P (a::l)) (h a)
theorem yd0 {α:Type}{P:List α->Prop}(h: ∀a b c,P [a,b,c]): ∀l,l.length=3->P l:=lS λ a=>all2 (P:=λ l=>P (a::l)) (h a)
theorem yh5 {α:Type}{P:List α->Prop}(h: ∀a b c d,P [a,b,c,d]): ∀l,l.length=4->P l:=lS λ a=>yd0 (P:=λ l=>P (a::l)) (h a)
theorem ygj {α:Type}{P:List α->Prop}(h: ∀a b c d e,P [a,b,c,d,e]): ∀l,l.length=5->P l:=lS λ a=>yh5 (P:=λ l=>P (a::l)) (h a)
theorem yhk {α:Type}{P:List α->Prop}(h: ∀a b c d e f,P [a,b,c,d,e,f]): ∀l,l.length=6->P l:=lS λ a=>ygj (P:=λ l=>P (a::l)) (h a)
theorem yh4 {α:Type}{P:List α->Prop}(h: ∀a b c d e f g,P [a,b,c,d,e,f,g]): ∀l,l.length=7->P l:=lS λ a=>yhk (P:=λ l=>P (a::l)) (h a)
@[elab_as_elim] theorem n2 {P:Nat->Prop}(a:P 0)(b:P 1){k:Nat}(h:k<2):P k:=by
  rcases zb9.mp h with e|e
  ·rw[zpe.mp e];exact a
  ·rw[e];exact b
theorem x1 {α:Type}{l:List α}(h:l.length=1): ∃a,l=[a]:=all1 (P:=λ l=> ∃a,l=[a]) (λ a=>⟨a,rfl⟩) l h
theorem x2 {α:Type}{l:List α}(h:l.length=2): ∃a b,l=[a,b]:=all2 (P:=λ l=> ∃a b,l=[a,b]) (λ a b=>⟨a,b,rfl⟩) l h
theorem x3 {α:Type}{l:List α}(h:l.length=3): ∃a b c,l=[a,b,c]:=yd0 (P:=λ l=> ∃a b c,l=[a,b,c]) (λ a b c=>⟨a,b,c,rfl⟩) l h
theorem x5 {α:Type}{l:List α}(h:l.length=5): ∃a b c d e,l=[a,b,c,d,e]:=ygj (P:=λ l=> ∃a b c d e,l=[a,b,c,d,e]) (λ a b c d e=>⟨a,b,c,d,e,rfl⟩) l h
@[elab_as_elim] theorem n4 {P:Nat->Prop}(a:P 0)(b:P 1)(c:P 2)(d:P 3){k:Nat}(h:k<4):P k:=by
  rcases zb9.mp h with e|e
  ·exact n3 a b c e
  ·rw[e];exact d
@[elab_as_elim] theorem n5 {P:Nat->Prop}(a:P 0)(b:P 1)(c:P 2)(d:P 3)(f:P 4){k:Nat}(h:k<5):P k:=by
  rcases zb9.mp h with e|e
  ·exact n4 a b c d e
  ·rw[e];exact f
@[elab_as_elim] theorem n6 {P:Nat->Prop}(a:P 0)(b:P 1)(c:P 2)(d:P 3)(f:P 4)(g:P 5){k:Nat}(h:k<6):P k:=by
  rcases zb9.mp h with e|e
  ·exact n5 a b c d f e
  ·rw[e];exact g
theorem zo3 {a n:Nat}(hn:0<n):a<=n*((a+n-1) / n):=by
 have h:=Nat.lt_mul_div_succ (a+n-1) hn;rw[R6,W6] at h;exact Nat.le_of_add_le_add_right (A7 (Q0 (zaz (A7 hn (J6 n a))).symm) h)
theorem abn {x:Int}{n:Nat}(h1: -(n:Int)<=x)(h2:x<=n):x.natAbs<=n:=by
 rcases zlf 0 x with h|h
 ·exact H1.mp (by rw[zdz h];exact h2)
 ·exact H1.mp (by rw[Int.ofNat_natAbs_of_nonpos h];exact zi0 h1)
theorem mx1 (y:Int):max 1 (y+1).toNat=(max 0 y).toNat+1:=by
 rcases zlf 0 y with h|h
 ·obtain⟨n,rfl⟩:=K2 h
  rw[zgs h];exact yaq (J6 1 n)
 ·rw[zeb h];exact ybu (O4.mpr (W9 h 1))
theorem ybg {k:Nat}(h0:0<k)(h1:k≠1): ∃k1 k2,k=k1+k2/\0<k1/\0<k2/\ ∀L,(L+(L+k)) / 2=L+k1:=
 ⟨k / 2,k-k / 2,by omega,by omega,by omega,λ L=>by omega⟩
theorem yhb {a b n:Nat}(h:a-b<=n+1):a-(b+1)<=n:=by rw[zpd];exact zuz h
theorem yha {a b e n:Nat}(h:a-b<=n+1)(g:b<e):a-e<=n:=A7 (Nat.sub_le_sub_left g a) (yhb h)
theorem yea {a b n:Nat}(h:a-b=n+1):a-(b+1)=n:=by rw[zpd,h];rfl
theorem rv0 {n k:Nat}(h:k<n):((n-1-k:Nat):Int)=(n:Int)-1-k:=by
 rw[T8 (Z9 h),T8 (C2 (Q7 k) h)];rfl
theorem ye2 {x:Int}(h1: -(2^60)<=x)(h2:x<=2^60): -9223372036854775808<=x/\x<9223372036854775808:=⟨E1 (by decide) h1,V8 h2 (by decide)⟩
theorem fmc {α:Type}{p:α->Prop}{a:α}{l:List α}(h:p a)(k: ∀x∈l,p x): ∀x∈a::l,p x:=List.forall_mem_cons.mpr ⟨h,k⟩
theorem fmn {α:Type}{p:α->Prop}: ∀x∈([]:List α),p x:=λ z h=>absurd h D6
theorem fmm {α β:Type}{p:β->Prop}{f:α->β}{l:List α}(h: ∀a∈l,p (f a)): ∀b∈l.map f,p b:=List.forall_mem_map.mpr h
theorem fma {α:Type}{p:α->Prop}{l r:List α}(h: ∀a∈l,p a)(k: ∀a∈r,p a): ∀a∈l++r,p a:=List.forall_mem_append.mpr ⟨h,k⟩
theorem noM {α:Type}{a:α}{P:Prop}(h:a∈([]:List α)):P:=absurd h D6
theorem zp2 {M:ze7}{Γ:zf8}{p:Pos}{t:Sem Fin}{fs:List Frame}{s s':A8}{e:End}(h:Runs M Γ p t fs s e s'):s.heap.objs.size<=s'.heap.objs.size:=by
 induction h<;>(try simp only[yao,zlr,G8] at*)<;>omega
theorem zsw {M:ze7}{Γ:zf8}{p:Pos}{g:Nat}{r:Resume}{s s':A8}{res:GenResult}(h:Wakes M Γ p g r s res s'){P:A8->Prop}(p0:P s)(p1: ∀x,P (s.setGen g x))
 (p2: ∀Γ' p' t fs e₁ s₁,Runs M Γ' p' t fs (s.setGen g .running) e₁ s₁->P (s₁.setGen g e₁.genState)):P s':=by
 have q: ∀{y},s'=y->P y->P s':=λ e k=>e▸k
 delta Wakes at h
 generalize s.gens[g]? =z at h
 cases z with
 |none=>exact h.elim
 |some y=>
  cases y with
  |fresh c=>
   cases r with
   |send v=>cases v<;>first|exact E4 h λ e₁ h=>E4 h λ s₁ h=>q h.2.2.2 (p2 _ _ _ _ _ _ h.1)|exact q h.2 p0
   |throw x=>exact q h.2 (p1 _)
  |suspended=>exact E4 h λ e₁ h=>E4 h λ s₁ h=>q h.2.2.2 (p2 _ _ _ _ _ _ h.1)
  |running=>exact q h.2 p0
  |finished=>exact q h.2 p0
theorem zua {M:ze7}{Γ:zf8}{p:Pos}{g:Nat}{r:Resume}{s s':A8}{res:GenResult}(h:Wakes M Γ p g r s res s'):s.heap.objs.size<=s'.heap.objs.size:=
 zsw h (P:=λ s'=>s.heap.objs.size<=s'.heap.objs.size) (D2 _) (λ z=>D2 _) λ z z z z z z hr=>(zp2 hr:(s.setGen g .running).heap.objs.size<=_)
theorem yb5 {α:Type}(M:ze7)(Γ:zf8)(n:Nat)(t:Sem α): ∀(Q:α->Pos->A8->Prop) (E:Value->Pos->A8->Prop) (p:Pos) (s:A8),n<=s.heap.objs.size->Sem.wp M Γ t Q E p s->
 Sem.wp M Γ t (λ a p' s'=>n<=s'.heap.objs.size/\Q a p' s') (λ e p' s'=>n<=s'.heap.objs.size/\E e p' s') p s:=by
 induction t with
 |pure a=>intro Q E p s hn h;exact⟨hn,h⟩
 |raise e=>intro Q E p s hn h;exact⟨hn,h⟩
 |unsupported _=>intro Q E p s _ h;exact h
 |finish _=>intro Q E p s _ h;exact h
 |rule _ k ih=>intro Q E p s hn h;exact ih () Q E p s hn h
 |«at» p' k ih=>intro Q E p s hn h;exact ih () Q E p' s hn h
 |load a _ k ih=>intro Q E p s hn h;obtain⟨o,ho,h⟩:=h;exact⟨o,ho,ih o Q E p s hn h⟩
 |update a _ f k ih=>intro Q E p s hn h;exact⟨h.1,ih () Q E p _ (by simpa only[zlr] using hn) h.2⟩
 |loadIfAlive a k ih=>intro Q E p s hn h;exact ih _ Q E p s hn h
 |point _ k ih=>intro Q E p s hn h;exact ih () Q E p s hn h
 |register _ _=>intro Q E p s _ h;exact h
 |alloc o k ih=>intro Q E p s hn h;exact ih _ Q E p _ (by simp only[G8];omega) h
 |fresh k ih=>intro Q E p s hn h;exact ih _ Q E p _ hn h
 |ask k ih=>intro Q E p s hn h;exact ih _ Q E p s hn h
 |choose src m k ih=>intro Q E p s hn h;exact⟨h.1,ih _ Q E p _ hn h.2⟩
 |os q _ k ih=>intro Q E p s hn h;exact ih _ Q E p _ hn h
 |call c hd _ _ k ih=>intro Q E p s hn h;obtain⟨r,s',hr,h⟩:=h;exact⟨r,s',hr,ih r Q E p s' (A7 hn (zp2 hr)) h⟩
 |handled own k ih=>intro Q E p s hn h;exact ih _ Q E p s hn h
 |genState g k ih=>intro Q E p s hn h;obtain⟨st,hs,h⟩:=h;exact⟨st,hs,ih _ Q E p s hn h⟩
 |newGen c k ih=>intro Q E p s hn h;exact ih _ Q E p _ hn h
 |resume g r _ k ih=>intro Q E p s hn h;obtain⟨res,s',hw,h⟩:=h;exact⟨res,s',hw,ih res Q E p s' (A7 hn (zua hw)) h⟩
 |yield _ _ _ _=>intro Q E p s _ h;exact h
 |stack k ih=>intro Q E p s hn h;exact ih _ Q E p s hn h
 |fork _ _=>intro Q E p s _ h;exact h
 |thread k ih=>intro Q E p s hn h;exact ih _ Q E p s hn h
 |await _ _ _ _ _=>intro Q E p s _ h;exact h
theorem zof {α:Type}{M:ze7}{A:H2}{s:A8}{t:Sem α}{Q:α->A8->Prop}{E:Value->A8->Prop}{n:Nat}(hn:n<=s.heap.objs.size)(h:D0 M A t Q E s):
 D0 M A t (λ a s'=>n<=s'.heap.objs.size/\Q a s') (λ e s'=>n<=s'.heap.objs.size/\E e s') s:=λ Γ p hΓ=>yb5 M Γ n t _ _ p s hn (h Γ p hΓ)
theorem Q4 {α:Type}{M:ze7}{A:H2}{s:A8}{t:Sem α}{Q:α->A8->Prop}{E:Value->A8->Prop}
 (h:D0 M A t (λ a s'=>s.heap.objs.size<=s'.heap.objs.size->Q a s') (λ e s'=>s.heap.objs.size<=s'.heap.objs.size->E e s') s):D0 M A t Q E s:=
 E7 (zof (D2 _) h) (λ z z x=>x.2 x.1) (λ z z x=>x.2 x.1)
theorem zp1 {M:ze7}{Γ:zf8}{p:Pos}{t:Sem Fin}{fs:List Frame}{s s':A8}{e:End}(h:Runs M Γ p t fs s e s'):s.toks<=s'.toks:=by
 induction h<;>(try simp only[yao] at*)<;>omega
theorem zt9 {M:ze7}{Γ:zf8}{p:Pos}{g:Nat}{r:Resume}{s s':A8}{res:GenResult}(h:Wakes M Γ p g r s res s'):s.toks<=s'.toks:=
 zsw h (P:=λ s'=>s.toks<=s'.toks) (D2 _) (λ z=>D2 _) λ z z z z z z hr=>(zp1 hr:(s.setGen g .running).toks<=_)
theorem yb4 {α:Type}(M:ze7)(Γ:zf8)(n:Nat)(t:Sem α): ∀(Q:α->Pos->A8->Prop) (E:Value->Pos->A8->Prop) (p:Pos) (s:A8),n<=s.toks->Sem.wp M Γ t Q E p s->
 Sem.wp M Γ t (λ a p' s'=>n<=s'.toks/\Q a p' s') (λ e p' s'=>n<=s'.toks/\E e p' s') p s:=by
 induction t with
 |pure a=>intro Q E p s hn h;exact⟨hn,h⟩
 |raise e=>intro Q E p s hn h;exact⟨hn,h⟩
 |unsupported _=>intro Q E p s _ h;exact h
 |finish _=>intro Q E p s _ h;exact h
 |rule _ k ih=>intro Q E p s hn h;exact ih () Q E p s hn h
 |«at» p' k ih=>intro Q E p s hn h;exact ih () Q E p' s hn h
 |load a _ k ih=>intro Q E p s hn h;obtain⟨o,ho,h⟩:=h;exact⟨o,ho,ih o Q E p s hn h⟩
 |update a _ f k ih=>intro Q E p s hn h;exact⟨h.1,ih () Q E p _ hn h.2⟩
 |loadIfAlive a k ih=>intro Q E p s hn h;exact ih _ Q E p s hn h
 |point _ k ih=>intro Q E p s hn h;exact ih () Q E p s hn h
 |register _ _=>intro Q E p s _ h;exact h
 |alloc o k ih=>intro Q E p s hn h;exact ih _ Q E p _ hn h
 |fresh k ih=>intro Q E p s hn h;exact ih _ Q E p _ (G5 hn) h
 |ask k ih=>intro Q E p s hn h;exact ih _ Q E p s hn h
 |choose src m k ih=>intro Q E p s hn h;exact⟨h.1,ih _ Q E p _ hn h.2⟩
 |os q _ k ih=>intro Q E p s hn h;exact ih _ Q E p _ hn h
 |call c hd _ _ k ih=>intro Q E p s hn h;obtain⟨r,s',hr,h⟩:=h;exact⟨r,s',hr,ih r Q E p s' (A7 hn (zp1 hr)) h⟩
 |handled own k ih=>intro Q E p s hn h;exact ih _ Q E p s hn h
 |genState g k ih=>intro Q E p s hn h;obtain⟨st,hs,h⟩:=h;exact⟨st,hs,ih _ Q E p s hn h⟩
 |newGen c k ih=>intro Q E p s hn h;exact ih _ Q E p _ hn h
 |resume g r _ k ih=>intro Q E p s hn h;obtain⟨res,s',hw,h⟩:=h;exact⟨res,s',hw,ih res Q E p s' (A7 hn (zt9 hw)) h⟩
 |yield _ _ _ _=>intro Q E p s _ h;exact h
 |stack k ih=>intro Q E p s hn h;exact ih _ Q E p s hn h
 |fork _ _=>intro Q E p s _ h;exact h
 |thread k ih=>intro Q E p s hn h;exact ih _ Q E p s hn h
 |await _ _ _ _ _=>intro Q E p s _ h;exact h
theorem S8 {α:Type}{M:ze7}{A:H2}{s:A8}{t:Sem α}{Q:α->A8->Prop}{E:Value->A8->Prop}{n:Nat}(hn:n<=s.toks)
 (h:D0 M A t (λ a s'=>n<=s'.toks->Q a s') (λ e s'=>n<=s'.toks->E e s') s):D0 M A t Q E s:=λ Γ p hΓ=>
 Sem.wp_mono M Γ _ (λ z z z x=>x.2 x.1) (λ z z z x=>x.2 x.1) _ _ (yb4 M Γ n t _ _ p s hn (h Γ p hΓ))
inductive D where
 |none|bool (b:Bool)|int (i:Int)|str (x:Str)|tup (l:List D)|lst (l:List D)|ptr (a:Addr)
noncomputable abbrev M8 (vs:List Value)(n:Nat):Obj:={cls:= .type "list",data:= .seq vs.toArray n}
noncomputable abbrev R4 (vs:List Value)(n:Nat):Obj:={cls:= .type "tuple",data:= .seq vs.toArray n}
noncomputable def IsL (o:Obj)(vs:List Value):Prop:= ∃n,o=M8 vs n
theorem IsL.mk' (vs:List Value)(n:Nat):IsL (M8 vs n) vs:=⟨n,rfl⟩
open Internal.IsL renaming mk'->zho
mutual
noncomputable def Rp (g:Addr->Option Obj):D->Value->Prop
 | .none,v=>v= .none
 | .bool b,v=>v= .bool b
 | .int i,v=> ∃t,v= .int i t
 | .str x,v=> ∃t,v= .str x t
 | .tup l,v=> ∃a n vs,v= .ref a/\g a=some (R4 vs n)/\RpL g l vs
 | .lst l,v=> ∃a o vs,v= .ref a/\g a=some o/\IsL o vs/\RpL g l vs
 | .ptr a,v=>v= .ref a
noncomputable def RpL (g:Addr->Option Obj):List D->List Value->Prop
 |[],vs=>vs=[]
 |d::r,vs=> ∃v us,vs=v::us/\Rp g d v/\RpL g r us
end
theorem Rp.p0 {g:Addr->Option Obj}{a:Addr}{v:Value}(h:Rp g (.ptr a) v):v= .ref a:=h
theorem RpL.i0 {g:Addr->Option Obj}{vs:List Value}(h:RpL g [] vs):vs=[]:=h
theorem RpL.ic {g:Addr->Option Obj}{d:D}{l:List D}{vs:List Value}(h:RpL g (d::l) vs): ∃v us,vs=v::us/\Rp g d v/\RpL g l us:=h
open Internal.RpL renaming ic->zgw
theorem RpL.i1 {g:Addr->Option Obj}{d:D}{vs:List Value}(h:RpL g [d] vs): ∃v,vs=[v]/\Rp g d v:=by
 obtain⟨v,us,rfl,r,h⟩:=h.ic;rw[h.i0];exact⟨v,rfl,r⟩
open Internal.RpL renaming i1->zc0
theorem RpL.i2 {g:Addr->Option Obj}{d e:D}{vs:List Value}(h:RpL g [d,e] vs): ∃v u,vs=[v,u]/\Rp g d v/\Rp g e u:=by
 obtain⟨v,us,rfl,r,h⟩:=h.ic;obtain⟨u,rfl,r2⟩:=h.i1;exact⟨v,u,rfl,r,r2⟩
open Internal.RpL renaming i2->zkp
theorem RpL.i3 {g:Addr->Option Obj}{d e f:D}{vs:List Value}(h:RpL g [d,e,f] vs): ∃v u t,vs=[v,u,t]/\Rp g d v/\Rp g e u/\Rp g f t:=by
 obtain⟨v,us,rfl,r,h⟩:=h.ic;obtain⟨u,t,rfl,r2,r3⟩:=h.i2;exact⟨v,u,t,rfl,r,r2,r3⟩
noncomputable def hid (K:List Addr)(h:P9)(a:Addr):Option Obj:=if a∈K then none else h.get? a
theorem ygx (h:P9)(a:Addr):hid [] h a=h.get? a:=by simp[hid]
theorem hid_some {K:List Addr}{h:P9}{a:Addr}{o:Obj}:hid K h a=some o↔a∉K/\h.get? a=some o:=by
 unfold hid;split<;>simp_all
noncomputable def Sq (o:Obj):Prop:= ∃vs n,o.data= .seq vs n
mutual
theorem Rp.mono {g g':Addr->Option Obj}(hg: ∀a o,Sq o->g a=some o->g' a=some o): ∀(d:D) (v:Value),Rp g d v->Rp g' d v
 | .none,v=>λ h=>h
 | .bool b,v=>λ h=>h
 | .int i,v=>λ h=>h
 | .str x,v=>λ h=>h
 | .tup l,v=>λ h=>by
   obtain⟨a,n,vs,e,ho,hl⟩:=h;exact⟨a,n,vs,e,hg _ _ ⟨_,_,rfl⟩ ho,RpL.mono hg l vs hl⟩
 | .lst l,v=>λ h=>by
   obtain⟨a,o,vs,e,ho,hL,hl⟩:=h;exact⟨a,o,vs,e,hg _ _ (let ⟨n,h⟩:=hL;⟨vs.toArray,n,by rw[h]⟩) ho,hL,RpL.mono hg l vs hl⟩
 | .ptr a,v=>λ h=>h
theorem RpL.mono {g g':Addr->Option Obj}(hg: ∀a o,Sq o->g a=some o->g' a=some o): ∀(l:List D) (vs:List Value),RpL g l vs->RpL g' l vs
 |[],vs=>λ h=>h
 |d::r,vs=>λ h=>by
  obtain⟨v,us,e,h1,h2⟩:=zgw h;exact⟨v,us,e,Rp.mono hg d v h1,RpL.mono hg r us h2⟩
end
open Internal.RpL renaming mono->za4
open Internal.Rp renaming mono->zeo
theorem RpL.nil {g:Addr->Option Obj}:RpL g [] []:=rfl
open Internal.RpL renaming nil->Z8
theorem RpL.cons {g:Addr->Option Obj}{d v l vs}(h:Rp g d v)(t:RpL g l vs):RpL g (d::l) (v::vs):=by exact⟨v,vs,rfl,h,t⟩
open Internal.RpL renaming cons->U4
theorem RpL.length {g:Addr->Option Obj}{l:List D}: ∀{vs:List Value},RpL g l vs->vs.length=l.length:=by
 induction l with
 |nil=>intro vs h;rw[RpL.i0 h];rfl
 |cons d r ih=>
  intro vs h;obtain⟨v,us,e,_,h2⟩:=zgw h;rw[e,S7,S7,ih h2]
theorem RpL.get {g:Addr->Option Obj}{l:List D}: ∀{vs:List Value},RpL g l vs-> ∀{i:Nat} {d:D},l[i]? =some d-> ∃v,vs[i]? =some v/\Rp g d v:=by
 induction l with
 |nil=>intro vs h i d e;cases e
 |cons d' r ih=>
  intro vs h i d e;obtain⟨v,us,rfl,h1,h2⟩:=zgw h
  cases i with
  |zero=>exact⟨v,rfl,Q8 e▸h1⟩
  |succ i=>exact ih (vs:=us) h2 (i:=i) e
theorem RpL.getV {g:Addr->Option Obj}{l:List D}: ∀{vs:List Value},RpL g l vs-> ∀{i:Nat} {v:Value},vs[i]? =some v-> ∃d,l[i]? =some d/\Rp g d v:=by
 induction l with
 |nil=>intro vs h i d e;rw[h.i0] at e;cases e
 |cons d' r ih=>
  intro vs h i d e;obtain⟨v,us,rfl,h1,h2⟩:=zgw h
  cases i with
  |zero=>exact⟨d',rfl,Q8 e▸h1⟩
  |succ i=>exact ih (vs:=us) h2 (i:=i) e
theorem RpL.append {g:Addr->Option Obj}{l:List D}{vs:List Value}{l' vs'}(h:RpL g l vs)(h':RpL g l' vs'):RpL g (l++l') (vs++vs'):=by
 induction l generalizing vs with
 |nil=>rw[h.i0];exact h'
 |cons d r ih=>
  obtain⟨v,us,rfl,h1,h2⟩:=zgw h;exact U4 h1 (ih h2)
theorem RpL.snoc {g:Addr->Option Obj}{l vs d v}(h:RpL g l vs)(hd:Rp g d v):RpL g (l++[d]) (vs++[v]):=RpL.append h (U4 hd Z8)
theorem RpL.split {g:Addr->Option Obj}{l l':List D}: ∀{vs:List Value},RpL g (l++l') vs-> ∃us us',vs=us++us'/\RpL g l us/\RpL g l' us':=by
 induction l with
 |nil=>exact λ{vs} h=>⟨[],vs,rfl,Z8,h⟩
 |cons d r ih=>
  intro vs h;obtain⟨v,us,rfl,h1,h2⟩:=zgw h;obtain⟨a,b,rfl,h3,h4⟩:=ih h2;exact⟨v::a,b,rfl,U4 h1 h3,h4⟩
theorem RpL.of_all {g:Addr->Option Obj}{l:List D}: ∀{vs:List Value},l.length=vs.length->(∀(i:Nat) (d:D) (v:Value),l[i]? =some d->vs[i]? =some v->Rp g d v)->RpL g l vs:=by
 induction l with
 |nil=>intro vs h k;rw[W5 h.symm];exact Z8
 |cons d r ih=>
  intro vs h k
  cases vs with
  |nil=>exact Nat.noConfusion h
  |cons v us=>exact U4 (k 0 d v rfl rfl) (ih (N3 h) λ i d' v' e e'=>k (i+1) d' v' e e')
theorem RpL.set {g:Addr->Option Obj}{l vs d v}(h:RpL g l vs)(i:Nat)(hd:Rp g d v):RpL g (l.set i d) (vs.set i v):=by
 refine RpL.of_all (by simp[h.length]) λ j d' v' e e'=>?_
 rw[zfo] at e e';split at e
 ·rename_i hij
  rw[if_pos hij] at e';split at e
  ·split at e'
   ·cases e;cases e';exact hd
   ·cases e'
  ·cases e
 ·rename_i hij
  rw[if_neg hij] at e';obtain⟨v'',h1,h2⟩:=h.get e;rw[h1] at e';cases e';exact h2
noncomputable def TbAt (h:P9)(c P:Addr)(l k:Int)(q:Str):Prop:=
 ∃ps,h.IsCode c P ps/\h.TableAt c P ps/\(ps= #[]\/ ∃c' o',ps= #[I6 l,I6 k,.ref c']/\h.get? c'=some o'/\o'.cls= .type "code"/\h.CodeRec (.ref c') q)
noncomputable def Tb (h:P9):Prop:=311<=h.objs.size/\TbAt h 86 82 86 4 (G9 "_int2digits.<locals>.inner")/\TbAt h 93 89 101 4 (G9 "_digits2int.<locals>.inner")
noncomputable def NoF (o:Obj):Prop:=(∀vs,o.data≠ .fields vs)\/(o.cls≠ .type "code"/\o.cls≠ .none)
theorem NoF.not {o:Obj}{vs:Array Value}(hd:o.data= .fields vs)(hc:o.cls= .type "code"\/o.cls= .none): ¬NoF o:=by
 rintro(h|h)
 ·exact h _ hd
 ·rcases hc with e|e
  ·exact h.1 e
  ·exact h.2 e
theorem TbAt.butQ {h h':P9}{c P:Addr}{l k:Int}{q:Str}(x:TbAt h c P l k q)(h1: ∀o,o.cls= .type "code"->(∃vs,o.data= .fields vs)->h.get? c=some o->h'.get? c=some o)(h2: ∀o,o.cls= .none->(∃vs,o.data= .fields vs)->h.get? P=some o->h'.get? P=some o)
 (h3: ∀c' o,o.cls= .type "code"->(∃vs,o.data= .fields vs)->h.get? c'=some o->h'.get? c'=some o):TbAt h' c P l k q:=by
 obtain⟨ps,hc,ht,hp⟩:=x;obtain⟨⟨o1,vs1,g1,g2,g3,g4⟩,g5⟩:=ht;have k1:=h1 _ g2 ⟨_,g3⟩ g1;have k2:=h2 _ rfl ⟨_,rfl⟩ g5;refine⟨ps,?_,⟨⟨o1,vs1,k1,g2,g3,g4⟩,k2⟩,?_⟩
 ·obtain⟨o,vs,file,tf,flags,tg,inF,text,tt,op,e1,e2,r1,r2,r3,r4,r5,e3,e4,r6⟩:=hc
  rw[g1] at e1;cases e1;rw[g5] at e3;cases e3;exact⟨o1,vs,file,tf,flags,tg,inF,text,tt,_,k1,e2,r1,r2,r3,r4,r5,k2,e4,r6⟩
 ·rcases hp with hp|⟨c',o',e,f1,f2,c,o,vs,t,f3,f4,f5,f6⟩
  ·exact .inl hp
  ·cases f3
   rw[f1] at f4;cases f4;have:=h3 _ _ f2 ⟨_,f5⟩ f1;exact .inr ⟨c',o',e,this,f2,c',o',vs,t,rfl,this,f5,f6⟩
theorem TbAt.butW {h h':P9}{c P:Addr}{l k:Int}{q:Str}{W:List Addr}(x:TbAt h c P l k q)(hk: ∀b o,b∉W-> ¬NoF o->h.get? b=some o->h'.get? b=some o)(ha: ∀a∈W,∀o,h.get? a=some o->NoF o):TbAt h' c P l k q:=
 have kk: ∀b o,¬NoF o->h.get? b=some o->h'.get? b=some o:=λ b o n e=>hk b o (λ q=>n (ha b q o e)) n e
 x.butQ (λ o e1 ⟨_,e2⟩=>kk _ o (NoF.not e2 (.inl e1))) (λ o e1 ⟨_,e2⟩=>kk _ o (NoF.not e2 (.inr e1))) λ _ o e1 ⟨_,e2⟩=>kk _ o (NoF.not e2 (.inl e1))
theorem TbAt.but {h h':P9}{c P:Addr}{l k:Int}{q:Str}{a:Addr}(x:TbAt h c P l k q)(hk: ∀b o,b≠a->h.get? b=some o->h'.get? b=some o)(ha: ∀o,h.get? a=some o->NoF o):TbAt h' c P l k q:=
 x.butW (W:=[a]) (λ b o hb z e=>hk b o (λ q=>hb (q▸A9)) e) λ b hb=>by rw[B2] at hb;subst hb;exact ha
theorem TbAt.butP {h h':P9}{c P:Addr}{l k:Int}{q:Str}{a:Addr}(x:TbAt h c P l k q)(hk: ∀b o,b≠a->h.get? b=some o->h'.get? b=some o)(h1:c≠a)(h2:P≠a)
 (h3: ∀c' o',h.get? c'=some o'->c'=a->o'.cls≠ .type "code"):TbAt h' c P l k q:=
 x.butQ (λ o z z=>hk _ o h1) (λ o z z=>hk _ o h2) λ c' o e z g=>hk c' o (λ q=>h3 c' o g q e) g
theorem TbAt.keeps {h h':P9}{c P:Addr}{l k:Int}{q:Str}(x:TbAt h c P l k q)(hk: ∀b o,h.get? b=some o->h'.get? b=some o):TbAt h' c P l k q:=
 x.butQ (λ o z z=>hk _ o) (λ o z z=>hk _ o) λ c' o z z=>hk c' o
theorem Tb.but {h h':P9}{a:Addr}(x:Tb h)(hs:h.objs.size<=h'.objs.size)(hk: ∀b o,b≠a->h.get? b=some o->h'.get? b=some o)(ha: ∀o,h.get? a=some o->NoF o):Tb h':=
 ⟨A7 x.1 hs,x.2.1.but hk ha,x.2.2.but hk ha⟩
theorem Tb.butW {h h':P9}{W:List Addr}(x:Tb h)(hs:h.objs.size<=h'.objs.size)(hk: ∀b o,b∉W-> ¬NoF o->h.get? b=some o->h'.get? b=some o)(ha: ∀a∈W,∀o,h.get? a=some o->NoF o):Tb h':=
 ⟨A7 x.1 hs,x.2.1.butW hk ha,x.2.2.butW hk ha⟩
theorem Tb.keeps {h h':P9}(x:Tb h)(hs:h.objs.size<=h'.objs.size)(hk: ∀b o,h.get? b=some o->h'.get? b=some o):Tb h':=
 ⟨A7 x.1 hs,x.2.1.keeps hk,x.2.2.keeps hk⟩
theorem Tb.off {h:P9}(x:Tb h){a:Addr}{o:Obj}(e:h.get? a=some o)(n:NoF o):a≠82/\a≠89:=by
 obtain⟨_,⟨p1,_,t1,_⟩,⟨p2,_,t2,_⟩⟩:=x;constructor
 ·rintro rfl;rw[t1.2] at e;cases e;exact NoF.not rfl (.inr rfl) n
 ·rintro rfl;rw[t2.2] at e;cases e;exact NoF.not rfl (.inr rfl) n
theorem IsL.sq {o:Obj}{vs:List Value}(h:IsL o vs):Sq o:=let ⟨n,h⟩:=h;⟨vs.toArray,n,by rw[h]⟩
structure Go (s s':A8):Prop where
 keep: ∀a o,a≠82->a≠89->s.heap.get? a=some o->s'.heap.get? a=some o
 tab:Tb s.heap->Tb s'.heap
 size:s.heap.objs.size<=s'.heap.objs.size
 gens: ∀(i:Nat) (x:zb7),s.gens[i]? =some x->s'.gens[i]? =some x
 bare: ∀(i:Nat) (x:zb7),s'.gens[i]? =some x->s.gens[i]? =some x\/x.bare=true
 os:s'.os=s.os
theorem Go.refl (s:A8):Go s s:=⟨λ z z z z e=>e,id,D2 _,λ z z e=>e,λ z z e=> .inl e,rfl⟩
open Internal.Go renaming refl->M4
theorem Go.trans {s₁ s₂ s₃:A8}(x:Go s₁ s₂)(y:Go s₂ s₃):Go s₁ s₃:=by
 refine⟨λ a o h1 h2 e=>y.keep a o h1 h2 (x.keep a o h1 h2 e),λ t=>y.tab (x.tab t),A7 x.size y.size,λ i g e=>y.gens i g (x.gens i g e),λ i g e=>?_,y.os.trans x.os⟩;rcases y.bare i g e with h|h
 ·exact x.bare i g h
 ·exact .inr h
theorem Go.of {s s':A8}(hk: ∀b o,s.heap.get? b=some o->s'.heap.get? b=some o)(hs:s.heap.objs.size<=s'.heap.objs.size)(hg:s'.gens=s.gens)(ho:s'.os=s.os):Go s s':=
 ⟨λ a o z z e=>hk a o e,λ t=>t.keeps hs hk,hs,λ i x e=>by rw[hg];exact e,λ i x e=> .inl (by rw[hg] at e;exact e),ho⟩
structure GoW (W:List Addr)(s s':A8):Prop where
 keep: ∀a o,a≠82->a≠89->a∉W->s.heap.get? a=some o->s'.heap.get? a=some o
 tab:Tb s.heap->Tb s'.heap
 size:s.heap.objs.size<=s'.heap.objs.size
 gens: ∀(i:Nat) (x:zb7),s.gens[i]? =some x->s'.gens[i]? =some x
 bare: ∀(i:Nat) (x:zb7),s'.gens[i]? =some x->s.gens[i]? =some x\/x.bare=true
 os:s'.os=s.os
theorem Go.toW {W:List Addr}{s s':A8}(g:Go s s'):GoW W s s':=⟨λ a o h1 h2 z e=>g.keep a o h1 h2 e,g.tab,g.size,g.gens,g.bare,g.os⟩
theorem GoW.nil {s s':A8}(g:GoW [] s s'):Go s s':=⟨λ a o h1 h2 e=>g.keep a o h1 h2 (λ h=>nomatch h) e,g.tab,g.size,g.gens,g.bare,g.os⟩
theorem GoW.trans {W:List Addr}{s₁ s₂ s₃:A8}(x:GoW W s₁ s₂)(y:Go s₂ s₃):GoW W s₁ s₃:=
 ⟨λ a o h1 h2 h3 e=>y.keep a o h1 h2 (x.keep a o h1 h2 h3 e),λ t=>y.tab (x.tab t),A7 x.size y.size,λ i g e=>y.gens i g (x.gens i g e),
  λ i g e=>(y.bare i g e).elim (x.bare i g) .inr,y.os.trans x.os⟩
theorem Go.keepN {s s':A8}(x:Go s s')(t:Tb s.heap){a:Addr}{o:Obj}(n:NoF o)(e:s.heap.get? a=some o):s'.heap.get? a=some o:=
 x.keep a o (t.off e n).1 (t.off e n).2 e
theorem NoF.seq {o:Obj}(h:Sq o):NoF o:= .inl λ vs e=>by obtain⟨_,_,h⟩:=h;rw[h] at e;cases e
theorem zlj {K K':List Addr}{s s':A8}(hK: ∀a,a∈K'->a∈K)(x:Go s s')(t:Tb s.heap): ∀a o,Sq o->hid K s.heap a=some o->hid K' s'.heap a=some o:=by
 intro a o hq e;rw[hid_some] at e ⊢;exact⟨λ h=>e.1 (hK a h),x.keepN t (.seq hq) e.2⟩
theorem Rp.go {K:List Addr}{s s':A8}{d:D}{v:Value}(h:Rp (hid K s.heap) d v)(x:Go s s')(t:Tb s.heap):Rp (hid K s'.heap) d v:=zeo (zlj (λ z h=>h) x t) d v h
theorem RpL.go {K:List Addr}{s s':A8}{d:List D}{v:List Value}(h:RpL (hid K s.heap) d v)(x:Go s s')(t:Tb s.heap):RpL (hid K s'.heap) d v:=za4 (zlj (λ z h=>h) x t) d v h
theorem Rp.sub {K K':List Addr}{h:P9}{d:D}{v:Value}(x:Rp (hid K h) d v)(hK: ∀a,a∈K'->a∈K):Rp (hid K' h) d v:=
 zeo (λ a o z e=>by rw[hid_some] at e ⊢;exact⟨λ q=>e.1 (hK a q),e.2⟩) d v x
theorem RpL.sub {K K':List Addr}{h:P9}{d:List D}{v:List Value}(x:RpL (hid K h) d v)(hK: ∀a,a∈K'->a∈K):RpL (hid K' h) d v:=
 za4 (λ a o z e=>by rw[hid_some] at e ⊢;exact⟨λ q=>e.1 (hK a q),e.2⟩) d v x
noncomputable abbrev WkP (V' V:List (Option D)):Prop:= ∀(i:Nat) d,V'[i]? =some (some d)->V[i]? =some (some d)
theorem wkE {l:List (Option D)}:WkP [] l:=λ z z h=>nomatch h
theorem wkN {r l:List (Option D)}{b:Option D}(h:WkP r l):WkP (none::r) (b::l)
 |0,_,e=>nomatch e
 |i+1,d,e=>h i d e
theorem wk0 {r:List (Option D)}(h:WkP r []):WkP (none::r) []
 |0,_,e=>nomatch e
 |i+1,d,e=>h i d e
theorem wkS {r l:List (Option D)}{a:Option D}(h:WkP r l):WkP (a::r) (a::l)
 |0,_,e=>e
 |i+1,d,e=>h i d e
noncomputable def HdA (A:H2)(h:P9):Prop:= ∀v,A.handled=some v-> ∃a o vs,v= .ref a/\h.get? a=some o/\o.data= .fields vs/\vs[2]? =some .none/\NoF o
theorem HdA.none {A:H2}{h:P9}(x:A.handled=none):HdA A h:=λ v e=>by rw[x] at e;cases e
theorem HdA.keeps {A:H2}{h h':P9}(x:HdA A h)(k: ∀b o,h.get? b=some o->h'.get? b=some o):HdA A h':=λ v e=>
 let ⟨a,o,vs,e1,e2,r⟩:=x v e;⟨a,o,vs,e1,k _ _ e2,r⟩
section
variable{w:E3}{A:H2}{s:A8}
theorem zoy:yaa table "proto.unchain"=some zcp.«proto.unchain»:=zhq (by kernel_rfl)
theorem zr0 {α:Type}{a:Addr}{o:Obj}{vs:Array Value}{Q:α->A8->Prop}{E:Value->A8->Prop}(hd:HdA A s.heap)(ho:s.heap.get? a=some o)(hv:o.data= .fields vs)(hz:2<vs.size)
 (hne:A.handled≠some (.ref a))(k: ∀h' x,h'.get? a=some (o.mapFields (·.setIfInBounds 2 x))->P2 a s.heap h'->E (.ref a) {s with heap:=h'})(k0:A.handled=none->E (.ref a) s):
 D0 (D1 pw w) A (raiseNew (.ref a)) Q E s:=by
 unfold raiseNew;refine B0 (wpAny_handled ?_)
 cases hA:A.handled with
 |none=>exact B0 (C4 (zyg (k0 hA)))
 |some v=>
  obtain⟨b,ob,ws,rfl,hb,hbd,hb2,_⟩:=hd v hA;have hba:b≠a:=λ q=>hne (by rw[hA,q])
  dsimp only
  rw[if_pos (show(N0 b != N0 a)=true by simpa using hba)]
  refine B0 (J8 (wpAny_runValue (zqs zoy ?_)));unfold zcp.«proto.unchain»
  dsimp only
  refine B0 (zai hb hbd hb2 ?_);rw[if_pos (show(M7==M7)=true from rfl)]
  refine C4 ?_;refine B0 (zfv ho hv hz ?_);exact zyg (k _ _ (Y9 _ ho (zhx (zkr hv _))) (R5 ..))
end
section
variable{w:E3}{A:H2}{s:A8}{E:Value->A8->Prop}
theorem zz6 {i a:Addr}{f:Obj->Obj}{h h':P9}(x:zbr i h h')(ha:h.objs.size<=a):zbr i h (h'.update a f):=λ b o hb e=>by
 rw[zaw _ _ (za1 (C9 (C6 e) ha))];exact x b o hb e
theorem HdA.lt {h:P9}(x:HdA A h): ∀v,A.handled=some v-> ∃a,v= .ref a/\a<h.objs.size:=λ v e=>
 (x v e).imp λ a h=>h.elim λ o h=>h.elim λ vs h=>⟨h.1,C6 h.2.1⟩
theorem zvp {α:Type}{Q:α->A8->Prop}{i:Addr}{s₀:A8}(hd:HdA A s.heap)(hx:zbr i s₀.heap s.heap)(hz:s₀.heap.objs.size<=s.heap.objs.size)
 (hE: ∀e h',({s with heap:=h'}:A8).TypeIs e "StopIteration"->zbr i s₀.heap h'->s₀.heap.objs.size<=h'.objs.size->E e {s with heap:=h'}):
 D0 (D1 pw w) A (do raiseNew (<-newExc (.type "StopIteration") []):Sem α) Q E s:=by
 have hlt:=hd.lt;refine B0 ?_;simp only[newExc,zr4];refine B0 (zah ?_ (by size_fits))
 refine B0 (m:=zkk _ _) (zbe (a:=M7) (by first|rfl|(simp only[zkk];rfl)) ?_)
 refine zah ?_ (by size_fits)
 refine zr0 (hd.keeps λ b o e=>C3 _ (C3 _ e)) (D8 _ rfl) rfl (by simp;omega) (λ q=>?_) (λ h' x e hs=>?_) λ z=>?_
 ·obtain⟨a,e1,e2⟩:=hlt _ q
  cases e1;rw[G8] at e2
  exact absurd e2 (D7.mpr (L6 _))
 ·refine hE _ h' ⟨_,e,rfl⟩ ?_ ?_
  ·intro b o hb e'
   have hbl:=C6 e';rw[hs.2 b (λ q=>absurd hbl (D7.mpr (by rw[q,G8];exact G5 hz)))]
   exact C3 _ (C3 _ (hx b o hb e'))
  ·rw[hs.1,G8,G8];exact G5 (G5 hz)
 ·refine hE _ _ ⟨_,D8 _ rfl,rfl⟩ ?_ ?_
  ·intro b o hb e'
   exact C3 _ (C3 _ (hx b o hb e'))
  ·rw[G8,G8];exact G5 (G5 hz)
theorem zpw {it t:Addr}{i:Nat}{items}{Q:Option Value->A8->Prop}(hd:HdA A s.heap)(hit:s.heap.IsTupleIter it t i)(ht:s.heap.IsTuple t items)(hx:items[i]? =none)(hn: ∀v,A.handled=some v->v≠ .ref it)
 (hQ: ∀h',zbr it s.heap h'->Q none {s with heap:=h'}):D0 (D1 pw w) A (zbh (.ref it)) Q E s:=by
 obtain⟨o,ho,hc,hdo⟩:=id hit;obtain⟨ol,hol,_,nl,hdl⟩:=ht;unfold zbh;refine B0 (zt6 (zcz (name:=G9 "__next__") hit.typeIs zjx
  (zd3 zjx hit.typeIs PySem.F.entry_tuple_iterator_next ?_ (PySem.F.args_tuple_iterator_next_1 _))))
 show D0 _ _ (field (.ref it) 0 >>= _) _ _ s;refine B0 (zai ho hdo (x:= .ref t) rfl ?_);show D0 _ _ (if(N0 t==M7)=true then _ else _) _ _ s;rw[if_neg (show ¬((N0 t==M7)=true) from N4)]
 show D0 _ _ (field (.ref it) 1 >>= _) _ _ s;refine B0 (zai ho hdo (x:= .int i 0) rfl ?_);show D0 _ _ (seqItems? (.ref t) >>= _) _ _ s;refine B0 (zrp hol hdl ?_);simp only[C0,hx];refine B0 (zid (B0 (zfv ho hdo (by simp) ?_)))
 have hs:=R5 s.heap it (zbg (·.setIfInBounds 0 .none));have hd':HdA A.in1 (s.heap.update it (zbg (·.setIfInBounds 0 .none))):=λ v e=>by
  obtain⟨a,oa,vs,e1,e2,r⟩:=hd v e;exact⟨a,oa,vs,e1,(hs.2 a λ q=>hn v e (by rw[e1,q])).trans e2,r⟩
 refine zvp (s₀:=s) hd' hs.extBut (Q0 hs.1.symm) λ e h' hT hx' hz=>?_;refine B0 (zog (T:= "StopIteration") (b:=true) hT zr8 ?_);exact C4 (hQ h' hx')
theorem zud {it l:Addr}{Q:Option Value->A8->Prop}(hd:HdA A s.heap)(hit:s.heap.IsRevIter it l (-1))(hQ: ∀h',zbr it s.heap h'->Q none {s with heap:=h'}):D0 (D1 pw w) A (zbh (.ref it)) Q E s:=by
 obtain⟨o,ho,hc,hdo⟩:=id hit;unfold zbh;refine B0 (zt6 (zcz (name:=G9 "__next__") hit.typeIs zpm
  (zd3 zpm hit.typeIs PySem.F.entry_lri_next ?_ (PySem.F.args_lri_next_1 _))))
 unfold zcp.«list_reverseiterator.__next__»;refine B0 (zbe (a:=(N0 it,[])) rfl ?_)
 try dsimp only
 refine B0 (zai ho hdo (x:=I6 (-1)) rfl ?_);show D0 _ _ (if(-1:Int)<0 then _ else _) _ _ s;rw[if_pos (by decide)]
 refine B0 (zid ?_);refine B0 (zvp (s₀:=s) hd (Heap.ExtBut.refl it _) (D2 _) λ e h' hT hx' hz=>?_);refine B0 (zog (T:= "StopIteration") (b:=true) hT zr8 ?_);exact C4 (hQ h' hx')
theorem zvg {t:Addr}{items:Array Value}{Q:List Value->A8->Prop}(hd:HdA A s.heap)(ht:s.heap.IsTuple t items)
 (hQ: ∀h',zbr s.heap.objs.size s.heap h'->Q items.toList {s with heap:=h'}):D0 (D1 pw w) A (zyo (.ref t) items.size none) Q E s:=by
 have hlt:t≠s.heap.objs.size:=by obtain⟨o,ho,_⟩:=ht;exact za0 (C6 ho)
 unfold zyo;refine B0 ?_;unfold notIterableAtAll;refine B0 (Y0 ht.typeIs PySem.F.slot_tuple_iter.lookup ?_);refine C4 ?_;simp only[V7,if_false];refine B0 (J8 (wpAny_pyIter_tuple ht ?_));refine B0 (J8 (wpAny_draw_tuple hlt items.size 0 _ _ ⟨_,D8 _ rfl,rfl,rfl⟩ (ht.push _) (by omega) λ h₁ hit₁ hs₁=>?_))
 have hall:zx8 items.size (zq5 0 items.toList)=items.toList:=by
  rw[zia];exact S6 (by simp)
 rw[hall];rw[if_neg (by simp)]
 have ht₁:h₁.IsTuple t items:=(ht.push _).extBut hs₁.extBut hlt;have hd₁:HdA A h₁:=λ v e=>by
  obtain⟨a,oa,vs,e1,e2,r⟩:=hd v e;exact⟨a,oa,vs,e1,(hs₁.2 a (za0 (C6 e2))).trans (C3 _ e2),r⟩
 refine B0 (J8 (zpw hd₁ hit₁ ht₁ (by simp) (λ v e q=>?_) λ h₂ he₂=>?_))
 ·obtain⟨a,e1,e2⟩:=hd.lt v e
  rw[e1] at q;cases q;exact H8 _ e2
 simp only[zi2,V7,if_false];exact C4 (hQ h₂ λ b o hb e=>he₂ b o hb (hs₁.extBut b o hb (C3 _ e)))
end
noncomputable abbrev pw:Program:=PySem.Challenge.pw_ta0103_01
structure Gt where
 gtab:List (Str×Value)
 bnames:List Str
 btab:List (Str×Value)
 ftab:List (Addr×K9)
 ctab:List (Addr×Str)
 otab:List (Addr×Obj)
 clst:List (Addr×Addr×List (Str×Value)×List Str)
noncomputable def xtr:List (Str×Value):=[("min",.builtin "min"),("max",.builtin "max"),("int",.type "int"),("_law_read",.ref 295),("sum",.builtin "sum"),("str",.type "str"),("len",.builtin "len")]
theorem yb3: ∀p∈xtr,(p.1==("__debug__":Str))=false:=by decide+kernel
structure Gnd0 (t:Gt)(h:P9):Prop where
 xt: ∀p∈xtr,p∈t.gtab\/(p.1∈t.bnames/\p∈t.btab)
 nl:h.NoLimit
 nd: ∃mc,h.Ns cStatics mc/\mc "sys.int_max_str_digits"=none
 mg: ∃mg,h.Ns 3 mg/\(∀p∈t.gtab,mg p.1=some p.2)/\(∀x∈t.bnames,mg x=none)
 mb: ∃mb,h.Ns 0 mb/\ ∀p∈t.btab,mb p.1=some p.2
 fn: ∀p∈t.ftab,h.get? p.1=some {cls:= .type "function",data:= .func p.2}
 cr: ∀p∈t.ctab,h.CodeRec (.ref p.1) p.2/\p.1≠82/\p.1≠89
 ob: ∀p∈t.otab,h.get? p.1=some p.2/\p.1≠82/\p.1≠89/\p.2.cls≠ .type "list"
 cl: ∀p∈t.clst,∃mN,ClsAt h p.1 p.2.1 mN/\(∀q∈p.2.2.1,mN q.1=some q.2)/\ ∀x∈p.2.2.2,mN x=none
 bm:(("__builtins__",.ref 4):Str×Value)∈t.gtab-> ∃o,h.get? 4=some o/\o.cls= .type "module"/\o.dict=some 0/\o.data= .plain
theorem Ns.go {s s':A8}{a:Addr}{m:Str->Option Value}(x:s.heap.Ns a m)(g:Go s s')(t:Tb s.heap):s'.heap.Ns a m:=by
 obtain⟨o,es,ep,h1,h2,r⟩:=x;exact⟨o,es,ep,g.keepN t (.inl λ vs e=>by rw[h2] at e;cases e) h1,h2,r⟩
theorem Gnd0.mv {t:Gt}{h h':P9}(x:Gnd0 t h)(kn: ∀a o,NoF o->(∀vs n,o≠M8 vs n)->h.get? a=some o->h'.get? a=some o)
 (kk: ∀a o,a≠82->a≠89->(∀vs n,o≠M8 vs n)->h.get? a=some o->h'.get? a=some o):Gnd0 t h':=by
 have ns: ∀{a:Addr} {m:Str->Option Value},h.Ns a m->h'.Ns a m:=λ{a m} ⟨o,es,ep,h1,h2,r⟩=>
  ⟨o,es,ep,kn _ _ (.inl λ vs e=>by rw[h2] at e;cases e) (λ vs n e=>by rw[e] at h2;cases h2) h1,h2,r⟩
 refine⟨x.xt,x.nl.imp λ mc h=>⟨ns h.1,h.2⟩,x.nd.imp λ mc h=>⟨ns h.1,h.2⟩,x.mg.imp λ mc h=>⟨ns h.1,h.2⟩,x.mb.imp λ mc h=>⟨ns h.1,h.2⟩,λ p hp=>kn _ _ (.inl λ vs e=>by cases e) (λ vs n e=>by have:=congrArg Obj.data e;cases this) (x.fn p hp),
  λ p hp=>?_,λ p hp=>?_,λ p hp=>?_,λ e=>(x.bm e).imp λ o h=>⟨kn _ _ (.inl λ vs q=>by rw[h.2.2.2] at q;cases q) (λ vs n q=>by have:=h.2.2.2;rw[q] at this;cases this) h.1,h.2⟩⟩
 ·obtain⟨⟨c,o,vs,tk,e,h1,h4,r⟩,h2,h3⟩:=x.cr p hp
  cases e;exact⟨⟨p.1,o,vs,tk,rfl,kk _ _ h2 h3 (λ us n q=>by rw[q] at h4;cases h4) h1,h4,r⟩,h2,h3⟩
 ·have⟨h1,h2,h3,h4⟩:=x.ob p hp
  exact⟨kk _ _ h2 h3 (λ us n q=>h4 (by rw[q])) h1,h2,h3,h4⟩
 ·obtain⟨mN,⟨⟨nm,q,bs,sn,sub,col,dd,k0,k1,k2,k3,k5,e⟩,h2⟩,r⟩:=x.cl p hp
  exact⟨mN,⟨⟨nm,q,bs,sn,sub,col,dd,k0,k1,k2,k3,k5,kn _ _ (.inl λ vs e'=>by cases e') (λ vs n e'=>by have:=congrArg Obj.data e';cases this) e⟩,ns h2⟩,r⟩
theorem Gnd0.go {t:Gt}{s s':A8}(x:Gnd0 t s.heap)(g:Go s s')(tb:Tb s.heap):Gnd0 t s'.heap:=x.mv (λ z z n z e=>g.keepN tb n e) λ z z h1 h2 z e=>g.keep _ _ h1 h2 e
theorem Gnd0.goW {t:Gt}{s s':A8}{W:List Addr}(x:Gnd0 t s.heap)(g:GoW W s s')(tb:Tb s.heap)(hw: ∀a∈W,∃vs n,s.heap.get? a=some (M8 vs n)):Gnd0 t s'.heap:=
 have nw: ∀a o,(∀vs n,o≠M8 vs n)->s.heap.get? a=some o->a∉W:=λ a o n e hm=>let ⟨_,_,e'⟩:=hw a hm;n _ _ (Q8 (e.symm.trans e'))
 x.mv (λ a o n l e=>g.keep a o (tb.off e n).1 (tb.off e n).2 (nw a o l e) e) λ a o h1 h2 l e=>g.keep a o h1 h2 (nw a o l e) e
noncomputable def Rm (A:H2)(l:Nat):Prop:=A.depth+l<=600/\A.units+20*l<=9000
theorem Rm.le {A:H2}{l k:Nat}(x:Rm A l)(h:k<=l):Rm A k:=⟨by have:=x.1;omega,by have:=x.2;omega⟩
theorem Rm.deep {A:H2}{l:Nat}{env:Env}(x:Rm A (l+1)):Rm (A.deeper env) l:=⟨by show A.depth+1+l<=600;have:=x.1;omega,by show A.units+3+20*l<=9000;have:=x.2;omega⟩
theorem Rm.room {A:H2}{l:Nat}(x:Rm A l):A.depth<zrz:=by have:=x.1;show A.depth<1000;omega
section
variable(G:Gt)(w:E3)
structure Ok (A:H2)(K:List Addr)(s:A8):Prop where
 rm:Rm A 1
 tb:Tb s.heap
 gnd:Gnd0 G s.heap
 kl: ∀a∈K,a<s.heap.objs.size
 hd:HdA A s.heap
structure Gv (A:H2)(K:List Addr)(s:A8)(t:Sem Value)(d:D):Prop where
 h: ∀(Q E:Value->A8->Prop),(∀v s',Go s s'->Rp (hid K s'.heap) d v->Q v s')->D0 (D1 pw w) A t Q E s
structure Cx where
 A:H2
 env:Env
 b:A8
 K:List Addr
 nm:List Str
 ns:Nat
 gn:List (Str×Value)
 lv:Nat
 kl:List Bool
 wr:List Addr
 dk:List (Addr×Obj)
inductive Var (env:Env)(h:P9)(x:Str)(v:Value):Prop
 |loc (hk:env.kindOf x=some .local) (m:Str->Option Value) (hn:h.Ns env.locals m) (hm:m x=some v)
 |cel (hk:env.kindOf x=some .cell\/env.kindOf x=some .free) (a:Addr) (hc:env.cells.lookup x=some a) (hv:h.IsCell a (some v))
noncomputable def OkW (c:Cx)(a:Addr):Prop:=c.b.heap.objs.size<=a\/a∈c.wr
structure COk (c:Cx):Prop where
 rm:Rm c.A (c.lv+1)
 fn:c.env.scope.kind= .function
 gl:c.env.globals=3
 bi:c.env.builtins=0
 lo:c.b.heap.objs.size<=c.env.locals
 nd:c.nm.Nodup
 dbg: ∀x∈c.nm,(x==("__debug__":Str))=false/\(x==("__classdict__":Str))=false
 apart:c.env.cells.Pairwise λ x y=>x.2≠y.2
 own: ∀(i:Nat) (x:Str) (a:Addr),i<c.ns->c.nm[i]? =some x->c.env.cells.lookup x=some a->c.b.heap.objs.size<=a
 sto: ∀(i:Nat) (x:Str),i<c.ns->c.nm[i]? =some x->c.env.kindOf x=some .local\/c.env.kindOf x=some .cell
 kd: ∀(i:Nat) (x:Str),c.nm[i]? =some x->(c.kl[i]? =some false/\c.env.kindOf x=some .local)\/(c.kl[i]? =some true/\(c.env.kindOf x=some .cell\/c.env.kindOf x=some .free)/\ ∃a,c.env.cells.lookup x=some a)
 gns: ∀p∈c.gn,c.env.kindOf p.1=some .globalImplicit/\(p.1==("__debug__":Str))=false/\(p∈G.gtab\/(p.1∈G.bnames/\p∈G.btab))
 gnd:Gnd0 G c.b.heap
 tb:Tb c.b.heap
 kl: ∀a∈c.K,a<c.b.heap.objs.size
 wrq: ∀a∈c.wr,∃vs n,c.b.heap.get? a=some (M8 vs n)
 dkq: ∀p∈c.dk,p.1<c.b.heap.objs.size/\p.1∉c.wr/\p.1≠82/\p.1≠89
structure Hm where
 own:List (Addr×List D)
 fix:List (Addr×Obj)
 gen:List (Nat×zb7)
noncomputable abbrev h0:Hm:=⟨[],[],[]⟩
noncomputable def hk (c:Cx)(H:Hm)(f:Bool):List Addr:=if f then c.K++H.own.map (·.1) else c.K
theorem ztc {c:Cx}{H:Hm}{f:Bool}: ∀a,a∈hk c H f->a∈hk c H true:=by
 intro a h;cases f
 ·exact D3 _ h
 ·exact h
structure FrS (c:Cx)(H:Hm)(V:List (Option D))(s:A8):Prop where
 ok:COk G c
 go:GoW c.wr c.b s
 ns: ∃m,s.heap.Ns c.env.locals m
 vars: ∀(i:Nat) (x:Str) (d:D),c.nm[i]? =some x->V[i]? =some (some d)-> ∃v,Var c.env s.heap x v/\Rp (hid (hk c H true) s.heap) d v
 own: ∀a ds,(a,ds)∈H.own-> ∃o vs,s.heap.get? a=some o/\IsL o vs/\RpL (hid (hk c H true) s.heap) ds vs
 olo: ∀p∈H.own,p.1∉c.K
 ond:(H.own.map (·.1)).Nodup
 fix: ∀a o,(a,o)∈H.fix->s.heap.get? a=some o/\(a≠82/\a≠89)/\(∀v,o.data≠ .cell v)/\a≠c.env.locals/\a∉H.own.map (·.1)
 gen: ∀p∈H.gen,s.gens[p.1]? =some p.2/\c.b.gens.size<=p.1
 cells: ∀x a,c.env.cells.lookup x=some a-> ∃v,s.heap.IsCell a v
 hdA:HdA c.A s.heap
 dk: ∀p∈c.dk,∃sl,s.heap.get? p.1=some {p.2 with slots:=sl}
variable{G w}
variable{c:Cx}{H:Hm}{V:List (Option D)}{s s':A8}
theorem FrS.tb (F:FrS G c H V s):Tb s.heap:=F.go.tab F.ok.tb
theorem FrS.gnd (F:FrS G c H V s):Gnd0 G s.heap:=F.ok.gnd.goW F.go F.ok.tb F.ok.wrq
theorem FrS.hlt (F:FrS G c H V s): ∀a∈hk c H true,a<s.heap.objs.size:=by
 intro a h;rcases G1.mp h with h|h
 ·exact C9 (F.ok.kl a h) F.go.size
 ·obtain⟨⟨a',ds⟩,hp,rfl⟩:=C5.mp h
  obtain⟨o,vs,e,_⟩:=F.own a' ds hp;exact C6 e
theorem HdA.go {A:H2}(x:HdA A s.heap)(g:Go s s')(t:Tb s.heap):HdA A s'.heap:=λ v e=>(x v e).imp λ a h=>h.imp λ o h=>h.imp λ vs h=>⟨h.1,g.keepN t h.2.2.2.2 h.2.1,h.2.2⟩
theorem FrS.okS (F:FrS G c H V s)(f:Bool):Ok G c.A (hk c H f) s:=⟨F.ok.rm.le (J6 1 _),F.tb,F.gnd,λ a h=>F.hlt a (ztc a h),F.hdA⟩
theorem zfr.go {a:Addr}{v:Option Value}(x:s.heap.IsCell a v)(g:Go s s')(t:Tb s.heap):s'.heap.IsCell a v:=by
 obtain⟨o,h1,h2⟩:=x;exact⟨o,g.keepN t (.inl λ vs e=>by rw[h2] at e;cases e) h1,h2⟩
theorem Var.go {env:Env}{x:Str}{v:Value}(h:Var env s.heap x v)(g:Go s s')(t:Tb s.heap):Var env s'.heap x v:=by
 cases h with
 |loc hk m hn hm=>exact .loc hk m (Ns.go hn g t) hm
 |cel hk a hc hv=>exact .cel hk a hc (zfr.go hv g t)
theorem Go.genAt (g:Go s s'){i:Nat}{x:zb7}(h:s.gens[i]? =some x):s'.gens[i]? =some x:=g.gens i x h
theorem FrS.onto (F:FrS G c H V s)(g:Go s s'):FrS G c H V s' where
 ok:=F.ok
 go:=F.go.trans g
 ns:=let ⟨m,h⟩:=F.ns;⟨m,Ns.go h g F.tb⟩
 vars:=λ i x d h1 h2=>let ⟨v,h3,h4⟩:=F.vars i x d h1 h2;⟨v,h3.go g F.tb,h4.go g F.tb⟩
 own:=λ a ds h=>let ⟨n,vs,h1,hL,h2⟩:=F.own a ds h;⟨n,vs,g.keepN F.tb (.seq hL.sq) h1,hL,h2.go g F.tb⟩
 olo:=F.olo
 ond:=F.ond
 fix:=λ a o h=>let ⟨h1,h2,h3⟩:=F.fix a o h;⟨g.keep _ _ h2.1 h2.2 h1,h2,h3⟩
 gen:=λ p h=>⟨g.genAt (F.gen p h).1,(F.gen p h).2⟩
 cells:=λ x a h=>let ⟨v,h1⟩:=F.cells x a h;⟨v,zfr.go h1 g F.tb⟩
 hdA:=F.hdA.go g F.tb
 dk:=λ p hp=>let ⟨sl,e⟩:=F.dk p hp;⟨sl,g.keep _ _ (F.ok.dkq p hp).2.2.1 (F.ok.dkq p hp).2.2.2 e⟩
theorem Ok.onto {A:H2}{K:List Addr}(x:Ok G A K s)(g:Go s s'):Ok G A K s':=
 ⟨x.rm,g.tab x.tb,x.gnd.go g x.tb,λ a h=>C9 (x.kl a h) g.size,x.hd.go g x.tb⟩
structure Ev (G:Gt)(w:E3)(c:Cx)(H:Hm)(V:List (Option D))(f:Bool)(e:Expr)(d:D):Prop where
 h: ∀s,FrS G c H V s->Gv w c.A (hk c H f) s (M3 e c.env) d
theorem Ev.r {G:Gt}{w:E3}{c:Cx}{H:Hm}{V:List (Option D)}{f:Bool}{e:Expr}{d:D}(x:Ev G w c H V f e d){s:A8}(F:FrS G c H V s){Q E:Value->A8->Prop}
 (k: ∀v s',Go s s'->Rp (hid (hk c H f) s'.heap) d v->Q v s'):D0 (D1 pw w) c.A (M3 e c.env) Q E s:=(x.h s F).h Q E k
theorem Ev.mk' {G:Gt}{w:E3}{c:Cx}{H:Hm}{V:List (Option D)}{f:Bool}{e:Expr}{d:D}
 (x: ∀s,FrS G c H V s-> ∀(Q E:Value->A8->Prop),(∀v s',Go s s'->Rp (hid (hk c H f) s'.heap) d v->Q v s')->D0 (D1 pw w) c.A (M3 e c.env) Q E s):Ev G w c H V f e d:=⟨λ s F=>⟨x s F⟩⟩
theorem Gv.mono {A:H2}{K K':List Addr}{t:Sem Value}{d:D}(h:Gv w A K s t d)(hK: ∀a,a∈K'->a∈K):Gv w A K' s t d:=
 ⟨λ Q E k=>h.h Q E λ v s' g r=>k v s' g (r.sub hK)⟩
theorem Gv.pure {A:H2}{K:List Addr}{v:Value}{d:D}(h:Rp (hid K s.heap) d v):Gv w A K s (pure v) d:=⟨λ Q E k=>C4 (k v s (M4 s) h)⟩
noncomputable def Sc:D->Bool
 | .none| .bool _| .int _| .str _| .ptr _=>true
 |_=>false
theorem Rp.scalar {g g':Addr->Option Obj}{d:D}(h:Sc d=true){v:Value}(r:Rp g d v):Rp g' d v:=by
 cases d<;>first|exact r|cases h
theorem Ev.close {e:Expr}{d:D}(h:Ev G w c H V false e d)(hd:Sc d=true):Ev G w c H V true e d:=
 .mk' λ s F Q E k=>h.r F λ v s' g r=>k v s' g (r.scalar hd)
theorem Ev.open {e:Expr}{d:D}(h:Ev G w c H V true e d):Ev G w c H V false e d:=⟨λ s F=>(h.h s F).mono λ a h=>ztc a h⟩
theorem Var.load {A:H2}{env:Env}{x:Str}{v:Value}{E:Value->A8->Prop}{Q:Value->A8->Prop}(h:Var env s.heap x v)(hf:env.scope.kind= .function)
 (hn:(x==("__classdict__":Str))=false)(q:Q v s):D0 (D1 pw w) A (loadName env x) Q E s:=by
 cases h with
 |loc hk m hn hm=>exact zyi hf hk hn hm q
 |cel hk a hc hv=>rcases hk with hk|hk
                  ·exact wpAny_loadName_cell hf hk hc hv q
                  ·exact wpAny_loadName_free hf hk hc hv q hn
theorem Ev.loc {f:Bool}{x:Str}{p:Pos}{d:D}(i:Nat)(hx:c.nm[i]? =some x)(hv:V[i]? =some (some d)):Ev G w c H V f (.Name x p) d:=by
 refine .mk' λ s F Q E k=>?_;obtain⟨v,h1,h2⟩:=F.vars i x d hx hv;have q:=F.ok.dbg x (A6 hx);have k':=k v s (M4 s) (h2.sub λ a h=>ztc a h)
 with_reducible exact T7 (h1.load F.ok.fn q.2 k') q.1
theorem Ev.own {x:Str}{p:Pos}{a:Addr}{ds:List D}(i:Nat)(hx:c.nm[i]? =some x)(hv:V[i]? =some (some (.ptr a)))(hH:(a,ds)∈H.own):
 Ev G w c H V false (.Name x p) (.lst ds):=by
 refine .mk' λ s F Q E k=>?_;obtain⟨v,h1,h2⟩:=F.vars i x _ hx hv;have q:=F.ok.dbg x (A6 hx);obtain⟨o,vs,h3,hL,h4⟩:=F.own a ds hH;obtain rfl:=Rp.p0 h2;have hn:a∉hk c H false:=F.olo _ hH;have r:Rp (hid (hk c H false) s.heap) (.lst ds) (.ref a):=by
  exact⟨a,o,vs,rfl,by rw[hid_some];exact⟨hn,h3⟩,hL,h4.sub λ a h=>ztc a h⟩
 have k':=k _ s (M4 s) r
 with_reducible exact T7 (h1.load F.ok.fn q.2 k') q.1
theorem Go.toks (s:A8)(t:Nat):Go s {s with toks:=t}:=Go.of (λ z z e=>e) (D2 _) rfl rfl
theorem Ev.cint {f:Bool}{i:Int}{k:Nat}{p:Pos}:Ev G w c H V f (.Constant (.int i) k p) (.int i):=
 .mk' λ s F Q E k=>by
  have k':=k (.int i s.toks) _ (Go.toks s (s.toks+1)) ⟨_,rfl⟩;exact λ z z z=>k'
theorem Ev.cstr {f:Bool}{x:Str}{k:Nat}{p:Pos}:Ev G w c H V f (.Constant (.str x) k p) (.str x):=
 .mk' λ s F Q E k=>by
  have k':=k (.str x s.toks) _ (Go.toks s (s.toks+1)) ⟨_,rfl⟩;exact λ z z z=>k'
theorem Ev.cnone {f:Bool}{k:Nat}{p:Pos}:Ev G w c H V f (.Constant .none k p) .none:=
 .mk' λ s F Q E k=>by
  have k':=k .none _ (M4 s) rfl;exact λ z z z=>k'
theorem Ev.cbool {f:Bool}{b:Bool}{k:Nat}{p:Pos}:Ev G w c H V f (.Constant (.bool b) k p) (.bool b):=
 .mk' λ s F Q E k=>by
  have k':=k (.bool b) _ (M4 s) rfl;exact λ z z z=>k'
structure Bi (G:Gt)(w:E3)(op:zhw)(d1 d2 d:D):Prop where
 h: ∀A K s v1 v2,Ok G A K s->Rp (hid K s.heap) d1 v1->Rp (hid K s.heap) d2 v2->Gv w A K s (binaryOp op v1 v2) d
theorem Ev.bin {f:Bool}{op:zhw}{l r:Expr}{p:Pos}{d1 d2 d:D}(h1:Ev G w c H V f l d1)(h2:Ev G w c H V f r d2)(h:Bi G w op d1 d2 d):Ev G w c H V f (.BinOp l op r p) d:=by
 refine .mk' λ s F Q E k=>?_
 with_reducible refine zpj (h1.r F λ v1 s1 g1 r1=>h2.r (F.onto g1) λ v2 s2 g2 r2=>?_)
 exact(h.h _ _ s2 v1 v2 (((F.onto g1).onto g2).okS f) (r1.go g2 (F.onto g1).tb) r2).h _ _ λ v s' g r=>k v s' ((g1.trans g2).trans g) r
structure Un (G:Gt)(w:E3)(op:UnaryOp)(d1 d:D):Prop where
 h: ∀A K s v1,Ok G A K s->Rp (hid K s.heap) d1 v1->Gv w A K s (unaryOp op v1) d
theorem Ev.una {f:Bool}{op:UnaryOp}{x:Expr}{p:Pos}{d1 d:D}(h1:Ev G w c H V f x d1)(h:Un G w op d1 d):Ev G w c H V f (.UnaryOp op x p) d:=by
 refine .mk' λ s F Q E k=>?_
 with_reducible refine wpAny_UnaryOp (h1.r F λ v1 s1 g1 r1=>?_)
 exact(h.h _ _ s1 v1 ((F.onto g1).okS f) r1).h _ _ λ v s' g r=>k v s' (g1.trans g) r
structure Cm (G:Gt)(w:E3)(op:CmpOp)(d1 d2 d:D):Prop where
 h: ∀A K s v1 v2,Ok G A K s->Rp (hid K s.heap) d1 v1->Rp (hid K s.heap) d2 v2->Gv w A K s (compareOp op v1 v2) d
theorem Ev.cmp {f:Bool}{op:CmpOp}{l r:Expr}{p:Pos}{d1 d2 d:D}(h1:Ev G w c H V f l d1)(h2:Ev G w c H V f r d2)(h:Cm G w op d1 d2 d)(hb:zuv op r=false):
 Ev G w c H V f (.Compare l [op] [r] p) d:=by
 refine .mk' λ s F Q E k=>?_
 with_reducible refine wpAny_Compare1 (h1.r F λ v1 s1 g1 r1=>h2.r (F.onto g1) λ v2 s2 g2 r2=>?_) hb
 exact(h.h _ _ s2 v1 v2 (((F.onto g1).onto g2).okS f) (r1.go g2 (F.onto g1).tb) r2).h _ _ λ v s' g r=>k v s' ((g1.trans g2).trans g) r
end
open Internal.Ev renaming loc->B4,cint->D5,bin->G4,cstr->K0,cnone->zaq,own->zed,close->zgn,una->zk8
open Internal.Go renaming toks->R1
section
variable{G:Gt}{w:E3}{c:Cx}{H:Hm}{V:List (Option D)}{s s':A8}
theorem IsL.isList {h:P9}{a:Addr}{o:Obj}{vs:List Value}(x:IsL o vs)(e:h.get? a=some o):h.IsList a vs.toArray:=by
 obtain⟨n,rfl⟩:=x;exact⟨_,e,rfl,n,rfl⟩
theorem Rp.int_inv {g:Addr->Option Obj}{i:Int}{v:Value}(h:Rp g (.int i) v): ∃t,v= .int i t:=h
theorem Rp.str_inv {g:Addr->Option Obj}{i:Str}{v:Value}(h:Rp g (.str i) v): ∃t,v= .str i t:=h
theorem Rp.bool_inv {g:Addr->Option Obj}{i:Bool}{v:Value}(h:Rp g (.bool i) v):v= .bool i:=h
theorem Rp.none_inv {g:Addr->Option Obj}{v:Value}(h:Rp g .none v):v= .none:=h
theorem Rp.lst_inv {g:Addr->Option Obj}{l:List D}{v:Value}(h:Rp g (.lst l) v): ∃a o vs,v= .ref a/\g a=some o/\IsL o vs/\RpL g l vs:=h
theorem Rp.tup_inv {g:Addr->Option Obj}{l:List D}{v:Value}(h:Rp g (.tup l) v): ∃a n vs,v= .ref a/\g a=some (R4 vs n)/\RpL g l vs:=h
theorem Rp.int' {g:Addr->Option Obj}{i:Int}{t:Tok}:Rp g (.int i) (.int i t):=⟨t,rfl⟩
theorem Rp.str' {g:Addr->Option Obj}{i:Str}{t:Tok}:Rp g (.str i) (.str i t):=⟨t,rfl⟩
theorem Rp.bool' {g:Addr->Option Obj}{b:Bool}:Rp g (.bool b) (.bool b):=rfl
theorem Rp.none' {g:Addr->Option Obj}:Rp g .none .none:=rfl
theorem Rp.lst' {g:Addr->Option Obj}{l:List D}{a n vs}(h:g a=some (M8 vs n))(r:RpL g l vs):Rp g (.lst l) (.ref a):=⟨a,_,vs,rfl,h,zho vs n,r⟩
theorem Rp.lstI {g:Addr->Option Obj}{l:List D}{a o vs}(h:g a=some o)(hL:IsL o vs)(r:RpL g l vs):Rp g (.lst l) (.ref a):=⟨a,o,vs,rfl,h,hL,r⟩
theorem Rp.tup' {g:Addr->Option Obj}{l:List D}{a n vs}(h:g a=some (R4 vs n))(r:RpL g l vs):Rp g (.tup l) (.ref a):=⟨a,n,vs,rfl,h,r⟩
theorem Go.push (s:A8)(o:Obj):Go s {s with heap:=s.heap.push o}:=Go.of (λ z z e=>C3 _ e) (by rw[G8];exact L6 _) rfl rfl
theorem Go.pushT (s:A8)(o:Obj)(t:Nat):Go s {s with heap:=s.heap.push o,toks:=t}:=Go.of (λ z z e=>C3 _ e) (by simp only[G8];exact L6 _) rfl rfl
theorem Go.pushes {s:A8}{h':P9}{t:Nat}(hk: ∀b o,s.heap.get? b=some o->h'.get? b=some o)(hs:s.heap.objs.size<=h'.objs.size):Go s {s with heap:=h',toks:=t}:=Go.of hk hs rfl rfl
theorem zli {K:List Addr}{s:A8}{o:Obj}(kl: ∀a∈K,a<s.heap.objs.size)(hf:o.isFreed=false):hid K (s.heap.push o) s.heap.objs.size=some o:=by
 rw[hid_some];exact⟨λ h=>H8 _ (kl _ h),D8 _ hf⟩
section SInts
variable{a b:Int}
theorem Bi.add:Bi G w .Add (.int a) (.int b) (.int (a+b)):=by
 refine⟨λ A K s v1 v2 ok r1 r2=>⟨λ Q E k=>?_⟩⟩;obtain⟨t,rfl⟩:=r1.int_inv;obtain⟨u,rfl⟩:=r2.int_inv;have k':=λ t n=>k (.int _ t) _ (R1 s n) .int'
 with_reducible exact PyProof.Rows.add_int (k' _ _)
theorem Bi.sub:Bi G w .Sub (.int a) (.int b) (.int (a-b)):=by
 refine⟨λ A K s v1 v2 ok r1 r2=>⟨λ Q E k=>?_⟩⟩;obtain⟨t,rfl⟩:=r1.int_inv;obtain⟨u,rfl⟩:=r2.int_inv;have k':=λ t n=>k (.int _ t) _ (R1 s n) .int'
 with_reducible exact PyProof.Rows.sub_int (k' _ _)
theorem Bi.mul (h:IntMulOk a b):Bi G w .Mult (.int a) (.int b) (.int (a*b)):=by
 refine⟨λ A K s v1 v2 ok r1 r2=>⟨λ Q E k=>?_⟩⟩;obtain⟨t,rfl⟩:=r1.int_inv;obtain⟨u,rfl⟩:=r2.int_inv;have k':=λ t n=>k (.int _ t) _ (R1 s n) .int'
 with_reducible exact PyProof.Rows.mul_int (k' _ _) h
theorem Bi.mod (h:b≠0):Bi G w .Mod (.int a) (.int b) (.int (a.fmod b)):=by
 refine⟨λ A K s v1 v2 ok r1 r2=>⟨λ Q E k=>?_⟩⟩;obtain⟨t,rfl⟩:=r1.int_inv;obtain⟨u,rfl⟩:=r2.int_inv;have k':=λ t n=>k (.int _ t) _ (R1 s n) .int'
 with_reducible exact mod_int' h (k' _ _)
theorem Bi.div (h:b≠0)(hp:Builtin.divisionGoesByPylong a b=false):Bi G w .FloorDiv (.int a) (.int b) (.int (a.fdiv b)):=by
 refine⟨λ A K s v1 v2 ok r1 r2=>⟨λ Q E k=>?_⟩⟩;obtain⟨t,rfl⟩:=r1.int_inv;obtain⟨u,rfl⟩:=r2.int_inv;have k':=λ t n=>k (.int _ t) _ (R1 s n) .int'
 with_reducible exact floordiv_int h (k' _ _) (.inl hp)
theorem Bi.pow (h:0<=b)(hsz:(B6 a:Int)*b<=2^27):Bi G w .Pow (.int a) (.int b) (.int (a^b.toNat)):=by
 refine⟨λ A K s v1 v2 ok r1 r2=>⟨λ Q E k=>?_⟩⟩;obtain⟨t,rfl⟩:=r1.int_inv;obtain⟨u,rfl⟩:=r2.int_inv;have k':=λ t n=>k (.int _ t) _ (R1 s n) .int'
 with_reducible exact pow_int h hsz (k' _ _)
theorem Bi.shl (h:0<=b)(hsz:(B6 a:Int)+b<=2^27):Bi G w .LShift (.int a) (.int b) (.int (a*2^b.toNat)):=by
 refine⟨λ A K s v1 v2 ok r1 r2=>⟨λ Q E k=>?_⟩⟩;obtain⟨t,rfl⟩:=r1.int_inv;obtain⟨u,rfl⟩:=r2.int_inv;have k':=λ t n=>k (.int _ t) _ (R1 s n) .int'
 with_reducible exact lshift_int h hsz (k' _ _)
theorem Bi.shr (h:0<=b):Bi G w .RShift (.int a) (.int b) (.int (a.fdiv (2^b.toNat))):=by
 refine⟨λ A K s v1 v2 ok r1 r2=>⟨λ Q E k=>?_⟩⟩;obtain⟨t,rfl⟩:=r1.int_inv;obtain⟨u,rfl⟩:=r2.int_inv;have k':=λ t n=>k (.int _ t) _ (R1 s n) .int'
 with_reducible exact rshift_int h (k' _ _)
theorem Bi.and:Bi G w .BitAnd (.int a) (.int b) (.int (Y3 a b)):=by
 refine⟨λ A K s v1 v2 ok r1 r2=>⟨λ Q E k=>?_⟩⟩;obtain⟨t,rfl⟩:=r1.int_inv;obtain⟨u,rfl⟩:=r2.int_inv;have k':=λ t n=>k (.int _ t) _ (R1 s n) .int'
 with_reducible exact and_int (k' _ _)
theorem Bi.or:Bi G w .BitOr (.int a) (.int b) (.int (zax a b)):=by
 refine⟨λ A K s v1 v2 ok r1 r2=>⟨λ Q E k=>?_⟩⟩;obtain⟨t,rfl⟩:=r1.int_inv;obtain⟨u,rfl⟩:=r2.int_inv;have k':=λ t n=>k (.int _ t) _ (R1 s n) .int'
 with_reducible exact or_int (k' _ _)
theorem Bi.xor:Bi G w .BitXor (.int a) (.int b) (.int (zhc a b)):=by
 refine⟨λ A K s v1 v2 ok r1 r2=>⟨λ Q E k=>?_⟩⟩;obtain⟨t,rfl⟩:=r1.int_inv;obtain⟨u,rfl⟩:=r2.int_inv;have k':=λ t n=>k (.int _ t) _ (R1 s n) .int'
 with_reducible exact xor_int (k' _ _)
theorem Un.neg:Un G w .USub (.int a) (.int (-a)):=by
 refine⟨λ A K s v1 ok r1=>⟨λ Q E k=>?_⟩⟩;obtain⟨t,rfl⟩:=r1.int_inv;have k':=λ t n=>k (.int _ t) _ (R1 s n) .int'
 with_reducible exact PyProof.Rows.neg_int (k' _ _)
theorem Un.inv:Un G w .Invert (.int a) (.int (zhd a)):=by
 refine⟨λ A K s v1 ok r1=>⟨λ Q E k=>?_⟩⟩;obtain⟨t,rfl⟩:=r1.int_inv;have k':=λ t n=>k (.int _ t) _ (R1 s n) .int'
 with_reducible exact invert_int (k' _ _)
theorem Cm.lt:Cm G w .Lt (.int a) (.int b) (.bool (decide (a<b))):=by
 refine⟨λ A K s v1 v2 ok r1 r2=>⟨λ Q E k=>?_⟩⟩;obtain⟨t,rfl⟩:=r1.int_inv;obtain⟨u,rfl⟩:=r2.int_inv;have k':=λ b=>k (.bool b) _ (M4 s)
 with_reducible exact lt_int (k' _ .bool')
theorem Cm.le:Cm G w .LtE (.int a) (.int b) (.bool (decide (a<=b))):=by
 refine⟨λ A K s v1 v2 ok r1 r2=>⟨λ Q E k=>?_⟩⟩;obtain⟨t,rfl⟩:=r1.int_inv;obtain⟨u,rfl⟩:=r2.int_inv;have k':=λ b=>k (.bool b) _ (M4 s)
 with_reducible exact le_int (k' _ .bool')
theorem Cm.gt:Cm G w .Gt (.int a) (.int b) (.bool (decide (b<a))):=by
 refine⟨λ A K s v1 v2 ok r1 r2=>⟨λ Q E k=>?_⟩⟩;obtain⟨t,rfl⟩:=r1.int_inv;obtain⟨u,rfl⟩:=r2.int_inv;have k':=λ b=>k (.bool b) _ (M4 s)
 with_reducible exact PyProof.Rows.gt_int (k' _ .bool')
theorem Cm.ge:Cm G w .GtE (.int a) (.int b) (.bool (decide (b<=a))):=by
 refine⟨λ A K s v1 v2 ok r1 r2=>⟨λ Q E k=>?_⟩⟩;obtain⟨t,rfl⟩:=r1.int_inv;obtain⟨u,rfl⟩:=r2.int_inv;have k':=λ b=>k (.bool b) _ (M4 s)
 with_reducible exact ge_int (k' _ .bool')
theorem Cm.eq:Cm G w .Eq (.int a) (.int b) (.bool (a==b)):=by
 refine⟨λ A K s v1 v2 ok r1 r2=>⟨λ Q E k=>?_⟩⟩;obtain⟨t,rfl⟩:=r1.int_inv;obtain⟨u,rfl⟩:=r2.int_inv;have k':=λ b=>k (.bool b) _ (M4 s)
 with_reducible exact PyProof.Rows.eq_int (k' _ .bool')
theorem Cm.ne:Cm G w .NotEq (.int a) (.int b) (.bool (a != b)):=by
 refine⟨λ A K s v1 v2 ok r1 r2=>⟨λ Q E k=>?_⟩⟩;obtain⟨t,rfl⟩:=r1.int_inv;obtain⟨u,rfl⟩:=r2.int_inv;have k':=λ b=>k (.bool b) _ (M4 s)
 with_reducible exact PyProof.Rows.ne_int (k' _ .bool')
end SInts
structure Tv (G:Gt)(w:E3)(d:D)(p:Bool):Prop where
 h: ∀A K s v,Ok G A K s->Rp (hid K s.heap) d v-> ∀(Q:Bool->A8->Prop) (E:Value->A8->Prop),(∀s',Go s s'->Q p s')->D0 (D1 pw w) A (zrr v) Q E s
theorem Tv.bool {b:Bool}:Tv G w (.bool b) b:=by
 refine⟨λ A K s v ok r Q E k=>?_⟩;rw[r.bool_inv]
 with_reducible exact X9 (k s (M4 s))
theorem Tv.none:Tv G w .none false:=by
 refine⟨λ A K s v ok r Q E k=>?_⟩;rw[r.none_inv]
 with_reducible exact truthy_none (k s (M4 s))
theorem Tv.int {a:Int}:Tv G w (.int a) (a != 0):=by
 refine⟨λ A K s v ok r Q E k=>?_⟩;obtain⟨t,rfl⟩:=r.int_inv
 with_reducible exact P.truthy_int (k s (M4 s))
theorem Tv.lst {l:List D}(h:l.length<2^63):Tv G w (.lst l) (!l.isEmpty):=by
 refine⟨λ A K s v ok r Q E k=>?_⟩;obtain⟨a,o,vs,rfl,ho,hL₀,hl⟩:=r.lst_inv;rw[hid_some] at ho;have k':=k _ (R1 s (s.toks+1+1));have:(!vs.toArray.isEmpty)= !l.isEmpty:=by
  have e:=hl.length
  cases l with
  |nil=>have:vs=[]:=zce.mp e;subst this;rfl
  |cons x l=>cases vs with
             |nil=>cases e
             |cons y r=>rfl
 rw[<-this] at k';have hL:s.heap.IsList a vs.toArray:=hL₀.isList ho.2;have hz:((vs.toArray.size:Nat):Int)<2^63:=by rw[I1,hl.length];exact_mod_cast h
 with_reducible exact wpAny_truthy_list hL hz k'
structure Ts (G:Gt)(w:E3)(c:Cx)(H:Hm)(V:List (Option D))(e:Expr)(p:Bool):Prop where
 h: ∀s,FrS G c H V s-> ∀(Q:Bool->A8->Prop) (E:Value->A8->Prop),(∀s',Go s s'->Q p s')->D0 (D1 pw w) c.A (isTrue e c.env (M3 e c.env)) Q E s
theorem Ts.val {e:Expr}{d:D}{p:Bool}(h:Ev G w c H V true e d)(t:Tv G w d p)
 (hf: ∀(env:Env) (whole:Sem Value),isTrue e env whole=(do let v <-whole;zfe e.pos;zkz [v] (zrr v)):=by intro _ _;rfl):Ts G w c H V e p:=by
 refine⟨λ s F Q E k=>?_⟩
 with_reducible refine zfw (h.r F λ v s1 g r=>?_) (hf _ _)
 exact t.h _ _ s1 v ((F.onto g).okS true) r _ _ λ s' g'=>k s' (g.trans g')
theorem Ts.cmp {op:CmpOp}{l r:Expr}{ps:Pos}{d1 d2:D}{p:Bool}(h1:Ev G w c H V true l d1)(h2:Ev G w c H V true r d2)(h:Cm G w op d1 d2 (.bool p))(hb:zuv op r=false:=by rfl):
 Ts G w c H V (.Compare l [op] [r] ps) p:=by
 refine⟨λ s F Q E k=>?_⟩
 with_reducible refine Z7 (h1.r F λ v1 s1 g1 r1=>h2.r (F.onto g1) λ v2 s2 g2 r2=>?_) hb
 refine(h.h _ _ s2 v1 v2 (((F.onto g1).onto g2).okS true) (r1.go g2 (F.onto g1).tb) r2).h _ _ λ v s3 g3 r3=>?_;rw[r3.bool_inv]
 with_reducible exact X9 (k s3 ((g1.trans g2).trans g3))
theorem Ts.valO {e:Expr}{d:D}{p:Bool}(h:Ev G w c H V false e d)(t:Tv G w d p)
 (hf: ∀(env:Env) (whole:Sem Value),isTrue e env whole=(do let v <-whole;zfe e.pos;zkz [v] (zrr v)):=by intro _ _;rfl):Ts G w c H V e p:=by
 refine⟨λ s F Q E k=>?_⟩
 with_reducible refine zfw (h.r F λ v s1 g r=>?_) (hf _ _)
 exact t.h _ _ s1 v ((F.onto g).okS false) r _ _ λ s' g'=>k s' (g.trans g')
theorem Ts.cmpO {op:CmpOp}{l r:Expr}{ps:Pos}{d1 d2:D}{p:Bool}(h1:Ev G w c H V false l d1)(h2:Ev G w c H V false r d2)(h:Cm G w op d1 d2 (.bool p))(hb:zuv op r=false:=by rfl):
 Ts G w c H V (.Compare l [op] [r] ps) p:=by
 refine⟨λ s F Q E k=>?_⟩
 with_reducible refine Z7 (h1.r F λ v1 s1 g1 r1=>h2.r (F.onto g1) λ v2 s2 g2 r2=>?_) hb
 refine(h.h _ _ s2 v1 v2 (((F.onto g1).onto g2).okS false) (r1.go g2 (F.onto g1).tb) r2).h _ _ λ v s3 g3 r3=>?_;rw[r3.bool_inv]
 with_reducible exact X9 (k s3 ((g1.trans g2).trans g3))
theorem Ts.not {x:Expr}{ps:Pos}{p:Bool}(h:Ts G w c H V x p):Ts G w c H V (.UnaryOp .Not x ps) (!p):=by
 refine⟨λ s F Q E k=>?_⟩
 with_reducible exact wpAny_isTrue_Not (h.h s F _ _ λ s' g=>k s' g)
structure Al (G:Gt)(w:E3)(c:Cx)(H:Hm)(V:List (Option D))(op:BoolOp)(es:List Expr)(p:Bool):Prop where
 h: ∀s,FrS G c H V s-> ∀(Q:Bool->A8->Prop) (E:Value->A8->Prop),(∀s',Go s s'->Q p s')->D0 (D1 pw w) c.A (allTrue op es c.env) Q E s
theorem Al.and_nil:Al G w c H V .And [] true:=⟨λ s F Q E k=>C4 (k s (M4 s))⟩
theorem Al.or_nil:Al G w c H V .Or [] false:=⟨λ s F Q E k=>C4 (k s (M4 s))⟩
theorem Al.and {x:Expr}{r:List Expr}{p q:Bool}(h1:Ts G w c H V x p)(h2:p=true->Al G w c H V .And r q):Al G w c H V .And (x::r) (p&&q):=by
 refine⟨λ s F Q E k=>?_⟩
 with_reducible refine wpAny_allTrue_And_cons (h1.h s F _ _ λ s1 g1=>?_)
 cases p with
 |false=>exact k s1 g1
 |true=>exact(h2 rfl).h s1 (F.onto g1) _ _ λ s2 g2=>k s2 (g1.trans g2)
theorem Al.or {x:Expr}{r:List Expr}{p q:Bool}(h1:Ts G w c H V x p)(h2:p=false->Al G w c H V .Or r q):Al G w c H V .Or (x::r) (p||q):=by
 refine⟨λ s F Q E k=>?_⟩
 with_reducible refine wpAny_allTrue_Or_cons (h1.h s F _ _ λ s1 g1=>?_)
 cases p with
 |true=>exact k s1 g1
 |false=>exact(h2 rfl).h s1 (F.onto g1) _ _ λ s2 g2=>k s2 (g1.trans g2)
theorem Ts.bo {op:BoolOp}{es:List Expr}{ps:Pos}{p:Bool}(h:Al G w c H V op es p):Ts G w c H V (.BoolOp op es ps) p:=by
 refine⟨λ s F Q E k=>?_⟩
 with_reducible exact wpAny_isTrue_BoolOp (h.h s F _ _ k)
theorem Ts.eq {e:Expr}{p q:Bool}(h:Ts G w c H V e p)(e':p=q):Ts G w c H V e q:=e'▸h
theorem Ev.eq {f:Bool}{e:Expr}{d d':D}(h:Ev G w c H V f e d)(e':d=d'):Ev G w c H V f e d':=e'▸h
theorem Ev.ite {f:Bool}{t a b:Expr}{ps:Pos}{p:Bool}{d:D}(h:Ts G w c H V t p)(h1:p=true->Ev G w c H V f a d)(h2:p=false->Ev G w c H V f b d):Ev G w c H V f (.IfExp t a b ps) d:=by
 refine .mk' λ s F Q E k=>?_
 with_reducible refine wpAny_IfExp (h.h s F _ _ λ s1 g1=>?_)
 cases p with
 |true=>exact(h1 rfl).r (F.onto g1) λ v s2 g2 r=>k v s2 (g1.trans g2) r
 |false=>exact(h2 rfl).r (F.onto g1) λ v s2 g2 r=>k v s2 (g1.trans g2) r
theorem Cm.is_none_none:Cm G w .Is .none .none (.bool true):=by
 refine⟨λ A K s v1 v2 ok r1 r2=>⟨λ Q E k=>?_⟩⟩;rw[r1.none_inv,r2.none_inv];exact wpAny_is_plain rfl (k _ _ (M4 s) .bool')
theorem Cm.isnot_none_none:Cm G w .IsNot .none .none (.bool false):=by
 refine⟨λ A K s v1 v2 ok r1 r2=>⟨λ Q E k=>?_⟩⟩;rw[r1.none_inv,r2.none_inv];exact wpAny_isNot_plain rfl (k _ _ (M4 s) .bool')
theorem Rp.plainNone {g:Addr->Option Obj}{d:D}{v:Value}(h:d≠ .none)(r:Rp g d v):plainIs v .none=true/\v≠ .none:=by
 cases d with
 |none=>exact absurd rfl h
 |bool b=>rw[r.bool_inv];exact⟨rfl,λ e=>by cases e⟩
 |int b=>obtain⟨t,rfl⟩:=r.int_inv;exact⟨rfl,λ e=>by cases e⟩
 |str b=>obtain⟨t,rfl⟩:=r.str_inv;exact⟨rfl,λ e=>by cases e⟩
 |tup l=>obtain⟨a,n,vs,rfl,_⟩:=r.tup_inv;exact⟨rfl,λ e=>by cases e⟩
 |lst l=>obtain⟨a,n,vs,rfl,_⟩:=r.lst_inv;exact⟨rfl,λ e=>by cases e⟩
 |ptr a=>obtain rfl:=Rp.p0 r;exact⟨rfl,λ e=>by cases e⟩
theorem Cm.is_none {d:D}(h:d≠ .none):Cm G w .Is d .none (.bool false):=by
 refine⟨λ A K s v1 v2 ok r1 r2=>⟨λ Q E k=>?_⟩⟩;rw[r2.none_inv];exact wpAny_is_other (r1.plainNone h).1 (r1.plainNone h).2 (k _ _ (M4 s) .bool')
theorem Cm.isnot_none {d:D}(h:d≠ .none):Cm G w .IsNot d .none (.bool true):=by
 refine⟨λ A K s v1 v2 ok r1 r2=>⟨λ Q E k=>?_⟩⟩;rw[r2.none_inv];exact wpAny_isNot_other (r1.plainNone h).1 (r1.plainNone h).2 (k _ _ (M4 s) .bool')
theorem Cm.isnot_bool {a b:Bool}:Cm G w .IsNot (.bool a) (.bool b) (.bool (!(a==b))):=by
 refine⟨λ A K s v1 v2 ok r1 r2=>⟨λ Q E k=>?_⟩⟩;rw[r1.bool_inv,r2.bool_inv];refine wpAny_isNot_plain rfl ?_;have:(zem a==zem b)=(a==b):=by cases a<;>cases b<;>rfl
 rw[this];exact k _ _ (M4 s) .bool'
end
open Internal.Ts renaming cmp->O5,val->zmj
open Internal.Go renaming push->Z0,pushT->zmn
open Internal.Bi renaming add->zav,sub->zb0,mul->zdf,mod->zfs,shl->zoe
open Internal.Cm renaming isnot_none->zmp,is_none->znk
open Internal.Al renaming or_nil->zmt
section
variable{G:Gt}{w:E3}{c:Cx}{H:Hm}{V:List (Option D)}{s s':A8}
theorem Ns.unique {h:P9}{a:Addr}{m m':Str->Option Value}(x:h.Ns a m)(y:h.Ns a m'):m=m':=by
 obtain⟨o,es,ep,h1,h2,_,h3⟩:=x;obtain⟨o',es',ep',h1',h2',_,h3'⟩:=y;rw[h1] at h1';cases h1';rw[h2] at h2';cases h2';funext n;rw[<-h3 n,<-h3' n]
structure Bu (c:Cx)(s s':A8)(a:Addr):Prop where
 lo:OkW c a
 nf: ∀o,s.heap.get? a=some o->(∀vs,o.data≠ .fields vs)/\ ¬Sq o
 same:P2 a s.heap s'.heap
 gens:s'.gens=s.gens
 os:s'.os=s.os
theorem Bu.go {a:Addr}(x:Bu c s s' a)(g:GoW c.wr c.b s):GoW c.wr c.b s' where
 keep:=λ b o h1 h2 h3 e=>(x.same.2 b λ q=>x.lo.elim (λ h=>absurd (C6 e) (by rw[q];exact D7.mpr h)) (λ h=>h3 (q▸h))).trans (g.keep b o h1 h2 h3 e)
 tab:=λ t=>(g.tab t).but (a:=a) (by rw[x.same.1];exact D2 _) (λ b o n e=>(x.same.2 b n).trans e) λ o e=> .inl (x.nf o e).1
 size:=by rw[x.same.1];exact g.size
 gens:=by rw[x.gens];exact g.gens
 bare:=by rw[x.gens];exact g.bare
 os:=x.os.trans g.os
theorem Bu.rp {a:Addr}(x:Bu c s s' a){K:List Addr}: ∀b o,Sq o->hid K s.heap b=some o->hid K s'.heap b=some o:=by
 intro b o hq e;rw[hid_some] at e ⊢;refine⟨e.1,(x.same.2 b λ q=>?_).trans e.2⟩;subst q;exact(x.nf o e.2).2 hq
theorem Bu.seq {a b:Addr}(x:Bu c s s' a){o:Obj}(hq:Sq o)(e:s.heap.get? b=some o):s'.heap.get? b=some o:=
 (x.same.2 b λ q=>(x.nf o (q▸e)).2 hq).trans e
noncomputable def Up (s s':A8):Prop:= ∀(K:List Addr) b o,Sq o->hid K s.heap b=some o->hid K s'.heap b=some o
theorem Up.rp {K:List Addr}(u:Up s s'){d:D}{v:Value}(h:Rp (hid K s.heap) d v):Rp (hid K s'.heap) d v:=zeo (u K) d v h
theorem Up.rpl {K:List Addr}(u:Up s s'){d:List D}{v:List Value}(h:RpL (hid K s.heap) d v):RpL (hid K s'.heap) d v:=za4 (u K) d v h
theorem FrS.bu {a:Addr}(F:FrS G c H V s)(x:Bu c s s' a){V':List (Option D)}(hn: ∃m,s'.heap.Ns c.env.locals m)(hc: ∀x a,c.env.cells.lookup x=some a-> ∃v,s'.heap.IsCell a v)
 (hv: ∀(i:Nat) (y:Str) (d:D),c.nm[i]? =some y->V'[i]? =some (some d)-> ∃v,Var c.env s'.heap y v/\Rp (hid (hk c H true) s'.heap) d v)
 (hx: ∀b o,(b,o)∈H.fix->b≠a):FrS G c H V' s' where
 hdA:=λ v e=>let ⟨b,o,vs,e1,e2,e3,e4⟩:=F.hdA v e;⟨b,o,vs,e1,(x.same.2 b λ q=>(x.nf o (q▸e2)).1 vs e3).trans e2,e3,e4⟩
 dk:=λ p hp=>let ⟨sl,e⟩:=F.dk p hp;⟨sl,(x.same.2 p.1 λ q=>x.lo.elim (λ h=>absurd (F.ok.dkq p hp).1 (D7.mpr (q▸h))) λ h=>(F.ok.dkq p hp).2.1 (q▸h)).trans e⟩
 ok:=F.ok
 go:=x.go F.go
 ns:=hn
 vars:=hv
 own:=λ b ds h=>let ⟨n,vs,h1,hL,h2⟩:=F.own b ds h;⟨n,vs,x.seq hL.sq h1,hL,za4 x.rp _ _ h2⟩
 olo:=F.olo
 ond:=F.ond
 fix:=λ b o h=>let ⟨h1,h2,h3⟩:=F.fix b o h;⟨(x.same.2 b (hx b o h)).trans h1,h2,h3⟩
 gen:=λ p h=>by rw[x.gens];exact F.gen p h
 cells:=hc
theorem FrS.store {A:H2}{E:Value->A8->Prop}{Q:Unit->A8->Prop}(F:FrS G c H V s){x:Str}{d:D}{v:Value}(i:Nat)(hi:i<c.ns)(hx:c.nm[i]? =some x)
 (r:Rp (hid (hk c H true) s.heap) d v)(k: ∀s',FrS G c H (V.set i (some d)) s'->Up s s'->Q () s'):D0 (D1 pw w) A (storeName c.env x v) Q E s:=by
 have hxm:=A6 hx;have ne: ∀(j:Nat) (y:Str),c.nm[j]? =some y->j≠i->y≠x:=λ j y hy hj e=>by
  subst e;exact hj ((zk4 (C7.mp hy).1 F.ok.nd).mp (hy.trans hx.symm))
 rcases F.ok.sto i x hi hx with hl|hl
 ·obtain⟨m,hm⟩:=F.ns
  refine Z6 hl hm (λ h' hn' hs'=>?_) (by rw[F.ok.fn];rfl)
  obtain⟨oL,es,ep,hL,hLd,_⟩:=id hm;have B:Bu c s {s with heap:=h',toks:=s.toks+1} c.env.locals:=⟨.inl F.ok.lo,λ o e=>by
   rw[hL] at e;cases e;exact⟨λ vs q=>by(rw[hLd] at q;cases q),λ q=>by(obtain⟨_,_,q⟩:=q;rw[hLd] at q;cases q)⟩,hs',rfl,rfl⟩
  refine k _ ?_ λ K=>B.rp;have cell: ∀{a:Addr} {v:Option Value},s.heap.IsCell a v->h'.IsCell a v:=λ⟨o,h1,h2⟩=>⟨o,(hs'.2 _ λ q=>by
   subst q;rw[hL] at h1;cases h1;rw[hLd] at h2;cases h2).trans h1,h2⟩
  refine F.bu B ⟨_,hn'⟩ (λ y a h=>let ⟨u,h1⟩:=F.cells y a h;⟨u,cell h1⟩) (λ j y d' hy hd=>?_) λ b o hb=>(F.fix b o hb).2.2.2.1;by_cases hj:j=i
  ·subst hj
   rw[hx] at hy;cases hy;rw[zgk] at hd;have:d'=d:=by
    cases q:V[j]? with
    |none=>rw[q] at hd;cases hd
    |some _=>rw[q] at hd;simpa using hd.symm
   subst this;exact⟨v,.loc hl _ hn' (by simp),zeo B.rp _ _ r⟩
  ·rw[P8 (λ q=>hj q.symm)] at hd
   obtain⟨u,h1,h2⟩:=F.vars j y d' hy hd;refine⟨u,?_,zeo B.rp _ _ h2⟩
   cases h1 with
   |loc hk m₁ hn hm₁=>
    have:=Ns.unique hn hm;subst this;exact .loc hk _ hn' (by simpa [ne j y hy hj] using hm₁)
   |cel hk a hc hv=>exact .cel hk a hc (cell hv)
 ·rcases F.ok.kd i x hx with⟨_,q⟩|⟨_,_,a,ha⟩
  ·rw[hl] at q;cases q
  obtain⟨v₀,hv₀⟩:=F.cells x a ha;refine wpAny_storeName_cell F.ok.fn hl ha hv₀ (λ h' hc' hs'=>?_);obtain⟨oC,hC,hCd⟩:=id hv₀;have B:Bu c s {s with heap:=h'} a:=⟨.inl (F.ok.own i x a hi hx ha),λ o e=>by
   rw[hC] at e;cases e;exact⟨λ vs q=>by(rw[hCd] at q;cases q),λ q=>by(obtain⟨_,_,q⟩:=q;rw[hCd] at q;cases q)⟩,hs',rfl,rfl⟩
  refine k _ ?_ λ K=>B.rp;obtain⟨m,hm⟩:=F.ns;have hm':h'.Ns c.env.locals m:=hm.sameBut hs' λ q=>by
   obtain⟨oL,es,ep,hL,hLd,_⟩:=hm;rw[q,hC] at hL;cases hL;rw[hCd] at hLd;cases hLd
  have cell: ∀{y:Str} {a':Addr} {u:Option Value},(y,a')∈c.env.cells->y≠x->s.heap.IsCell a' u->h'.IsCell a' u:=λ{y a' u} hm hne hu=>
   hu.sameBut hs' λ q=>hne (name_of_addr F.ok.apart hm (q▸mem_of_lookup ha))
  refine F.bu B ⟨_,hm'⟩ (λ y a' h=>?_) (λ j y d' hy hd=>?_) λ b o hb q=>by
   subst q;obtain⟨h1,_,h2,_⟩:=F.fix _ o hb;rw[hC] at h1;cases h1;exact h2 _ hCd
  ·by_cases q:y=x
   ·subst q
    rw[ha] at h;cases h;exact⟨_,hc'⟩
   ·obtain⟨u,h1⟩:=F.cells y a' h
    exact⟨u,cell (mem_of_lookup h) q h1⟩
  ·by_cases hj:j=i
   ·subst hj
    rw[hx] at hy;cases hy;rw[zgk] at hd;have:d'=d:=by
     cases q:V[j]? with
     |none=>rw[q] at hd;cases hd
     |some _=>rw[q] at hd;simpa using hd.symm
    subst this;exact⟨v,.cel (.inl hl) a ha hc',zeo B.rp _ _ r⟩
   ·rw[P8 (λ q=>hj q.symm)] at hd
    obtain⟨u,h1,h2⟩:=F.vars j y d' hy hd;refine⟨u,?_,zeo B.rp _ _ h2⟩
    cases h1 with
    |loc hk m₁ hn hm₁=>
     have:=Ns.unique hn hm;subst this;exact .loc hk _ hm' hm₁
    |cel hk a' hc'' hv=>exact .cel hk a' hc'' (cell (mem_of_lookup hc'') (ne j y hy hj) hv)
structure Wx (G:Gt)(w:E3)(c:Cx)(H:Hm)(V:List (Option D))(body:List Stmt)(P:Flow->A8->Prop)(E:Value->A8->Prop):Prop where
 h: ∀s,FrS G c H V s->D0 (D1 pw w) c.A (X5 body c.env) P E s
variable{P:Flow->A8->Prop}{E:Value->A8->Prop}{rest:List Stmt}
theorem Wx.nil (h: ∀s,FrS G c H V s->P .next s):Wx G w c H V [] P E:=⟨λ s F=>C4 (h s F)⟩
theorem Wx.assign {x:Str}{p ps:Pos}{e:Expr}{d:D}(i:Nat)(hi:i<c.ns)(hx:c.nm[i]? =some x)(he:Ev G w c H V true e d)(h:Wx G w c H (V.set i (some d)) rest P E)
 (hs:U6 e (some (.Name x p)) ps.line c.env=pure false:=by rfl):Wx G w c H V (.Assign [.Name x p] e ps::rest) P E:=by
 refine⟨λ s F=>?_⟩
 with_reducible refine E8 (V3 (he.r F λ v s1 g1 r1=>?_) hs)
 exact(F.onto g1).store i hi hx r1 λ s2 F2 z=>h.h s2 F2
theorem Wx.ret {e:Expr}{ps:Pos}{d:D}(he:Ev G w c H V false e d)(h: ∀v s,FrS G c H V s->Rp (hid (hk c H false) s.heap) d v->P (.ret v) s):Wx G w c H V (.Return (some e) ps::rest) P E:=by
 refine⟨λ s F=>?_⟩
 with_reducible refine E8 (zgu (he.r F λ v s1 g1 r1=>?_))
 exact h v s1 (F.onto g1) r1
theorem zc5 (env:Env): ∀(a b:List Stmt),X5 (a++b) env=(X5 a env >>= λ f=>match f with| .next=>X5 b env|f=>pure f)
 |[],b=>rfl
 |st::a,b=>by
  rw[N9,execs_cons,execs_cons,bind_assoc];congr 1;funext f
  cases f with
  |next=>exact zc5 env a b
  |_=>rfl
theorem ztj {t:Expr}{a b:List Stmt}{ps:Pos}(env:Env):X5 (.If t a b ps::rest) env=
 (do zfe ps;let x <-isTrue t env (M3 t env);if x=true then X5 (a++rest) env else X5 (b++rest) env):=by
 rw[execs_cons];show((do zfe ps;let x <-isTrue t env (M3 t env);if x=true then X5 a env else X5 b env) >>= _)=_
 simp only[bind_assoc];congr 1;funext _;congr 1;funext x;cases x
 ·simp only[V7,if_false];rw[zc5];exact congrArg _ (funext λ f=>by cases f<;>rfl)
 ·simp only[if_true];rw[zc5];exact congrArg _ (funext λ f=>by cases f<;>rfl)
theorem Wx.ite {t:Expr}{a b:List Stmt}{ps:Pos}{p:Bool}(ht:Ts G w c H V t p)(h1:p=true->Wx G w c H V (a++rest) P E)(h2:p=false->Wx G w c H V (b++rest) P E):
 Wx G w c H V (.If t a b ps::rest) P E:=by
 refine⟨λ s F=>?_⟩;rw[ztj]
 with_reducible refine B0 (K7 (B0 (ht.h s F _ _ λ s1 g1=>?_)))
 cases p with
 |true=>rw[if_pos rfl];exact(h1 rfl).h s1 (F.onto g1)
 |false=>rw[if_neg N4];exact(h2 rfl).h s1 (F.onto g1)
theorem Wx.ite0 {t:Expr}{a b:List Stmt}{ps:Pos}(ht:Ts G w c H V t false)(h:Wx G w c H V (b++rest) P E):Wx G w c H V (.If t a b ps::rest) P E:= .ite ht (λ h=>Y4 h) λ z=>h
theorem Wx.ite1 {t:Expr}{a b:List Stmt}{ps:Pos}(ht:Ts G w c H V t true)(h:Wx G w c H V (a++rest) P E):Wx G w c H V (.If t a b ps::rest) P E:= .ite ht (λ z=>h) λ h=>Y4 h
end
open Internal.Wx renaming assign->I9,ite->W3,ret->za3,nil->zbw
section
variable{G:Gt}{w:E3}{c:Cx}{H:Hm}{V:List (Option D)}{s s':A8}
structure As (G:Gt)(w:E3)(c:Cx)(H:Hm)(V:List (Option D))(f:Bool)(es:List Expr)(ds:List D):Prop where
 h: ∀(pos:Pos) s,FrS G c H V s-> ∀(Q:List Value->A8->Prop) (E:Value->A8->Prop),(∀vs s',Go s s'->RpL (hid (hk c H f) s'.heap) ds vs->Q vs s')->
  D0 (D1 pw w) c.A (zcn (zb6 pos (J7 es c.env))) Q E s
 ns: ∀pos,(zb6 pos (J7 es c.env)).any (·.1)=false
theorem As.nil {f:Bool}:As G w c H V f [] []:=by
 refine⟨λ pos s F Q E k=>?_,λ z=>rfl⟩;show D0 _ _ (zcn []) _ _ _
 with_reducible exact S9 (k [] s (M4 s) Z8)
theorem As.cons {f:Bool}{e:Expr}{es:List Expr}{d:D}{ds:List D}(h1:Ev G w c H V f e d)(h2:As G w c H V f es ds)
 (hs:J7 (e::es) c.env=(false,M3 e c.env)::J7 es c.env:=by rfl):As G w c H V f (e::es) (d::ds):=by
 have hb: ∀pos,zb6 pos (J7 (e::es) c.env)=(false,M3 e c.env)::zb6 pos (J7 es c.env):=λ pos=>by rw[hs];rfl
 refine⟨λ pos s F Q E k=>?_,λ pos=>?_⟩
 ·rw[hb]
  with_reducible refine K6 (h1.r F λ v s1 g1 r1=>h2.h pos s1 (F.onto g1) _ _ λ vs s2 g2 r2=>?_)
  exact k _ s2 (g1.trans g2) (U4 (r1.go g2 (F.onto g1).tb) r2)
 ·rw[hb];exact h2.ns pos
theorem N2 {M:ze7}{A:H2}{E:Value->A8->Prop}{f:Value}{args:List (Bool×Sem Value)}{Q:Args->A8->Prop}(hns:args.any (·.1)=false)
 (h:D0 M A (zcn args) (λ vs s'=>Q ⟨vs,[]⟩ s') E s):D0 M A (evalArgs f true args []) Q E s:=by
 cases args with
 |nil=>
  unfold evalArgs;show D0 M A (zcn [] >>= _) Q E s;refine B0 (E7 h (λ vs s' h'=>?_) λ z z x=>x);refine J8 ?_;exact B0 (C4 (B0 (C4 (C4 h'))))
 |cons x r=>
  obtain⟨b,x⟩:=x;have:b=false:=by cases b<;>simp_all
  subst this;exact zbo h
structure Nv (G:Gt)(w:E3)(c:Cx)(e:Expr)(v:Value):Prop where
 h: ∀(H:Hm) (V:List (Option D)) s,FrS G c H V s-> ∀(Q:Value->A8->Prop) (E:Value->A8->Prop),Q v s->D0 (D1 pw w) c.A (M3 e c.env) Q E s
theorem Nv.glob {x:Str}{p:Pos}{v:Value}(j:Nat)(hj:c.gn[j]? =some (x,v)):Nv G w c (.Name x p) v:=by
 refine⟨λ H V s F Q E q=>?_⟩;obtain⟨hk,hd,hg⟩:=F.ok.gns _ (A6 hj);obtain⟨mg,h1,h2,h3⟩:=F.gnd.mg;obtain⟨mb,h4,h5⟩:=F.gnd.mb;rcases hg with hg|⟨hb,hg⟩
 ·with_reducible refine zks F.ok.fn hk (loadGlobal_global (mg:=mg) (by rw[F.ok.gl];exact h1) (h2 _ hg) q) hd
 ·with_reducible refine zks F.ok.fn hk (loadGlobal_builtin (mg:=mg) (mb:=mb) (by rw[F.ok.gl];exact h1) (h3 _ hb) (by rw[F.ok.bi];exact h4) (h5 _ hg) q) hd
structure FnG (n:Bool)(G:Gt)(w:E3)(l:Nat)(f:Addr)(ds:List D)(d:D):Prop where
 h: ∀A K s vs,Rm A l->(n=true->A.handled=none)->Ok G A K s->RpL (hid K s.heap) ds vs->Gv w A K s (call (.ref f) vs) d
noncomputable abbrev Fn:=FnG false
structure Bf (G:Gt)(w:E3)(f:Value)(ds:List D)(d:D):Prop where
 h: ∀A K s vs,Ok G A K s->RpL (hid K s.heap) ds vs->Gv w A K s (call f vs) d
theorem Ev.callF {b n:Bool}{args:List Expr}{ps p:Pos}{x:Str}{f l:Nat}{ds:List D}{d:D}{fd:K9}(hf:Nv G w c (.Name x p) (.ref f))(ha:As G w c H V b args ds)(hn:FnG n G w l f ds d)
 (hfd:(f,fd)∈G.ftab)(hl:l<=c.lv+1)(hh:n=true->c.A.handled=none):Ev G w c H V b (.Call (.Name x p) args [] ps) d:=by
 refine .mk' λ s F Q E k=>?_
 with_reducible refine L0 (hf.h H V s F _ _ ?_)
 with_reducible refine R3 (o:={cls:= .type "function",data:= .func fd}) (fd:=fd) (N2 (ha.ns _) (ha.h _ s F _ _ λ vs s1 g1 r1=>⟨⟨(F.onto g1).gnd.fn _ hfd,rfl⟩,?_⟩))
 rw[I2];exact(hn.h c.A _ s1 vs ((F.onto g1).ok.rm.le hl) hh ((F.onto g1).okS b) r1).h _ _ λ v s2 g2 r2=>k v s2 (g1.trans g2) r2
theorem Ev.callB {b:Bool}{args:List Expr}{ps p:Pos}{x:Str}{id:String}{ds:List D}{d:D}(hf:Nv G w c (.Name x p) (.builtin id))(ha:As G w c H V b args ds)(hn:Bf G w (.builtin id) ds d):
 Ev G w c H V b (.Call (.Name x p) args [] ps) d:=by
 refine .mk' λ s F Q E k=>?_
 with_reducible refine L0 (hf.h H V s F _ _ (O0 (ha.ns _) (N2 (ha.ns _) (ha.h _ s F _ _ λ vs s1 g1 r1=>?_))))
 rw[I2];exact(hn.h c.A _ s1 vs ((F.onto g1).okS b) r1).h _ _ λ v s2 g2 r2=>k v s2 (g1.trans g2) r2
theorem Ev.callT {b:Bool}{args:List Expr}{ps p:Pos}{x:Str}{T:String}{ds:List D}{d:D}(hf:Nv G w c (.Name x p) (.type T))(ha:As G w c H V b args ds)(hn:Bf G w (.type T) ds d):
 Ev G w c H V b (.Call (.Name x p) args [] ps) d:=by
 refine .mk' λ s F Q E k=>?_
 with_reducible refine L0 (hf.h H V s F _ _ (O7 (ha.ns _) (N2 (ha.ns _) (ha.h _ s F _ _ λ vs s1 g1 r1=>?_))))
 rw[I2];exact(hn.h c.A _ s1 vs ((F.onto g1).okS b) r1).h _ _ λ v s2 g2 r2=>k v s2 (g1.trans g2) r2
theorem zn5 {kindOf:Str->Option X6}{x:Str}: ∀{l:List (Str×Value)} {m:Str->Option Value},(∀p∈l,p.1≠x)->bindL kindOf l m x=m x
 |[],m,_=>rfl
 |(n,v)::r,m,h=>by
  unfold bindL;rw[zn5 λ p hp=>h p (B1 _ hp)];split
  ·have:=h (n,v) A9
   simp[U8 this]
  ·rfl
theorem zmf {kindOf:Str->Option X6}{x:Str}{v:Value}(hk:kindOf x=some .local): ∀{l:List (Str×Value)} {m:Str->Option Value},(l.map (·.1)).Nodup->(x,v)∈l->bindL kindOf l m x=some v
 |(n,u)::r,m,hn,h=>by
  rw[E5,za5] at hn;unfold bindL;rcases B9.mp h with e|h
  ·cases e
   rw[zn5 λ p hp e=>hn.1 (C5.mpr ⟨p,hp,e⟩),if_pos hk];simp
  ·exact zmf hk hn.2 h
theorem zn6 {kindOf:Str->Option X6}{x:Str}: ∀{l:List (Str×Value)} {m:Str->Option Value},(∀p∈l,p.1≠x)->bindC kindOf l m x=m x
 |[],m,_=>rfl
 |(n,v)::r,m,h=>by
  unfold bindC;rw[zn6 λ p hp=>h p (B1 _ hp)];split
  ·rfl
  ·have:=h (n,v) A9
   simp[U8 this]
theorem zmg {kindOf:Str->Option X6}{x:Str}{v:Value}(hk:kindOf x=some .cell): ∀{l:List (Str×Value)} {m:Str->Option Value},(l.map (·.1)).Nodup->(x,v)∈l->bindC kindOf l m x=some v
 |(n,u)::r,m,hn,h=>by
  rw[E5,za5] at hn;unfold bindC;rcases B9.mp h with e|h
  ·cases e
   rw[zn6 λ p hp e=>hn.1 (C5.mpr ⟨p,hp,e⟩),if_neg (by rw[hk];decide)]
   simp
  ·exact zmg hk hn.2 h
theorem zf4 {x:Str}{names:List (Str×X6)}: ∀{n:Nat} {acc:List (Str×Addr)},((x,zcv)∈names\/ ∃a,(x,a)∈acc)-> ∃a,(x,a)∈T0 n names acc:=by
 induction names with
 |nil=>exact λ h=>h.elim noM id
 |cons y r ih=>
  intro n acc h;show ∃a,(x,a)∈if y.2== .cell then T0 (n+1) r ((y.1,n)::acc) else T0 n r acc;split
  ·refine ih ?_
   rcases h with h|⟨a,h⟩
   ·rcases B9.mp h with e|h
    ·rw[<-e];exact .inr ⟨n,A9⟩
    ·exact .inl h
   ·exact .inr ⟨a,B1 _ h⟩
  ·rename_i hk
   refine ih (h.imp_left λ h=>?_);rcases B9.mp h with e|h
   ·rw[<-e] at hk;exact absurd rfl hk
   ·exact h
theorem zds {α:Type}{x:Str}{l:List (Str×α)}{a:α}:(x,a)∈l-> ∃b,l.lookup x=some b:=by
 induction l with
 |nil=>exact noM
 |cons y r ih=>
  intro h;rw[zal]
  cases q:x==y.1 with
  |true=>exact⟨y.2,rfl⟩
  |false=>
   rcases B9.mp h with e|h
   ·rw[<-e,beq_self_eq_true] at q;cases q
   ·exact ih h
structure Fd where
 f:Addr
 c:Addr
 fd:K9
 ps:List Str
 nm:List Str
 kl:List Bool
 gn:List (Str×Value)
noncomputable def Fd.body (D:Fd):List Stmt:=match D.fd.body with| .stmts b=>b|_=>[]
structure Fok (G:Gt)(D:Fd):Prop where
 mem:(D.f,D.fd)∈G.ftab
 cmem:(D.c,D.fd.qualname)∈G.ctab
 code:D.fd.code= .ref D.c
 body:D.fd.body= .stmts D.body
 clo:D.fd.closure=[]
 gl:D.fd.globals=3
 bi:D.fd.builtins=0
 kind:D.fd.scope.kind= .function
 gen:D.fd.scope.isGenerator=false
 cor:D.fd.scope.isCoroutine=false
 bind: ∀vals:List Value,vals.length=D.ps.length->zay D.fd ⟨vals,[]⟩=pure (D.ps.zip vals)
 pre: ∀(i:Nat) (x:Str),D.ps[i]? =some x->D.nm[i]? =some x
 nd:D.nm.Nodup
 nms: ∀x∈D.nm,(x==("__debug__":Str))=false/\(x==("__classdict__":Str))=false
 kns: ∀(i:Nat) (x:Str),D.nm[i]? =some x->(D.kl[i]? =some false/\D.fd.scope.names.lookup x=some .local)\/(D.kl[i]? =some true/\D.fd.scope.names.lookup x=some .cell)
 gns: ∀p∈D.gn,D.fd.scope.names.lookup p.1=some .globalImplicit/\(p.1==("__debug__":Str))=false/\(p∈G.gtab\/(p.1∈G.bnames/\p∈G.btab))
noncomputable def yd1 (c:Cx)(d:D)(f:Flow)(s':A8):Prop:=GoW c.wr c.b s'/\Rp (hid c.K s'.heap) d (match f with| .ret v=>v|_=> .none)
noncomputable def Fd.cx (Δ:Fd)(A:H2)(env:Env)(b:A8)(K:List Addr)(lv:Nat):Cx:={A:=A,env:=env,b:=b,K:=K,nm:=Δ.nm,ns:=Δ.nm.length,gn:=Δ.gn,lv:=lv,kl:=Δ.kl,wr:=[],dk:=[]}
noncomputable def Fd.v0 (Δ:Fd)(ds:List D):List (Option D):=ds.map some++C1 (Δ.nm.length-ds.length) none
theorem Fn.introE {n:Bool}(Δ:Fd)(hD:Fok G Δ){l:Nat}{ds:List D}{d:D}(hl:2<=l)(hlen:ds.length=Δ.ps.length)
 (h: ∀A env b K lv,lv+2=l->(n=true->A.handled=none)->(∃L,env=H3 Δ.fd L Δ.f)-> ∀(E:Value->A8->Prop),Wx G w (Δ.cx A env b K lv) h0 (Δ.v0 ds) Δ.body (yd1 (Δ.cx A env b K lv) d) E):FnG n G w l Δ.f ds d:=by
 refine⟨λ A K s vs hr hh ok hv=>⟨λ Q E k=>?_⟩⟩;have hvl:vs.length=Δ.ps.length:=hv.length.trans hlen;have hnd:((Δ.ps.zip vs).map (·.1)).Nodup:=by
  rw[zdh (by omega)]
  have:Δ.ps.Sublist Δ.nm:=by
   have e:Δ.ps=Δ.nm.take Δ.ps.length:=by
    apply T3;intro i;rw[zkd];split
    ·rename_i hi
     have:=hD.pre i Δ.ps[i] (B3 hi);rw[this,B3 hi]
    ·rename_i hi
     exact H9 (by omega)
   rw[e];exact zxr _ _
  exact hD.nd.sublist this
 have kd: ∀x∈Δ.nm,Δ.fd.scope.names.lookup x=some .local\/(Δ.fd.scope.names.lookup x=some .cell/\((T0 (s.heap.objs.size+1) Δ.fd.scope.names []).lookup x).isSome=true):=by
  intro x hx;obtain⟨i,hi⟩:=K4.mp hx;rcases hD.kns i x hi with⟨_,q⟩|⟨_,q⟩
  ·exact .inl q
  ·refine .inr ⟨q,?_⟩
   obtain⟨a,ha⟩:=zf4 (n:=s.heap.objs.size+1) (acc:=[]) (.inl (mem_of_lookup q));obtain⟨b,hb⟩:=zds ha;rw[hb];rfl
 have psnm: ∀x∈Δ.ps,x∈Δ.nm:=λ x hx=>by
  obtain⟨i,hi⟩:=K4.mp hx;exact A6 (hD.pre i x hi)
 have hcr:s.heap.CodeRec Δ.fd.code Δ.fd.qualname:=by rw[hD.code];exact(ok.gnd.cr _ hD.cmem).1
 have hkind: ∀x∈Δ.ps.zip vs,Δ.fd.scope.names.lookup x.1=some .local\/(Δ.fd.scope.names.lookup x.1=some .cell/\((T0 (s.heap.objs.size+1) Δ.fd.scope.names []).lookup x.1).isSome=true):=
  λ x hx=>kd _ (psnm _ (zm0 hx).1)
 with_reducible refine zif (codeAny_call_cells hr.room (ok.gnd.fn _ hD.mem) rfl ok.gnd.nl hcr hD.body (hD.bind vs hvl) hD.clo hkind (λ s₁ I=>?_) hD.cor hD.gen hD.kind)
 let c:Cx:=Δ.cx (A.deeper (H3 Δ.fd s.heap.objs.size Δ.f)) (H3 Δ.fd s.heap.objs.size Δ.f) s K (l-2)
 have hko: ∀x,c.env.kindOf x=Δ.fd.scope.names.lookup x:=λ x=>rfl;have hgo:Go s s₁:=by
  obtain⟨h',tk,e⟩:=I.toInCall.same;subst e;refine Go.of I.toInCall.keep ?_ rfl rfl;exact K3 (C2 I.toInCall.fresh I.toInCall.ns.lt)
 have hok:COk G c:={
  rm:=by have:=hr.le (k:=l) (D2 _);exact⟨by show A.depth+1+(l-2+1)<=600;have:=hr.1;omega,by show A.units+3+20*(l-2+1)<=9000;have:=hr.2;omega⟩
  fn:=hD.kind
  gl:=hD.gl
  bi:=hD.bi
  lo:=D2 _
  nd:=hD.nd
  dbg:=λ x hx=>hD.nms x hx
  apart:=I.apart
  own:=λ i x a z z ha=>K3 (I.above x a (mem_of_lookup ha))
  sto:=λ i x z hx=>(hD.kns i x hx).imp (·.2) (·.2)
  kd:=λ i x hx=>by
   rcases hD.kns i x hx with⟨h1,q⟩|⟨h1,q⟩
   ·exact .inl ⟨h1,q⟩
   ·rcases kd x (A6 hx) with q'|⟨_,q'⟩
    ·rw[q] at q';cases q'
    ·exact .inr ⟨h1,.inl q,zb2.mp q'⟩
  gns:=λ p hp=>⟨(hD.gns p hp).1,(hD.gns p hp).2⟩
  gnd:=ok.gnd
  tb:=ok.tb
  kl:=ok.kl
  wrq:=λ a h=>nomatch h
  dkq:=λ p h=>nomatch h}
 have F:FrS G c h0 (Δ.v0 ds) s₁:={
  ok:=hok
  go:=hgo.toW
  ns:=⟨_,I.toInCall.ns⟩
  vars:=λ i x d' hx hd=>by
   unfold Fd.v0 at hd;have hil:i<ds.length:=by
    rcases O3 i ds.length with q|q
    ·exact q
    ·rw[M0 (by simpa using q),zgl] at hd
     split at hd<;>cases hd
   rw[I3 (by simpa using hil),B7] at hd
   cases q:ds[i]? with
   |none=>rw[q] at hd;cases hd
   |some d''=>
    rw[q] at hd;cases hd;obtain⟨v,h1,h2⟩:=hv.get q;have hi:i<Δ.ps.length:=by rw[<-hlen];exact(C7.mp q).1
    have hpx:Δ.ps[i]? =some x:=by
     have:=hD.pre i Δ.ps[i] (B3 hi);rw[show Δ.nm[i]? =some x from hx] at this
     cases this;exact B3 hi
    have hz:(x,v)∈Δ.ps.zip vs:=by
     refine K4.mpr ⟨i,?_⟩;rw[O8];exact⟨hpx,h1⟩
    refine⟨v,?_,?_⟩
    ·rcases kd x (A6 hx) with q'|⟨q',q''⟩
     ·exact .loc q' _ I.toInCall.ns (zmf q' hnd hz)
     ·obtain⟨a,ha⟩:=zb2.mp q''
      refine .cel (.inl q') a ha ?_;have:=I.cell x a ha;rwa [zmg q' hnd hz] at this
    ·show Rp (hid (K++[]) s₁.heap) _ v
     rw[S0];exact h2.go hgo ok.tb
  own:=λ a ds h=>nomatch h
  olo:=λ p h=>nomatch h
  ond:=U7
  fix:=λ a o h=>nomatch h
  gen:=λ p h=>nomatch h
  cells:=λ x a hm=>⟨_,I.cell x a hm⟩
  hdA:=ok.hd.go hgo ok.tb
  dk:=λ p h=>nomatch h}
 have hw:=(h (A.deeper (H3 Δ.fd s.heap.objs.size Δ.f)) (H3 Δ.fd s.heap.objs.size Δ.f) s K (l-2) (show l-2+2=l by omega) hh ⟨_,rfl⟩ λ z z=>False).h s₁ F
 refine E7 hw (λ f s' h=>?_) λ e s' h=>h.elim;exact k _ s' h.1.nil h.2
theorem Fn.intro {n:Bool}(Δ:Fd)(hD:Fok G Δ){l:Nat}{ds:List D}{d:D}(hl:2<=l)(hlen:ds.length=Δ.ps.length)
 (h: ∀A env b K lv,lv+2=l->(n=true->A.handled=none)->env.scope=Δ.fd.scope-> ∀(E:Value->A8->Prop),Wx G w (Δ.cx A env b K lv) h0 (Δ.v0 ds) Δ.body (yd1 (Δ.cx A env b K lv) d) E):FnG n G w l Δ.f ds d:=
 Fn.introE Δ hD hl hlen λ A env b K lv h1 h2 h3 E=>h A env b K lv h1 h2 (by obtain⟨L,rfl⟩:=h3;rfl) E
end
open Internal.As renaming cons->B8,nil->D9
open Internal.Nv renaming glob->G7
open Internal.Ev renaming callF->U5,callB->V0
section
variable{G:Gt}{w:E3}{c:Cx}{H:Hm}{V:List (Option D)}{s s':A8}
noncomputable def Loose (o:Obj):Prop:=(∃fs,o.data= .fields fs)/\(o.cls= .type "enumerate"\/o.cls= .type "str_iterator"\/o.cls= .type "str_ascii_iterator")
theorem Loose.no {o:Obj}(h: ∀fs,o.data≠ .fields fs): ¬Loose o:=λ⟨⟨fs,e⟩,_⟩=>h fs e
theorem Loose.seq {o:Obj}(h:Sq o): ¬Loose o:=Loose.no λ fs e=>by obtain⟨_,_,e'⟩:=h;rw[e'] at e;cases e
theorem Loose.nof {o:Obj}(h:Loose o):NoF o:= .inr (by rcases h.2 with e|e|e<;>(rw[e];exact⟨by simp,by simp⟩))
structure St1 (c:Cx)(H:Hm)(W:List Addr)(gw:List Nat)(lim:Nat)(s s':A8):Prop where
 llo:c.b.heap.objs.size<=lim
 hdl: ∀a,c.A.handled=some (.ref a)->a<lim
 keep: ∀b o,b∉W->(b<lim\/ ¬Loose o)->s.heap.get? b=some o->s'.heap.get? b=some o
 lo: ∀a∈W,OkW c a
 nof: ∀a∈W,∀o,s.heap.get? a=some o->NoF o/\(∀v,o.data≠ .cell v)/\a≠c.env.locals/\(Sq o->a∈H.own.map (·.1))
 size:s.heap.objs.size<=s'.heap.objs.size
 gens: ∀(i:Nat) x,i∉gw->s.gens[i]? =some x->s'.gens[i]? =some x
 bare: ∀(i:Nat) x,s'.gens[i]? =some x->s.gens[i]? =some x\/x.bare=true
 os:s'.os=s.os
 glo: ∀i∈gw,c.b.gens.size<=i
 hdn: ∀a∈W,c.A.handled≠some (.ref a)
theorem FrS.step {W:List Addr}{gw:List Nat}{lim:Nat}{H':Hm}(F:FrS G c H V s)(m:St1 c H W gw lim s s')(he:H'.own.map (·.1)=H.own.map (·.1))
 (ho: ∀a ds,(a,ds)∈H'.own->(a∉W/\(a,ds)∈H.own)\/(∃o vs,s'.heap.get? a=some o/\IsL o vs/\RpL (hid (hk c H true) s'.heap) ds vs))
 (hf: ∀a o,(a,o)∈H'.fix->(a∉W/\(a,o)∈H.fix/\(a<lim\/ ¬Loose o))\/(s'.heap.get? a=some o/\(a≠82/\a≠89)/\(∀v,o.data≠ .cell v)/\a≠c.env.locals/\a∉H.own.map (·.1)))
 (hg: ∀p∈H'.gen,(p.1∉gw/\p∈H.gen)\/(s'.gens[p.1]? =some p.2/\c.b.gens.size<=p.1)):FrS G c H' V s':=by
 have hkk:hk c H' true=hk c H true:=by simp only[hk,if_true,he]
 have rp: ∀b o,Sq o->hid (hk c H true) s.heap b=some o->hid (hk c H true) s'.heap b=some o:=by
  intro b o hq e;rw[hid_some] at e ⊢;refine⟨e.1,m.keep b o (λ hb=>?_) (.inr (Loose.seq hq)) e.2⟩;exact e.1 (D4 _ ((m.nof b hb o e.2).2.2.2 hq))
 have cell: ∀{a:Addr} {v:Option Value},s.heap.IsCell a v->s'.heap.IsCell a v:=λ{a v} ⟨o,h1,h2⟩=>⟨o,m.keep a o (λ hb=>(m.nof a hb o h1).2.1 v h2) (.inr (Loose.no λ fs e=>by rw[h2] at e;cases e)) h1,h2⟩
 have ns: ∀{mm},s.heap.Ns c.env.locals mm->s'.heap.Ns c.env.locals mm:=λ{mm} ⟨o,es,ep,h1,h2,r⟩=>⟨o,es,ep,m.keep _ o (λ hb=>(m.nof _ hb o h1).2.2.1 rfl) (.inr (Loose.no λ fs e=>by rw[h2] at e;cases e)) h1,h2,r⟩
 refine{ok:=F.ok,go:=?_,ns:=?_,vars:=?_,own:=?_,olo:=?_,ond:=?_,fix:=?_,gen:=?_,cells:=?_,hdA:=λ v e=>?_,dk:=λ p hp=>?_}
 ·have g:=F.go
  have keep: ∀a o,a≠82->a≠89->a∉c.wr->c.b.heap.get? a=some o->s'.heap.get? a=some o:=λ a o h1 h2 h3 e=>
   m.keep a o (λ hb=>(m.lo a hb).elim (λ h=>absurd (C6 e) (D7.mpr h)) h3) (.inl (C9 (C6 e) m.llo)) (g.keep a o h1 h2 h3 e)
  refine⟨keep,λ t=>?_,A7 g.size m.size,λ i x e=>?_,λ i x e=>?_,m.os.trans g.os⟩
  ·exact(g.tab t).butW (W:=W) m.size (λ b o hb hn e=>m.keep b o hb (.inr λ hl=>hn hl.nof) e) λ a ha o e=>(m.nof a ha o e).1
  ·refine m.gens i x (λ hi=>?_) (g.gens i x e)
   exact absurd (J4.mp e).1 (D7.mpr (m.glo i hi))
  ·rcases m.bare i x e with h|h
   ·exact g.bare i x h
   ·exact .inr h
 ·obtain⟨mm,h⟩:=F.ns
  exact⟨mm,ns h⟩
 ·intro i x d h1 h2
  obtain⟨v,h3,h4⟩:=F.vars i x d h1 h2;rw[hkk];refine⟨v,?_,zeo rp _ _ h4⟩
  cases h3 with
  |loc hk mm hn hm=>exact .loc hk mm (ns hn) hm
  |cel hk a hc hv=>exact .cel hk a hc (cell hv)
 ·intro a ds h
  rw[hkk];rcases ho a ds h with⟨h1,h2⟩|h1
  ·obtain⟨o,vs,h3,h4,h5⟩:=F.own a ds h2
   exact⟨o,vs,m.keep a o h1 (.inr (Loose.seq h4.sq)) h3,h4,za4 rp _ _ h5⟩
  ·exact h1
 ·intro p hp
  have:p.1∈H.own.map (·.1):=by rw[<-he];exact I4 (f:=(·.1)) hp
  obtain⟨q,h1,h2⟩:=C5.mp this;rw[<-h2];exact F.olo q h1
 ·rw[he];exact F.ond
 ·intro a o h
  rw[he];rcases hf a o h with⟨h1,h2,hl⟩|h1
  ·obtain⟨h3,h4⟩:=F.fix a o h2
   exact⟨m.keep a o h1 hl h3,h4⟩
  ·exact h1
 ·intro p hp
  rcases hg p hp with⟨h1,h2⟩|h1
  ·exact⟨m.gens _ _ h1 (F.gen p h2).1,(F.gen p h2).2⟩
  ·exact h1
 ·intro x a h
  obtain⟨v,h1⟩:=F.cells x a h;exact⟨v,cell h1⟩
 ·obtain⟨b,o,vs,e1,e2,e3⟩:=F.hdA v e
  exact⟨b,o,vs,e1,m.keep b o (λ hb=>m.hdn b hb (by rw[e,e1])) (.inl (m.hdl b (by rw[e,e1]))) e2,e3⟩
 ·obtain⟨sl,e⟩:=F.dk p hp
  exact⟨sl,m.keep _ _ (λ hb=>(m.lo _ hb).elim (λ h=>absurd (F.ok.dkq p hp).1 (D7.mpr h)) (F.ok.dkq p hp).2.1) (.inl (C9 (F.ok.dkq p hp).1 m.llo)) e⟩
theorem FrS.ownset {a:Addr}{ds ds':List D}{vs':List Value}{n' tk:Nat}{h':P9}(F:FrS G c H V s)(j:Nat)(hj:H.own[j]? =some (a,ds))(ha:OkW c a)
 (hs:P2 a s.heap h')(ho:h'.get? a=some (M8 vs' n'))(r:RpL (hid (hk c H true) s.heap) ds' vs'):
 FrS G c ⟨H.own.set j (a,ds'),H.fix,H.gen⟩ V {s with heap:=h',toks:=tk}:=by
 have hm:=A6 hj;have hma:a∈H.own.map (·.1):=I4 (f:=(·.1)) hm;have hjl:j<H.own.length:=(C7.mp hj).1;have he:(H.own.set j (a,ds')).map (·.1)=H.own.map (·.1):=by
  apply T3;intro i;rw[B7,B7,zfo];split
  ·rename_i q;subst q;rw[hj];rfl
  ·rfl
 obtain⟨o₀,vs₀,h1,h2,_⟩:=F.own a ds hm;obtain⟨n₀,rfl⟩:=h2;obtain⟨mm,oL,es,ep,hL,hLd,_⟩:=F.ns;have m:St1 c H [a] [] s.heap.objs.size s {s with heap:=h',toks:=tk}:={
  llo:=F.go.size
  hdl:=λ b q=>let ⟨b',_,_,e1,e2,_⟩:=F.hdA _ q;by cases e1;exact C6 e2
  keep:=λ b o hb z e=>(hs.2 b λ q=>hb (by rw[q];exact A9)).trans e
  lo:=λ b hb=>by rw[B2] at hb;subst hb;exact ha
  nof:=λ b hb o e=>by
   rw[B2] at hb;subst hb;rw[h1] at e;cases e;refine⟨.inl λ vs q=>(by cases q),λ v q=>(by cases q),λ q=>?_,λ z=>hma⟩
   subst q;rw[hL] at h1;cases h1;cases hLd
  size:=by show s.heap.objs.size<=h'.objs.size;rw[hs.1];exact D2 _
  gens:=λ i x z e=>e
  bare:=λ i x e=> .inl e
  os:=rfl
  glo:=λ i hi=>nomatch hi
  hdn:=λ b hb q=>by
   rw[B2] at hb;subst hb;obtain⟨b',o,vs,e1,e2,e3,_⟩:=F.hdA _ q
   cases e1;rw[h1] at e2;cases e2;cases e3}
 have rp: ∀b o,Sq o->hid (hk c H true) s.heap b=some o->hid (hk c H true) h' b=some o:=by
  intro b o hq e;rw[hid_some] at e ⊢;refine⟨e.1,(hs.2 b λ q=>?_).trans e.2⟩;subst q;exact e.1 (D4 _ hma)
 refine F.step m he (λ b es hb=>?_) (λ b o hb=> .inl ⟨λ hw=>?_,hb,.inl (C6 (F.fix b o hb).1)⟩) λ p hp=> .inl ⟨λ h=>(nomatch h),hp⟩
 ·rcases zrk hb with h|h
  ·by_cases q:b=a
   ·subst q
    obtain⟨i,hi⟩:=K4.mp hb;have e1:((H.own.set j (b,ds')).map (·.1))[i]? =some b:=by rw[B7,hi];rfl
    rw[he] at e1;have e2:(H.own.map (·.1))[j]? =some b:=by rw[B7,hj];rfl
    have:j=i:=(zk4 (by rw[B5];exact hjl) F.ond).mp (e2.trans e1.symm)
    subst this;rw[zdj hjl] at hi;cases hi;exact .inr ⟨_,vs',ho,zho _ _,za4 rp _ _ r⟩
   ·exact .inl ⟨λ h'=>q (B2.mp h'),h⟩
  ·cases h
   exact .inr ⟨_,vs',ho,zho _ _,za4 rp _ _ r⟩
 ·rw[B2] at hw;subst hw
  exact(F.fix b o hb).2.2.2.2 hma
end
section
variable{G:Gt}{w:E3}{c:Cx}{H:Hm}{V:List (Option D)}{s s':A8}
theorem As.len {f:Bool}{es:List Expr}{ds:List D}{pos:Pos}(h:As G w c H V f es ds)(F:FrS G c H V s){Q:List Value->A8->Prop}{E:Value->A8->Prop}
 (k: ∀vs s',Go s s'->vs.length=ds.length->RpL (hid (hk c H f) s'.heap) ds vs->Q vs s'):D0 (D1 pw w) c.A (zcn (zb6 pos (J7 es c.env))) Q E s:=
 h.h pos s F _ _ λ vs s' g r=>k vs s' g r.length r
theorem Ev.tuple {f:Bool}{es:List Expr}{ds:List D}{n:Nat}{ps:Pos}(h:As G w c H V f es ds)(hz':ds.length<=1000:=by exact zxp rfl):Ev G w c H V f (.Tuple es n ps) (.tup ds):=by
 have hz:ds.length<=H5:=A7 hz' (by decide)
 refine .mk' λ s F Q E k=>?_
 with_reducible refine zt8 (h.len F λ vs s1 g1 hl r1=>⟨by omega,?_⟩)
 have F1:=F.onto g1;refine k _ _ (g1.trans (Z0 s1 _)) (Rp.tup' (n:=0) ?_ (r1.go (Z0 s1 _) F1.tb));exact zli (F1.okS f).kl rfl
structure Nl (G:Gt)(w:E3)(c:Cx)(H:Hm)(V:List (Option D))(f:Bool)(e:Expr)(ds:List D):Prop where
 h: ∀s,FrS G c H V s-> ∀(Q E:Value->A8->Prop),
  (∀a s' vs n,Go s s'->s.heap.objs.size<=a->s'.heap.get? a=some (M8 vs n)->RpL (hid (a::hk c H f) s'.heap) ds vs->Q (.ref a) s')->D0 (D1 pw w) c.A (M3 e c.env) Q E s
theorem Nl.ev {f:Bool}{e:Expr}{ds:List D}(h:Nl G w c H V f e ds):Ev G w c H V f e (.lst ds):=by
 refine .mk' λ s F Q E k=>h.h s F _ _ λ a s' vs n g ha e r=>k _ s' g (Rp.lst' (n:=n) ?_ (r.sub λ b hb=>B1 _ hb));rw[hid_some];exact⟨λ hm=>absurd ((F.okS f).kl a hm) (D7.mpr ha),e⟩
theorem zjl {K:List Addr}{h h':P9}{a:Addr}(ha:h.objs.size<=a)(hk: ∀b o,h.get? b=some o->h'.get? b=some o): ∀b o,Sq o->hid K h b=some o->hid (a::K) h' b=some o:=by
 intro b o _ e;rw[hid_some] at e ⊢;refine⟨λ hm=>?_,hk _ _ e.2⟩;rcases B9.mp hm with q|q
 ·subst q;exact absurd (C6 e.2) (D7.mpr ha)
 ·exact e.1 q
theorem Nl.list {f:Bool}{es:List Expr}{ds:List D}{ps:Pos}(h:As G w c H V f es ds)(hz':ds.length<=1000:=by exact zxp rfl):Nl G w c H V f (.List es ps) ds:=by
 have hz:ds.length<=H5:=A7 hz' (by decide)
 refine⟨λ s F Q E k=>?_⟩
 with_reducible refine wpAny_List (h.len F λ vs s1 g1 hl r1=>⟨by omega,?_⟩)
 refine k s1.heap.objs.size _ vs 0 (g1.trans (Z0 s1 _)) g1.size (D8 _ rfl) ?_;exact za4 (zjl (D2 _) λ b o e=>C3 _ e) _ _ r1
structure Bn (G:Gt)(w:E3)(op:zhw)(d1 d2:D)(ds:List D):Prop where
 h: ∀A K s v1 v2,Ok G A K s->Rp (hid K s.heap) d1 v1->Rp (hid K s.heap) d2 v2-> ∀(Q E:Value->A8->Prop),
  (∀a s' vs n,Go s s'->s.heap.objs.size<=a->s'.heap.get? a=some (M8 vs n)->RpL (hid (a::K) s'.heap) ds vs->Q (.ref a) s')->D0 (D1 pw w) A (binaryOp op v1 v2) Q E s
theorem Nl.bin {f:Bool}{op:zhw}{l r:Expr}{p:Pos}{d1 d2:D}{ds:List D}(h1:Ev G w c H V f l d1)(h2:Ev G w c H V f r d2)(h:Bn G w op d1 d2 ds):Nl G w c H V f (.BinOp l op r p) ds:=by
 refine⟨λ s F Q E k=>?_⟩
 with_reducible refine zpj (h1.r F λ v1 s1 g1 r1=>h2.r (F.onto g1) λ v2 s2 g2 r2=>?_)
 exact h.h _ _ s2 v1 v2 (((F.onto g1).onto g2).okS f) (r1.go g2 (F.onto g1).tb) r2 _ _ λ a s' vs n g ha e r=>k a s' vs n ((g1.trans g2).trans g) (A7 (g1.trans g2).size ha) e r
theorem Bn.add {l r:List D}(hz:l.length+r.length<=H5):Bn G w .Add (.lst l) (.lst r) (l++r):=by
 refine⟨λ A K s v1 v2 ok r1 r2 Q E k=>?_⟩;obtain⟨a,o,vs,rfl,ho,⟨n,rfl⟩,hl⟩:=r1.lst_inv;obtain⟨b,o',us,rfl,ho',⟨m,rfl⟩,hr⟩:=r2.lst_inv;rw[hid_some] at ho ho';have e1:=hl.length;have e2:=hr.length;refine zrc (T:= "list") ⟨_,ho.2,rfl⟩ ⟨_,ho'.2,rfl⟩ noFill_list_add seq_list_add PySem.F.slot_list_add PySem.F.entry_list_add (PySem.F.args_list_add_2 _ _)
  (list_addW a b vs.toArray us.toArray n m none none #[] #[] (by simp only[I1];omega)) ⟨ho.2,ho'.2,?_⟩
 refine k s.heap.objs.size _ (vs++us) 0 (Z0 s _) (D2 _) ?_ ?_
 ·rw[show vs.toArray++us.toArray=(vs++us).toArray by simp];exact D8 _ rfl
 ·exact za4 (zjl (D2 _) λ b o e=>C3 _ e) _ _ (hl.append hr)
theorem RpL.foldl_rep {g:Addr->Option Obj}{ds:List D}{vs:List Value}(h:RpL g ds vs): ∀(n:Nat),RpL g (C1 n ds).flatten (C1 n vs).flatten
 |0=>Z8
 |n+1=>by rw[Q1,Q1,zgx,zgx];exact h.append (RpL.foldl_rep h n)
theorem zk1: ∀(n:Nat) (vs acc:List Value),List.foldl (λ x1 x2=>x1++x2) acc.toArray (C1 n vs.toArray)=(acc++(C1 n vs).flatten).toArray
 |0,vs,acc=>by simp
 |n+1,vs,acc=>by
  rw[Q1,zpr,Q1,zgx,<-J3,<-zk1 n vs (acc++vs)];simp
theorem Bn.mul {l:List D}{x:Int}(hlo: -(2^63:Int)<=x)(hhi:x<2^63)(hsz:l.length*x.toNat<=2^24):Bn G w .Mult (.lst l) (.int x) (C1 x.toNat l).flatten:=by
 refine⟨λ A K s v1 v2 ok r1 r2 Q E k=>?_⟩;obtain⟨a,o,vs,rfl,ho,⟨n,rfl⟩,hl⟩:=r1.lst_inv;obtain⟨u,rfl⟩:=r2.int_inv;rw[hid_some] at ho;have e1:=hl.length;refine wpAny_binaryOp_repeat_ref (T:= "list") (U:= "int") (by decide) ⟨_,ho.2,rfl⟩ (λ s'=>typeIs_int s' x u) noFill_list_mul F.fills_int_mul F.slot_int_rmul repeat_list F.slot_int_index.lookup
  (zel F.slot_int_rmul (typeIs_int s x u) F.entry_int_rmul (F.args_int_rmul_2 _ _) (int___rmul___int_list x u a vs.toArray n)
    ⟨ho.2,rfl,⟨_,ho.2,rfl⟩,zel F.slot_list_mul ⟨_,ho.2,rfl⟩ F.entry_list_mul (F.args_list_mul_2 _ _)
     (AutoListH.list___mul___list_int_3 a vs.toArray n x u (by simp[zlg];omega) (by simp only[I1];rw[e1];omega) (by simp[zmr,H5,e1];omega)) ⟨ho.2,?_⟩⟩)
 refine k s.heap.objs.size _ (C1 x.toNat vs).flatten 0 (Z0 s _) (D2 _) ?_ ?_
 ·have e:List.foldl (λ x1 x2=>x1++x2) #[] (C1 (if vs.toArray.isEmpty=true then 0 else x.toNat) vs.toArray)=(C1 x.toNat vs).flatten.toArray:=by
   cases vs with
   |nil=>simp
   |cons y r=>rw[if_neg (by simp)];exact zk1 _ _ []
  rw[e];exact D8 _ rfl
 ·exact za4 (zjl (D2 _) λ b o e=>C3 _ e) _ _ (hl.foldl_rep _)
structure Gi (G:Gt)(w:E3)(d1 d2 d:D):Prop where
 h: ∀A K s v1 v2,Ok G A K s->Rp (hid K s.heap) d1 v1->Rp (hid K s.heap) d2 v2->(∃T id,Z3 (.type T) "__getitem__"=pure (some (.builtin id))/\s.TypeIs v1 T)/\Gv w A K s (getItem v1 v2) d
theorem Ev.sub {f:Bool}{value slice:Expr}{ps:Pos}{d1 d2 d:D}(h1:Ev G w c H V f value d1)(h2:Ev G w c H V f slice d2)(h:Gi G w d1 d2 d)
 (hs: ∀o i,∃l,subscripted slice false o i=operate l (getItem o i):=by intro _ _;exact⟨_,rfl⟩):Ev G w c H V f (.Subscript value slice ps) d:=by
 refine .mk' λ s F Q E k=>?_;rw[zmx]
 with_reducible refine B0 (h1.r F λ v1 s1 g1 r1=>B0 (J8 (h2.r (F.onto g1) λ v2 s2 g2 r2=>B0 (K7 ?_))))
 obtain⟨⟨T,id,hl,hT⟩,hg⟩:=h.h _ _ s2 v1 v2 (((F.onto g1).onto g2).okS f) (r1.go g2 (F.onto g1).tb) r2;refine B0 ?_;rw[ze3 hT.not_modules];refine B0 (Y0 hT hl ?_);refine C4 (B0 ?_);obtain⟨l,e⟩:=hs v1 v2;rw[e];refine zk9 (hg.h _ _ λ v s' g r=>?_)
 with_reducible refine B0 (zft (C4 ?_))
 exact k v s' ((g1.trans g2).trans g) r
theorem IsTup.of {h:P9}{a:Addr}{vs:List Value}{n:Nat}(e:h.get? a=some (R4 vs n)):IsTup h a vs.toArray:=⟨_,e,rfl,n,rfl⟩
theorem Gi.lst {l:List D}{i:Int}{d:D}(h0:0<=i)(h:l[i.toNat]? =some d)(hz:l.length<=2^62):Gi G w (.lst l) (.int i) d:=by
 refine⟨λ A K s v1 v2 ok r1 r2=>?_⟩;obtain⟨a,o,vs,rfl,ho,hL,hl⟩:=r1.lst_inv;obtain⟨t,rfl⟩:=r2.int_inv;rw[hid_some] at ho;have hI:=hL.isList ho.2;obtain⟨x,hx,rx⟩:=hl.get h;have hn:=(C7.mp h).1;refine⟨⟨"list",_,zpa.lookup,hI.typeIs⟩,⟨λ Q E k=>?_⟩⟩;exact wpAny_getItem_list hI h0 (by omega) (by simpa using hx) (k x s (M4 s) rx)
theorem Gi.lstNeg {l:List D}{i:Int}{d:D}(h0:i<0)(h1: -(l.length:Int)<=i)(h:l[(i+l.length).toNat]? =some d)(hz:l.length<=2^62):Gi G w (.lst l) (.int i) d:=by
 refine⟨λ A K s v1 v2 ok r1 r2=>?_⟩;obtain⟨a,o,vs,rfl,ho,hL,hl⟩:=r1.lst_inv;obtain⟨t,rfl⟩:=r2.int_inv;rw[hid_some] at ho;have hI:=hL.isList ho.2;obtain⟨x,hx,rx⟩:=hl.get h;have e:=hl.length;refine⟨⟨"list",_,zpa.lookup,hI.typeIs⟩,⟨λ Q E k=>?_⟩⟩;exact wpAny_getItem_list_neg hI h0 (by simp only[I1];rw[e];exact h1) (by omega) (by simp only[I1,e];simpa using hx) (k x s (M4 s) rx)
theorem Gi.tup {l:List D}{i:Int}{d:D}(h0:0<=i)(h:l[i.toNat]? =some d)(hz:l.length<=2^62):Gi G w (.tup l) (.int i) d:=by
 refine⟨λ A K s v1 v2 ok r1 r2=>?_⟩;obtain⟨a,n,vs,rfl,ho,hl⟩:=r1.tup_inv;obtain⟨t,rfl⟩:=r2.int_inv;rw[hid_some] at ho;have hI:=IsTup.of ho.2;obtain⟨x,hx,rx⟩:=hl.get h;have e:=hl.length;have hn:=(C7.mp h).1;refine⟨⟨"tuple",_,PySem.F.slot_tuple_getitem.lookup,hI.typeIs⟩,⟨λ Q E k=>?_⟩⟩;exact getItem_tuple hI (by omega) (by omega) (j:=i.toNat) (seqIndex_of h0 (by simp only[I1];omega)) (by simpa using hx) (k x s (M4 s) rx)
end
open Internal.Ev renaming sub->O1,tuple->Z1
open Internal.Gi renaming lst->T6
open Internal.Nl renaming list->X1
structure Mv (wr:List Addr)(gw:List Nat)(lim:Nat)(s s':A8):Prop where
 keep: ∀b o,b∉wr->(b<lim\/ ¬Loose o)->s.heap.get? b=some o->s'.heap.get? b=some o
 size:s.heap.objs.size<=s'.heap.objs.size
 gens: ∀(i:Nat) x,i∉gw->s.gens[i]? =some x->s'.gens[i]? =some x
 bare: ∀(i:Nat) x,s'.gens[i]? =some x->s.gens[i]? =some x\/x.bare=true
 os:s'.os=s.os
theorem Mv.le {wr:List Addr}{gw:List Nat}{l l':Nat}{s s':A8}(m:Mv wr gw l s s')(h:l'<=l):Mv wr gw l' s s':=
 ⟨λ b o hb hl e=>m.keep b o hb (hl.imp (λ x=>C9 x h) id) e,m.size,m.gens,m.bare,m.os⟩
noncomputable abbrev Obs:=List (Addr×Obj)
noncomputable abbrev zst:=List (Nat×zb7)
noncomputable def Ft (ob:Obs)(s s':A8)(d:D)(v:Value):Prop:=
 ∃fo:Obs,(∀p∈fo,(p∈ob\/s.heap.objs.size<=p.1)/\s'.heap.get? p.1=some p.2)/\ ∀g':Addr->Option Obj,(∀p∈fo,g' p.1=some p.2)->Rp g' d v
theorem Ft.rp {ob:Obs}{s s':A8}{d:D}{v:Value}(x:Ft ob s s' d v){K:List Addr}(h: ∀p∈ob,p.1∉K)(hk: ∀a∈K,a<s.heap.objs.size):Rp (hid K s'.heap) d v:=by
 obtain⟨fo,h1,h2⟩:=x;refine h2 _ λ p hp=>?_;obtain⟨q,e⟩:=h1 p hp;rw[hid_some];refine⟨λ hK=>?_,e⟩;rcases q with q|q
 ·exact h p q hK
 ·exact absurd (hk _ hK) (D7.mpr q)
structure ItrG (G:Gt)(w:E3)(A:H2)(K:List Addr)(t:Expr)(it:Value)(items:List D)(b gb:Nat)(wr:Obs->List Addr)(gw:List Nat)(St:Nat->Obs->zst->Prop):Prop where
 lo: ∀k ob gs,St k ob gs-> ∀a∈wr ob,b<=a
 glo: ∀i∈gw,gb<=i
 ob: ∀k ob gs,St k ob gs-> ∀p∈ob,NoF p.2/\(∀v,p.2.data≠ .cell v)/\(p.1∈wr ob-> ¬Sq p.2)/\p.1∉K/\(b<=p.1\/ ∀es ep,p.2.data≠ .dict es ep)
 gs: ∀k ob gs,St k ob gs-> ∀p∈gs,gb<=p.1
 wrin: ∀k ob gs,St k ob gs-> ∀a∈wr ob,a∈ob.map (·.1)
 gwin: ∀k ob gs,St k ob gs-> ∀i∈gw,i∈gs.map (·.1)
 nxt: ∀k d ob gs s,items[k]? =some d->St k ob gs->(∃K',Ok G A K' s)->(∀p∈ob,s.heap.get? p.1=some p.2)->(∀p∈gs,s.gens[p.1]? =some p.2)-> ∀(Q E:Value->A8->Prop),
  (∀v s' ob' gs',Mv (wr ob) gw b s s'->St (k+1) ob' gs'->(∀p∈ob',s'.heap.get? p.1=some p.2)->(∀p∈gs',s'.gens[p.1]? =some p.2)->Ft ob' s s' d v->Q v s')->
  D0 (D1 pw w) A (zbh it) (λ r s1=> ∃v,r=some v/\D0 (D1 pw w) A (U3 t it v) (λ z s'=>Q v s') E s1) E s
 fin: ∀ob gs s,St items.length ob gs->(∃K',Ok G A K' s)->(∀p∈ob,s.heap.get? p.1=some p.2)->(∀p∈gs,s.gens[p.1]? =some p.2)-> ∀(Q:Option Value->A8->Prop) (E:Value->A8->Prop),
  (∀s',Mv (wr ob) gw b s s'->Q none s')->D0 (D1 pw w) A (zbh it) Q E s
structure Itr (G:Gt)(w:E3)(A:H2)(K:List Addr)(t:Expr)(it:Value)(items:List D)(b gb:Nat)(wr:List Addr)(gw:List Nat)(St:Nat->Obs->zst->Prop):Prop extends ItrG G w A K t it items b gb (λ z=>wr) gw St where
 lo0: ∀a∈wr,b<=a
 adr: ∀k k' ob ob' gs gs',St k ob gs->St k' ob' gs'->ob.map (·.1)=ob'.map (·.1)
 slf: ∀k ob gs s,St k ob gs->(∀p∈ob,s.heap.get? p.1=some p.2)->(∀p∈gs,s.gens[p.1]? =some p.2)-> ∀(Q E:Value->A8->Prop),Q it s->D0 (D1 pw w) A (zj8 it) Q E s
theorem ItrG.le {G:Gt}{w:E3}{A:H2}{K:List Addr}{t:Expr}{it:Value}{items:List D}{b gb b' gb':Nat}{wr:Obs->List Addr}{gw:List Nat}{St:Nat->Obs->zst->Prop}
 (I:ItrG G w A K t it items b gb wr gw St)(hb:b'<=b)(hg:gb'<=gb):ItrG G w A K t it items b' gb' wr gw St where
 lo:=λ k ob gs st a h=>A7 hb (I.lo k ob gs st a h)
 glo:=λ a h=>A7 hg (I.glo a h)
 ob:=λ k ob gs st p hp=>have h:=I.ob k ob gs st p hp;⟨h.1,h.2.1,h.2.2.1,h.2.2.2.1,h.2.2.2.2.imp (A7 hb) id⟩
 gs:=λ k ob gs st p hp=>A7 hg (I.gs k ob gs st p hp)
 wrin:=I.wrin
 gwin:=I.gwin
 nxt:=λ k d ob gs s hd st ok ho hg Q E kk=>I.nxt k d ob gs s hd st ok ho hg Q E λ v s' ob' gs' m=>kk v s' ob' gs' (m.le hb)
 fin:=λ ob gs s st ok ho hg Q E kk=>I.fin ob gs s st ok ho hg Q E λ s' m=>kk s' (m.le hb)
theorem Itr.le {G:Gt}{w:E3}{A:H2}{K:List Addr}{t:Expr}{it:Value}{items:List D}{b gb b' gb':Nat}{wr:List Addr}{gw:List Nat}{St:Nat->Obs->zst->Prop}
 (I:Itr G w A K t it items b gb wr gw St)(hb:b'<=b)(hg:gb'<=gb):Itr G w A K t it items b' gb' wr gw St where
 toItrG:=I.toItrG.le hb hg
 lo0:=λ a h=>A7 hb (I.lo0 a h)
 adr:=I.adr
 slf:=I.slf
structure Ib (G:Gt)(w:E3)(t:Expr)(d:D)(items:List D):Prop where
 h: ∀A K s v,A.handled=none->Ok G A K s->Rp (hid K s.heap) d v-> ∀(Q E:Value->A8->Prop),
  (∀it s' wr gw St ob gs,Go s s'->Itr G w A K t it items s.heap.objs.size s.gens.size wr gw St->St 0 ob gs->(∀p∈ob,s'.heap.get? p.1=some p.2)->(∀p∈gs,s'.gens[p.1]? =some p.2)->Q it s')->
  D0 (D1 pw w) A (zj8 v) Q E s
section
variable{G:Gt}{w:E3}{c:Cx}{H:Hm}{V:List (Option D)}{s s':A8}
theorem Go.gle (g:Go s s'):s.gens.size<=s'.gens.size:=by
 rcases O3 s'.gens.size s.gens.size with q|q
 ·have:=g.gens s'.gens.size _ (W1 q)
  exact absurd (J4.mp this).1 (H8 _)
 ·exact q
theorem GoW.gle {W:List Addr}(g:GoW W s s'):s.gens.size<=s'.gens.size:=by
 rcases O3 s'.gens.size s.gens.size with q|q
 ·have:=g.gens s'.gens.size _ (W1 q)
  exact absurd (J4.mp this).1 (H8 _)
 ·exact q
structure Iv (G:Gt)(w:E3)(c:Cx)(H:Hm)(V:List (Option D))(t iter:Expr)(items:List D):Prop where
 h: ∀s,FrS G c H V s-> ∀(Q E:Value->A8->Prop),
  (∀it s' wr gw St ob gs,Go s s'->Itr G w c.A (hk c H true) t it items s.heap.objs.size s.gens.size wr gw St->St 0 ob gs->(∀p∈ob,s'.heap.get? p.1=some p.2)->(∀p∈gs,s'.gens[p.1]? =some p.2)->Q it s')->
  D0 (D1 pw w) c.A (M3 iter c.env) (λ x s1=>D0 (D1 pw w) c.A (zj8 x) Q E s1) E s
structure IvG (G:Gt)(w:E3)(c:Cx)(H:Hm)(V:List (Option D))(t iter:Expr)(items:List D):Prop where
 h: ∀s,FrS G c H V s-> ∀(Q E:Value->A8->Prop),
  (∀it s' wr gw St ob gs,Go s s'->ItrG G w c.A (hk c H true) t it items s.heap.objs.size s.gens.size wr gw St->St 0 ob gs->(∀p∈ob,s'.heap.get? p.1=some p.2)->(∀p∈gs,s'.gens[p.1]? =some p.2)->Q it s')->
  D0 (D1 pw w) c.A (M3 iter c.env) (λ x s1=>D0 (D1 pw w) c.A (zj8 x) Q E s1) E s
theorem Iv.g {t iter:Expr}{items:List D}(h:Iv G w c H V t iter items):IvG G w c H V t iter items:=
 ⟨λ s F Q E k=>h.h s F Q E λ it s' wr gw St ob gs g I st ho hg=>k it s' _ gw St ob gs g I.toItrG st ho hg⟩
theorem Iv.of {t iter:Expr}{d:D}{items:List D}(hh:c.A.handled=none)(hi:Ev G w c H V true iter d)(ib:Ib G w t d items):Iv G w c H V t iter items:=by
 refine⟨λ s F Q E k=>hi.r F λ v s1 g1 r1=>?_⟩;refine ib.h c.A _ s1 v hh ((F.onto g1).okS true) r1 Q E λ it s' wr gw St ob gs g2 I st ho hg=>?_;exact k it s' wr gw St ob gs (g1.trans g2) (I.le g1.size g1.gle) st ho hg
noncomputable abbrev Hm.with (H:Hm)(ob:Obs)(gs:zst):Hm:=⟨H.own,ob++H.fix,gs++H.gen⟩
noncomputable abbrev Hm.owns (H:Hm)(ow:List (Addr×List D)):Hm:=⟨ow,H.fix,H.gen⟩
theorem FrS.gle (F:FrS G c H V s):c.b.gens.size<=s.gens.size:=F.go.gle
theorem FrS.enter {K:List Addr}{t:Expr}{it:Value}{items:List D}{s₀:A8}{wr:Obs->List Addr}{gw:List Nat}{St:Nat->Obs->zst->Prop}{ob:Obs}{gs:zst}{k:Nat}{H₀:Hm}{V₀:List (Option D)}
 (F₀:FrS G c H₀ V₀ s₀)(F:FrS G c H V s)(hK: ∀a∈H.own.map (·.1),a∈K)(I:ItrG G w c.A K t it items s₀.heap.objs.size s₀.gens.size wr gw St)(st:St k ob gs)(ho: ∀p∈ob,s.heap.get? p.1=some p.2)(hg: ∀p∈gs,s.gens[p.1]? =some p.2):
 FrS G c (H.with ob gs) V s where
 ok:=F.ok
 go:=F.go
 ns:=F.ns
 vars:=F.vars
 own:=F.own
 olo:=F.olo
 ond:=F.ond
 fix:=λ a o h=>by
  rcases G1.mp h with h|h
  ·obtain⟨h1,h2,h3,h4,h5⟩:=I.ob k ob gs st _ h
   refine⟨ho _ h,F.tb.off (ho _ h) h1,h2,λ q=>?_,λ q=>h4 (hK _ q)⟩;obtain⟨mm,oL,es,ep,hL,hLd,_⟩:=F₀.ns;rcases h5 with h5|h5
   ·have:=C6 hL
    rw[<-q] at this;exact absurd this (D7.mpr h5)
   ·obtain⟨mm,oL,es,ep,hL,hLd,_⟩:=F.ns
    have:=ho _ h;rw[show(a,o).1=c.env.locals from q,hL] at this
    cases this;exact h5 es ep hLd
  ·exact F.fix a o h
 gen:=λ p h=>by
  rcases G1.mp h with h|h
  ·exact⟨hg p h,A7 F₀.gle (I.gs k ob gs st p h)⟩
  ·exact F.gen p h
 cells:=F.cells
 hdA:=F.hdA
 dk:=F.dk
theorem FrS.moved {t:Expr}{it:Value}{items:List D}{s₀:A8}{wr:Obs->List Addr}{gw:List Nat}{St:Nat->Obs->zst->Prop}{ob:Obs}{gs:zst}{k:Nat}
 (F₀:FrS G c H V s₀){V':List (Option D)}{ow:List (Addr×List D)}(he:ow.map (·.1)=H.own.map (·.1))(F:FrS G c ((H.owns ow).with ob gs) V' s)(I:ItrG G w c.A (hk c H true) t it items s₀.heap.objs.size s₀.gens.size wr gw St)(st:St k ob gs)(m:Mv (wr ob) gw s₀.heap.objs.size s s'):
 FrS G c (H.owns ow) V' s':=by
 have hlo: ∀a∈wr ob,OkW c a:=λ a ha=> .inl (A7 F₀.go.size (I.lo k ob gs st a ha));have hgl:c.b.gens.size<=s₀.gens.size:=F₀.gle;have m1:St1 c ((H.owns ow).with ob gs) (wr ob) gw s₀.heap.objs.size s s':={
  llo:=F₀.go.size
  hdl:=λ b q=>let ⟨b',_,_,e1,e2,_⟩:=F₀.hdA _ q;by cases e1;exact C6 e2
  keep:=m.keep
  lo:=hlo
  nof:=λ a ha o e=>by
   obtain⟨p,hp,rfl⟩:=C5.mp (I.wrin k ob gs st a ha);obtain⟨f1,f2,f3,f4,f5⟩:=F.fix p.1 p.2 (D3 _ hp);rw[f1] at e;cases e;exact⟨(I.ob k ob gs st p hp).1,f3,f4,λ q=>absurd q ((I.ob k ob gs st p hp).2.2.1 ha)⟩
  size:=m.size
  gens:=m.gens
  bare:=m.bare
  os:=m.os
  glo:=λ i hi=>A7 hgl (I.glo i hi)
  hdn:=λ a ha q=>by
   obtain⟨b',o,vs,e1,e2,_⟩:=F₀.hdA _ q;cases e1;exact absurd (C6 e2) (D7.mpr (I.lo k ob gs st a ha))}
 refine F.step m1 rfl (λ a ds h=>?_) (λ a o h=>?_) λ p h=>?_
 ·refine .inl ⟨λ ha=>?_,h⟩
  have:a∈ow.map (·.1):=I4 (f:=(·.1)) h;rw[he] at this;obtain⟨⟨a',ds'⟩,hp,e⟩:=C5.mp this;obtain⟨o,vs,h1,_⟩:=F₀.own a' ds' hp;have:a<s₀.heap.objs.size:=by rw[<-show a'=a from e];exact C6 h1
  exact absurd this (D7.mpr (I.lo k ob gs st a ha))
 ·refine .inl ⟨λ ha=>?_,D4 _ h,.inl (C6 (F₀.fix a o h).1)⟩
  exact absurd (C6 (F₀.fix a o h).1) (D7.mpr (I.lo k ob gs st a ha))
 ·refine .inl ⟨λ ha=>?_,D4 _ h⟩
  exact absurd (J4.mp (F₀.gen p h).1).1 (D7.mpr (I.glo _ ha))
structure Tg (G:Gt)(w:E3)(c:Cx)(H:Hm)(V:List (Option D))(t:Expr)(d:D)(V':List (Option D)):Prop where
 h: ∀s v,FrS G c H V s->Rp (hid (hk c H true) s.heap) d v-> ∀(Q:Unit->A8->Prop) (E:Value->A8->Prop),(∀s',FrS G c H V' s'->Up s s'->Q () s')->D0 (D1 pw w) c.A (zuw t c.env v) Q E s
theorem Tg.name {x:Str}{p:Pos}{d:D}(i:Nat)(hi:i<c.ns)(hx:c.nm[i]? =some x):Tg G w c H V (.Name x p) d (V.set i (some d)):=by
 refine⟨λ s v F r Q E k=>?_⟩
 with_reducible refine zig ?_
 exact F.store i hi hx r λ s' F' u=>k s' F' u
theorem zcy {M:ze7}{A:H2}{E:Value->A8->Prop}{Q:Unit->A8->Prop}{t1 t2:Value->Sem Unit}{v1 v2:Value}(h:D0 M A (t1 v1) (λ z s1=>D0 M A (t2 v2) Q E s1) E s):D0 M A (zcd [t1,t2] [v1,v2]) Q E s:=by
 refine B0 (J8 (E7 h (λ z s1 h1=>?_) λ z z e=>e));exact B0 (J8 (E7 h1 (λ z s2 h2=>C4 h2) λ z z e=>e))
theorem zh6 {M:ze7}{A:H2}{E:Value->A8->Prop}{Q:Unit->A8->Prop}{t1 t2 t3:Value->Sem Unit}{v1 v2 v3:Value}(h:D0 M A (t1 v1) (λ z s1=>D0 M A (t2 v2) (λ z s2=>D0 M A (t3 v3) Q E s2) E s1) E s):D0 M A (zcd [t1,t2,t3] [v1,v2,v3]) Q E s:=by
 refine B0 (J8 (E7 h (λ z s1 h1=>?_) λ z z e=>e));exact zcy h1
theorem zi9 {A:H2}{E:Value->A8->Prop}{Q:List Value->A8->Prop}{a:Addr}{vs:List Value}{m n:Nat}(hd:HdA A s.heap)(ho:s.heap.get? a=some (R4 vs m))(hn:vs.length=n)
 (k: ∀s',Go s s'->Q vs s'):D0 (D1 pw w) A (zyo (.ref a) n none) Q E s:=by
 have hT:s.heap.IsTuple a vs.toArray:=⟨_,ho,rfl,m,rfl⟩;subst hn;refine Q4 ?_;refine zvg hd hT λ h' hx' hz=>?_;exact k _ (Go.of (λ b o e=>hx' b o (za0 (C6 e)) e) hz rfl rfl)
theorem Tg.tup2 {x y:Str}{n:Nat}{p q ps:Pos}{d e:D}{nb:Bool}(hh:nb=true->c.A.handled=none)(i j:Nat)(hi:i<c.ns)(hx:c.nm[i]? =some x)(hj:j<c.ns)(hy:c.nm[j]? =some y):
 Tg G w c H V (.Tuple [.Name x p,.Name y q] n ps) (.tup [d,e]) ((V.set i (some d)).set j (some e)):=by
 refine⟨λ s v F r Q E k=>?_⟩;obtain⟨a,m,vs,rfl,ho,hl⟩:=r.tup_inv;rw[hid_some] at ho;obtain⟨v1,v2,rfl,r1,r2⟩:=zkp hl;have ha:(assignEach [zi7 x p,zi7 y q] c.env)=[(false,zuw (.Name x p) c.env),(false,zuw (.Name y q) c.env)]:=rfl;rw[arm_assign_Tuple,ha];refine B0 (K7 ?_);unfold unpack;refine B0 (J8 (zi9 F.hdA ho.2 rfl λ s' g=>?_));show D0 (D1 pw w) c.A (zcd [zuw (.Name x p) c.env,zuw (.Name y q) c.env] [v1,v2]) Q E s';have u0:Up s s':=λ K b o hq e=>zlj (λ z h=>h) g F.tb b o hq e;refine zcy ((Tg.name (d:=d) i hi hx).h _ v1 (F.onto g) (r1.go g F.tb) _ _ λ s1 F1 u1=>?_);refine(Tg.name (d:=e) j hj hy).h _ v2 F1 (u1.rp (r2.go g F.tb)) _ _ λ s2 F2 u2=>k s2 F2 λ K b o hq e=>u2 K b o hq (u1 K b o hq (u0 K b o hq e))
end
open Internal.Tg renaming name->zen,tup2->zgp
open Internal.Iv renaming of->zgr
open Internal.FrS renaming enter->zlt
section
variable{G:Gt}{w:E3}{c:Cx}{H:Hm}{V:List (Option D)}{s s':A8}
variable{P:Flow->A8->Prop}{E:Value->A8->Prop}{rest:List Stmt}
theorem Wx.mono {body:List Stmt}{P':Flow->A8->Prop}{E':Value->A8->Prop}(h:Wx G w c H V body P E)(k: ∀f s,P f s->P' f s)(e: ∀v s,E v s->E' v s):Wx G w c H V body P' E':=
 ⟨λ s F=>E7 (h.h s F) k e⟩
theorem FrS.newown {a:Addr}{ds:List D}{vs:List Value}{n:Nat}(F:FrS G c H V s)(g:Go s s')(ha:s.heap.objs.size<=a)(eA:s'.heap.get? a=some (M8 vs n))
 (r:RpL (hid (a::hk c H true) s'.heap) ds vs):FrS G c (H.owns ((a,ds)::H.own)) V s':=by
 have F':=F.onto g;have hkk: ∀b,b∈hk c (H.owns ((a,ds)::H.own)) true->b∈a::hk c H true:=by
  intro b hb;rcases G1.mp hb with h|h
  ·exact B1 _ (D3 _ h)
  ·rcases B9.mp h with h|h
   ·rw[h];exact A9
   ·exact B1 _ (D4 _ h)
 have rp: ∀b o,Sq o->hid (hk c H true) s.heap b=some o->hid (hk c (H.owns ((a,ds)::H.own)) true) s'.heap b=some o:=by
  intro b o hq e;have e1:=zlj (λ z h=>h) g F.tb b o hq e;rw[hid_some] at e e1 ⊢;refine⟨λ hb=>?_,e1.2⟩;rcases B9.mp (hkk b hb) with q|q
  ·subst q;exact absurd (C6 e.2) (D7.mpr ha)
  ·exact e.1 q
 refine{ok:=F.ok,go:=F'.go,ns:=F'.ns,vars:=λ i x d h1 h2=>?_,own:=λ b es h=>?_,olo:=λ p h=>?_,ond:=?_,fix:=λ b o h=>?_,gen:=F'.gen,cells:=F'.cells,hdA:=F'.hdA,dk:=F'.dk}
 ·obtain⟨v,h3,h4⟩:=F.vars i x d h1 h2
  exact⟨v,h3.go g F.tb,zeo rp _ _ h4⟩
 ·rcases B9.mp h with h|h
  ·cases h
   exact⟨_,vs,eA,zho _ _,r.sub hkk⟩
  ·obtain⟨o,us,h1,h2,h3⟩:=F.own b es h
   obtain⟨o',us',h1',_⟩:=F'.own b es h;exact⟨o,us,g.keepN F.tb (.seq h2.sq) h1,h2,za4 rp _ _ h3⟩
 ·rcases B9.mp h with h|h
  ·subst h
   exact λ q=>absurd (C9 (F.ok.kl _ q) F.go.size) (D7.mpr ha)
  ·exact F.olo p h
 ·show(a::H.own.map (·.1)).Nodup
  refine za5.mpr ⟨λ q=>?_,F.ond⟩;obtain⟨⟨b,es⟩,hp,rfl⟩:=C5.mp q;obtain⟨o,us,h1,_⟩:=F.own b es hp;exact absurd (C6 h1) (D7.mpr ha)
 ·obtain⟨h1,h2,h3,h4,h5⟩:=F'.fix b o h
  refine⟨h1,h2,h3,h4,λ q=>?_⟩;rcases B9.mp q with q|q
  ·rw[show b=a from q] at h
   exact absurd (C6 (F.fix a o h).1) (D7.mpr ha)
  ·exact h5 q
theorem Wx.own {x:Str}{p ps:Pos}{e:Expr}{ds:List D}(i:Nat)(hi:i<c.ns)(hx:c.nm[i]? =some x)(he:Nl G w c H V true e ds)
 (h: ∀a,OkW c a->Wx G w c (H.owns ((a,ds)::H.own)) (V.set i (some (.ptr a))) rest P E)
 (hs:U6 e (some (.Name x p)) ps.line c.env=pure false:=by rfl):Wx G w c H V (.Assign [.Name x p] e ps::rest) P E:=by
 refine⟨λ s F=>?_⟩
 with_reducible refine E8 (V3 (he.h s F _ _ λ a s1 vs n g1 ha e1 r1=>?_) hs)
 exact(F.newown g1 ha e1 r1).store (d:= .ptr a) i hi hx rfl λ s2 F2 z=>(h a (.inl (A7 F.go.size ha))).h s2 F2
theorem Wx.asgT {elts:List Expr}{n:Nat}{p ps:Pos}{e:Expr}{d:D}{V':List (Option D)}(he:Ev G w c H V true e d)(ht:Tg G w c H V (.Tuple elts n p) d V')(h:Wx G w c H V' rest P E)
 (hs:swapsWithSole [.Tuple elts n p] e ps.line c.env=pure false:=by rfl)(hw:zdn [.Tuple elts n p] e c.env=pure none:=by rfl):Wx G w c H V (.Assign [.Tuple elts n p] e ps::rest) P E:=by
 refine⟨λ s F=>?_⟩
 with_reducible refine E8 (Assign_Tuple (he.r F λ v s1 g1 r1=>?_) hs hw)
 exact ht.h s1 v (F.onto g1) r1 _ _ λ s2 F2 z=>h.h s2 F2
theorem zjb {ts:List Expr}{v:Expr}{env env':Env}(h:env.scope=env'.scope):zdn ts v env=zdn ts v env':=by
 unfold zdn Env.blockKind Env.kindOf;rw[h]
noncomputable abbrev envOf (sc:Scope):Env:={scope:=sc,locals:=0,globals:=0,cells:=[],qual:=zfl,func:=none,code:= .none,frame:=none,builtins:=0}
theorem Wx.swap2 {x y:Str}{n m:Nat}{p q pt ps pv:Pos}{e1 e2:Expr}{d1 d2:D}{sc:Scope}{nb:Bool}(hh:nb=true->c.A.handled=none)(hsc:c.env.scope=sc)(i j:Nat)(hi:i<c.ns)(hx:c.nm[i]? =some x)(hj:j<c.ns)(hy:c.nm[j]? =some y)
 (h1:Ev G w c H V true e1 d1)(h2:Ev G w c H V true e2 d2)(h:Wx G w c H ((V.set j (some d2)).set i (some d1)) rest P E)
 (hst:J7 [e1,e2] c.env=[(false,M3 e1 c.env),(false,M3 e2 c.env)]:=by rfl)
 (hw:zdn [.Tuple [.Name x p,.Name y q] n pt] (.Tuple [e1,e2] m pv) (envOf sc)=pure (some [x,y]):=by rfl):Wx G w c H V (.Assign [.Tuple [.Name x p,.Name y q] n pt] (.Tuple [e1,e2] m pv) ps::rest) P E:=by
 refine⟨λ s F=>?_⟩;have ha:As G w c H V true [e1,e2] [d1,d2]:=by
  have t2:J7 [e2] c.env=(false,M3 e2 c.env)::J7 [] c.env:=by
   have:=hst
   cases e1<;>first|(exact(zj3 this).2)|(cases this)
  exact B8 h1 (B8 h2 D9 t2) (by rw[hst,t2];rfl)
 have he:Ev G w c H V true (.Tuple [e1,e2] m pv) (.tup [d1,d2]):=Z1 ha
 with_reducible refine E8 (Assign_Tuple_swapped (names:=[x,y]) (he.r F λ v s1 g1 r1=>?_) rfl ((zjb (env':=envOf sc) hsc).trans hw))
 obtain⟨a,k,vs,rfl,ho,hl⟩:=r1.tup_inv;rw[hid_some] at ho;obtain⟨v1,v2,rfl,r1,r2⟩:=zkp hl;have F1:=F.onto g1;refine zi9 F1.hdA ho.2 rfl λ s2 g2=>?_;show D0 (D1 pw w) c.A (zcd [ztw c.env y,ztw c.env x] [v2,v1]) (λ z s=>_) E s2;refine zcy (zo7 ((F1.onto g2).store j hj hy (r2.go g2 F1.tb) λ s3 F3 u3=>?_));exact zo7 (F3.store i hi hx (u3.rp (r1.go g2 F1.tb)) λ s4 F4 z=>h.h s4 F4)
structure Ip (G:Gt)(w:E3)(op:zhw)(d1 d2 d:D):Prop where
 h: ∀A K s v1 v2,Ok G A K s->Rp (hid K s.heap) d1 v1->Rp (hid K s.heap) d2 v2->Gv w A K s (inplaceOp op v1 v2) d
theorem Wx.aug {x:Str}{op:zhw}{p ps:Pos}{e:Expr}{d0 d1 d:D}(i:Nat)(hi:i<c.ns)(hx:c.nm[i]? =some x)(hv:V[i]? =some (some d0))(he:Ev G w c H V true e d1)(hp:Ip G w op d0 d1 d)(h:Wx G w c H (V.set i (some d)) rest P E):
 Wx G w c H V (.AugAssign (.Name x p) op e ps::rest) P E:=by
 refine⟨λ s F=>?_⟩;obtain⟨v0,h1,h2⟩:=F.vars i x d0 hx hv;have q:=F.ok.dbg x (A6 hx)
 with_reducible refine E8 (wpAny_AugAssign_Name (h1.load F.ok.fn q.2 (he.r F λ v1 s1 g1 r1=>?_)))
 refine(hp.h _ _ s1 v0 v1 ((F.onto g1).okS true) (h2.go g1 F.tb) r1).h _ _ λ v s2 g2 r2=>?_;exact((F.onto g1).onto g2).store i hi hx r2 λ s3 F3 z=>h.h s3 F3
structure Lm (G:Gt)(w:E3)(id:String)(ds args ds':List D):Prop where
 h: ∀A K s a vs n us,Ok G A K s->s.heap.get? a=some (M8 vs n)->RpL (hid K s.heap) ds vs->RpL (hid K s.heap) args us-> ∀(Q E:Value->A8->Prop),
  (∀h' tk vs' n',P2 a s.heap h'->h'.get? a=some (M8 vs' n')->RpL (hid K s.heap) ds' vs'->Q .none {s with heap:=h',toks:=tk})->D0 (D1 pw w) A (call (.builtin id) (.ref a::us)) Q E s
theorem Lm.eq {G:Gt}{w:E3}{id:String}{ds args ds' ds2:List D}(h:Lm G w id ds args ds')(e:ds'=ds2):Lm G w id ds args ds2:=e▸h
theorem zqn {args:List (Bool×Sem Value)}(h:args.any (·.1)=false):args.all (λ x=> !x.1)=true:=by
 rw[K5];intro x hx;rw[zm2] at h;have:=h x hx
 cases q:x.1<;>simp_all
theorem Wx.mut {x name:Str}{id:String}{p ap ps ps':Pos}{args:List Expr}{a:Addr}{ds ads ds':List D}(i j:Nat)(hx:c.nm[i]? =some x)(hv:V[i]? =some (some (.ptr a)))(hj:H.own[j]? =some (a,ds))(ha:OkW c a)
 (he:As G w c H V true args ads)(hm:Lm G w id ds ads ds')(slot:Slot "list" name id)(hty:typeOf (.builtin id)=pure (.type "method_descriptor"))(h:Wx G w c (H.owns (H.own.set j (a,ds'))) V rest P E)
 (hl:args.length<30:=by decide)(hline:(ap.endLine==ps.line)=true:=by rfl):Wx G w c H V (.Expr (.Call (.Attribute (.Name x p) name ap) args [] ps) ps'::rest) P E:=by
 refine⟨λ s F=>?_⟩;obtain⟨v0,h1,h2⟩:=F.vars i x _ hx hv;have q:=F.ok.dbg x (A6 hx);obtain rfl:=Rp.p0 h2;obtain⟨o,vs,h3,⟨n,rfl⟩,h4⟩:=F.own a ds (A6 hj);refine E8 (zgc (Z2 rfl ?_ hline zcj slot hty (T7 (h1.load F.ok.fn q.2 ⟨⟨_,h3,rfl⟩,?_,?_⟩) q.1)) (by unfold zc4;rw[F.ok.fn];rfl) rfl)
 ·rw[zqn (he.ns ps)]
  simp only[zfa,zh1,if_true,zgj];exact decide_eq_true hl
 ·intro b e;cases e;exact⟨_,h3,rfl⟩
 ·refine O0 (he.ns _) (N2 (he.ns _) (he.h _ s F _ _ λ us s1 g1 r1=>?_))
  have F1:=F.onto g1;refine hm.h c.A _ s1 a vs n us (F1.okS true) (g1.keepN F.tb (.seq ⟨_,_,rfl⟩) h3) (h4.go g1 F.tb) r1 _ _ λ h' tk vs' n' hs e r=>?_;exact h.h _ (F1.ownset j hj ha hs e r)
end
section
variable{G:Gt}{w:E3}{c:Cx}{H:Hm}{V:List (Option D)}{s s':A8}
variable{P:Flow->A8->Prop}{E:Value->A8->Prop}{rest:List Stmt}
section SI
variable{a b:Int}
theorem Ip.add:Ip G w .Add (.int a) (.int b) (.int (a+b)):=by
 refine⟨λ A K s v1 v2 ok r1 r2=>⟨λ Q E k=>?_⟩⟩;obtain⟨t,rfl⟩:=r1.int_inv;obtain⟨u,rfl⟩:=r2.int_inv;have k':=λ t n=>k (.int _ t) _ (R1 s n) .int'
 with_reducible exact PyProof.Rows.iadd_int (k' _ _)
theorem Ip.sub:Ip G w .Sub (.int a) (.int b) (.int (a-b)):=by
 refine⟨λ A K s v1 v2 ok r1 r2=>⟨λ Q E k=>?_⟩⟩;obtain⟨t,rfl⟩:=r1.int_inv;obtain⟨u,rfl⟩:=r2.int_inv;have k':=λ t n=>k (.int _ t) _ (R1 s n) .int'
 with_reducible exact PyProof.Rows.isub_int (k' _ _)
theorem Ip.shl (h:0<=b)(hsz:(B6 a:Int)+b<=2^27):Ip G w .LShift (.int a) (.int b) (.int (a*2^b.toNat)):=by
 refine⟨λ A K s v1 v2 ok r1 r2=>⟨λ Q E k=>?_⟩⟩;obtain⟨t,rfl⟩:=r1.int_inv;obtain⟨u,rfl⟩:=r2.int_inv;have k':=λ t n=>k (.int _ t) _ (R1 s n) .int'
 with_reducible exact PyProof.Rows.ilshift_int h hsz (k' _ _)
theorem Ip.shr (h:0<=b):Ip G w .RShift (.int a) (.int b) (.int (a.fdiv (2^b.toNat))):=by
 refine⟨λ A K s v1 v2 ok r1 r2=>⟨λ Q E k=>?_⟩⟩;obtain⟨t,rfl⟩:=r1.int_inv;obtain⟨u,rfl⟩:=r2.int_inv;have k':=λ t n=>k (.int _ t) _ (R1 s n) .int'
 with_reducible exact PyProof.Rows.irshift_int h (k' _ _)
end SI
theorem zfi {h:P9}{a:Addr}{vs us:List Value}{n:Nat}{f:Array Value->Array Value}(e:h.get? a=some (M8 vs n))(hf:f vs.toArray=us.toArray):
 ∃n',(h.update a (Obj.mapSeq f)).get? a=some (M8 us n'):=by
 have hm: ∃n',Obj.mapSeq f (M8 vs n)=M8 us n':=by
  unfold Obj.mapSeq;simp only[hf];exact⟨_,rfl⟩
 obtain⟨n',hm⟩:=hm;exact⟨n',by rw[Y9 _ e (by rw[hm];rfl),hm]⟩
theorem Lm.append {ds:List D}{d:D}(hz:ds.length<H5):Lm G w "list.append" ds [d] (ds++[d]):=by
 refine⟨λ A K s a vs n us ok ho r ru Q E k=>?_⟩;obtain⟨v,rfl,rv⟩:=zc0 ru;have e:=r.length;refine zel M5 ⟨_,ho,rfl⟩ PySem.F.entry_list_append (PySem.F.args_list_append_2 _ _) (PySem.AutoListH.list_append_list_val_0 a vs.toArray n v (by simp only[I1];omega)) ⟨ho,?_⟩
 obtain⟨n',e'⟩:=zfi (us:=vs++[v]) (f:=(·.push v)) ho (by simp)
 exact k _ _ _ _ (R5 ..) e' (r.snoc rv)
theorem Lm.reverse {ds:List D}(hz:ds.length<=H5):Lm G w "list.reverse" ds [] ds.reverse:=by
 refine⟨λ A K s a vs n us ok ho r ru Q E k=>?_⟩;obtain rfl:=ru.i0;have e:=r.length;refine zel zo9 ⟨_,ho,rfl⟩ PySem.F.entry_list_reverse (PySem.F.args_list_reverse_1 _) (PySem.AutoSeq1.list_reverse_list_0 a vs.toArray n (by simp only[I1];omega)) ⟨ho,?_⟩
 obtain⟨n',e'⟩:=zfi (us:=vs.reverse) (f:=λ x=>x.reverse) ho (by simp)
 refine k _ _ _ _ (R5 ..) e' (RpL.of_all (by simp[e]) λ i d v hd hv=>?_)
 have hi:i<ds.length:=by have:=(C7.mp hd).1;simpa using this
 rw[zi6 hi] at hd;rw[zi6 (by omega),e] at hv
 obtain⟨v',h1,h2⟩:=r.get hd;rw[h1] at hv;cases hv;exact h2
theorem Lm.extend {ds es:List D}(hz:ds.length+es.length<2^20):Lm G w "list.extend" ds [.lst es] (ds++es):=by
 refine⟨λ A K s a vs n us ok ho r ru Q E k=>?_⟩;obtain⟨v,rfl,rv⟩:=zc0 ru;obtain⟨b,o,ws,rfl,hb,⟨m,rfl⟩,hl⟩:=rv.lst_inv;rw[hid_some] at hb;have e1:=r.length;have e2:=hl.length;refine zel zpo ⟨_,ho,rfl⟩ PySem.F.entry_list_extend (PySem.F.args_list_extend_2 _ _) (PySem.AutoSeq1.list_extend_list_list_0 a vs.toArray n b ws.toArray m ?_ ?_ ?_) ⟨ho,hb.2,?_⟩
 ·simp[zmr,H5,e1,e2];omega
 ·simp only[I1,H5];omega
 ·simp only[I1,H5];omega
 obtain⟨n',e'⟩:=zfi (us:=vs++ws) (f:=λ x=>x++ws.toArray) ho (by simp)
 exact k _ _ _ _ (R5 ..) e' (r.append hl)
theorem Lm.insert {ds:List D}{d:D}{i:Nat}{x:Int}(hx:x=i)(hi:i<=ds.length)(hz:ds.length<2^20):Lm G w "list.insert" ds [.int x,d] (ds.take i++d::ds.drop i):=by
 refine⟨λ A K s a vs n us ok ho r ru Q E k=>?_⟩;obtain⟨v,v2,rfl,rv,rv2⟩:=zkp ru;obtain⟨t,rfl⟩:=rv.int_inv;have e1:=r.length;have hf:(λ xs:Array Value=>have k:=if x<0 then(x+(xs.size:Int)).toNat else min x.toNat xs.size;(xs.extract 0 k).push v2++xs.extract k) vs.toArray=(vs.take i++v2::vs.drop i).toArray:=by
  have h0: ¬(x<0):=by omega
  have h1:x.toNat=i:=by omega
  simp only[h0,if_false,h1,I1];rw[show min i vs.length=i by omega]
  apply Array.ext';simp;rw[S6 (by simp)]
 obtain⟨n',e'⟩:=zfi (us:=vs.take i++v2::vs.drop i) (f:=λ xs:Array Value=>have k:=if x<0 then(x+(xs.size:Int)).toNat else min x.toNat xs.size;(xs.extract 0 k).push v2++xs.extract k) ho hf;have hr:RpL (hid K s.heap) (ds.take i++d::ds.drop i) (vs.take i++v2::vs.drop i):=by
  have h2:RpL (hid K s.heap) (ds.take i++ds.drop i) vs:=by rw[zi3];exact r
  obtain⟨u1,u2,rfl,q1,q2⟩:=h2.split;have el:u1.length=i:=by rw[q1.length,U1];omega
  rw[List.take_left' el,List.drop_left' el];exact q1.append (U4 rv2 q2)
 have hfit: ¬(!Builtin.List.listFitsIndex x)=true:=by simp[zlg];omega
 have hsz:vs.toArray.size<=H5:=by simp only[I1,H5];omega
 have k':=k _ s.toks _ _ (R5 ..) e' hr;clear hf e' hr hi hx;exact zel zpn ⟨_,ho,rfl⟩ PySem.F.entry_list_insert (PySem.F.args_list_insert_3 _ _ _) (PySem.AutoSeq1.list_insert_list_int_val_1 a vs.toArray n x t v2 hfit hsz) ⟨ho,k'⟩
theorem zl2 {A:H2}{E:Value->A8->Prop}{a:Addr}{vs:List Value}{n:Nat}{k:Int}{t:Tok}{v:Value}{Q:Unit->A8->Prop}(ho:s.heap.get? a=some (M8 vs n))
 (h0:0<=k)(hfit:k<2^63)(hn:k<vs.length)
 (hQ: ∀h' n',P2 a s.heap h'->h'.get? a=some (M8 (vs.set k.toNat v) n')->Q () {s with heap:=h'}):
 D0 (D1 pw w) A (setItem (.ref a) (.int k t) v) Q E s:=by
 have hl:s.heap.IsList a vs.toArray:=⟨_,ho,rfl,n,rfl⟩;unfold setItem
 try with_reducible refine J8 ?_
 first|refine B0 (C4 ?_)|skip
 refine B0 (wpAny_sequenceKey hl.typeIs (by decide) ?_)
 refine B0 (zcz (name:=G9 "__setitem__") hl.typeIs zo8
  (zd3 zo8 hl.typeIs PySem.F.entry_list_setitem ?_ (PySem.F.args_list_setitem_3 _ _ _)))
 show D0 _ _ (Builtin.List.listSubscript? (.int k t) >>= _) _ _ s;refine B0 (wpAny_listSubscript_int (fitsIndex_of h0 hfit) ?_);clear hfit;obtain⟨j,rfl⟩:=K2 h0;have hj:j<vs.toArray.size:=by simp only[I1];omega
 have hx':vs.toArray[j]? =some vs.toArray[j]:=W1 hj;show D0 _ _ ((seqItemAt a j >>= λ r=>pure (r.map (j,·))) >>= _) _ _ s;refine B0 (B0 (wpAny_seqItemAt ho rfl (C4 ?_)));rw[hx'];show D0 _ _ (setSeqItemAt a j v >>= _) _ _ s;obtain⟨n',e'⟩:=zfi (us:=vs.set j v) (f:=(·.setIfInBounds j v)) ho (by simp)
 refine B0 (wpAny_setSeqItemAt ho rfl ?_)
 first
  |exact B0 (C4 (C4 ⟨.none,rfl,C4 (hQ _ n' (R5 ..) e')⟩))
  |exact C4 ⟨.none,rfl,C4 (hQ _ n' (R5 ..) e')⟩
theorem Wx.setSub {x:Str}{p ps ps':Pos}{ie e:Expr}{a:Addr}{ds:List D}{k:Int}{d:D}(i j:Nat)(hx:c.nm[i]? =some x)(hv:V[i]? =some (some (.ptr a)))(hj:H.own[j]? =some (a,ds))(ha:OkW c a)
 (he:Ev G w c H V true e d)(hi:Ev G w c H V true ie (.int k))(h0:0<=k)(hk:k<ds.length)(hz:ds.length<2^62)(h:Wx G w c (H.owns (H.own.set j (a,ds.set k.toNat d))) V rest P E)
 (hs:U6 e (some (.Subscript (.Name x p) ie ps)) ps'.line c.env=pure false:=by rfl):Wx G w c H V (.Assign [.Subscript (.Name x p) ie ps] e ps'::rest) P E:=by
 refine⟨λ s F=>?_⟩;have q:=F.ok.dbg x (A6 hx);refine E8 (wpAny_Assign_Subscript (he.r F λ v s1 g1 r1=>?_) hs);have F1:=F.onto g1;obtain⟨v0,h1,h2⟩:=F1.vars i x _ hx hv;obtain rfl:=Rp.p0 h2;refine T7 (h1.load F.ok.fn q.2 (hi.r F1 λ kv s2 g2 r2=>?_)) q.1;obtain⟨t,rfl⟩:=r2.int_inv;have F2:=F1.onto g2;obtain⟨o,vs,h3,⟨n,rfl⟩,h4⟩:=F2.own a ds (A6 hj);have el:=h4.length;refine zl2 h3 h0 (by omega) (by omega) λ h' n' hs' e'=>?_
 exact h.h _ (F2.ownset (tk:=s2.toks) j hj ha hs' e' (h4.set k.toNat (r1.go g2 F1.tb)))
theorem Wx.augSub {x:Str}{op:zhw}{p ps ps':Pos}{ie e:Expr}{a:Addr}{ds:List D}{k:Int}{d0 d1 d:D}(i j:Nat)(hx:c.nm[i]? =some x)(hv:V[i]? =some (some (.ptr a)))(hj:H.own[j]? =some (a,ds))(ha:OkW c a)
 (hi:Ev G w c H V true ie (.int k))(h0:0<=k)(hk:ds[k.toNat]? =some d0)(hz:ds.length<2^62)(he:Ev G w c H V true e d1)(hp:Ip G w op d0 d1 d)
 (h:Wx G w c (H.owns (H.own.set j (a,ds.set k.toNat d))) V rest P E)
 (hau: ∀ov iv new,augStore ie ov iv new=(do zkz [new,ov,iv] (setItem ov iv new);release [new,ov,iv] [];pure .next):=by intros;rfl):Wx G w c H V (.AugAssign (.Subscript (.Name x p) ie ps) op e ps'::rest) P E:=by
 refine⟨λ s F=>?_⟩;have q:=F.ok.dbg x (A6 hx);obtain⟨v0,h1,h2⟩:=F.vars i x _ hx hv;obtain rfl:=Rp.p0 h2;refine E8 (wpAny_AugAssign_SubscriptAny (T7 (h1.load F.ok.fn q.2 (hi.r F λ kv s1 g1 r1=>?_)) q.1) hau);obtain⟨t,rfl⟩:=r1.int_inv;have F1:=F.onto g1;obtain⟨o,vs,h3,⟨n,rfl⟩,h4⟩:=F1.own a ds (A6 hj);have el:=h4.length;have hkl:=(C7.mp hk).1;obtain⟨v,hv1,rv⟩:=h4.get hk;refine wpAny_getItem_list ⟨_,h3,rfl,n,rfl⟩ h0 (by omega) (by simpa using hv1) (he.r F1 λ v1 s2 g2 r2=>?_)
 have F2:=F1.onto g2;refine(hp.h _ _ s2 v v1 (F2.okS true) (rv.go g2 F1.tb) r2).h _ _ λ v2 s3 g3 r3=>?_;have F3:=F2.onto g3;have g23:=g2.trans g3;refine zl2 (g23.keepN F1.tb (.seq ⟨_,_,rfl⟩) h3) h0 (by omega) (by omega) λ h' n' hs' e'=>?_
 exact h.h _ (F3.ownset (tk:=s3.toks) j hj ha hs' e' ((h4.go g23 F1.tb).set k.toNat r3))
end
open Internal.Lm renaming append->zdc
section
variable{G:Gt}{w:E3}{c:Cx}{H:Hm}{V:List (Option D)}{s s':A8}
variable{P:Flow->A8->Prop}{E:Value->A8->Prop}{rest:List Stmt}
noncomputable def LpP (G:Gt)(c:Cx)(H:Hm)(V:List (Option D))(lv:Prop)(P:Flow->A8->Prop):Flow->A8->Prop:=λ f s=>match f with
 | .next| .cont=>lv/\FrS G c H V s
 | .brk=>False
 | .ret v=>P (.ret v) s
noncomputable abbrev LpE (w:E3)(c:Cx)(E:Value->A8->Prop):Value->A8->Prop:=zje (D1 pw w) c.A c.env λ e s'=>zit (D1 pw w) c.A c.env E e s'
theorem Wx.forH {t iter:Expr}{body:List Stmt}{ps:Pos}{items:List D}{EB:Value->A8->Prop}(iv:IvG G w c H V t iter items)(hEB: ∀v s,EB v s->LpE w c E v s)
 (ow:Nat->List (Addr×List D))(Vs:Nat->List (Option D))(lv:Nat->Prop)(ho:ow 0=H.own)(hV:Vs 0=V)(hl:lv 0)(hm: ∀k,(ow k).map (·.1)=H.own.map (·.1))
 (turn: ∀k d,items[k]? =some d->lv k-> ∀fx gn,(∀q∈H.fix,q∈fx)-> ∃V',Tg G w c ⟨ow k,fx,gn⟩ (Vs k) t d V'/\Wx G w c ⟨ow k,fx,gn⟩ V' body (LpP G c ⟨ow (k+1),fx,gn⟩ (Vs (k+1)) (lv (k+1)) P) EB)
 (h:lv items.length->Wx G w c (H.owns (ow items.length)) (Vs items.length) rest P E)
 (hs: ∀x,J0 iter c.env x=pure x:=by intro _;rfl):Wx G w c H V (.For t iter body [] ps::rest) P E:=by
 refine⟨λ s F=>?_⟩;refine E8 (wpAny_For (iv.h s F _ _ λ it s2 wr gw St ob gs g2 I st hob hgs=>?_) hs);have F1:=F;have hown: ∀k,∀a∈(H.owns (ow k)).own.map (·.1),a∈hk c H true:=λ k a ha=>D4 _ (by rw[<-hm k];exact ha)
 have hkk: ∀k fx gn,hk c ⟨ow k,fx,gn⟩ true=hk c H true:=λ k fx gn=>by simp only[hk,if_true,hm]
 have start:FrS G c ((H.owns (ow 0)).with ob gs) (Vs 0) s2:=by
  rw[ho,hV];exact zlt F1 (F1.onto g2) (λ a ha=>D4 _ ha) I st hob hgs
 refine zng (λ n s=> ∃k ob gs,n+k=items.length/\lv k/\St k ob gs/\FrS G c ((H.owns (ow k)).with ob gs) (Vs k) s) (λ n s3 hI=>?_) items.length ⟨0,ob,gs,rfl,hl,st,start⟩;obtain⟨k,ob3,gs3,hn,hlv,st3,F3⟩:=hI;have ok3:Ok G c.A (hk c H true) s3:=by have:=F3.okS true;rwa [hkk] at this
 have ob3': ∀p∈ob3,s3.heap.get? p.1=some p.2:=λ p hp=>(F3.fix p.1 p.2 (D3 _ hp)).1;have gs3': ∀p∈gs3,s3.gens[p.1]? =some p.2:=λ p hp=>(F3.gen p (D3 _ hp)).1
 cases hd:items[k]? with
 |none=>
  have hk':k=items.length:=by have:=W4.mp hd;omega
  subst hk';refine I.fin ob3 gs3 s3 st3 ⟨_,ok3⟩ ob3' gs3' _ _ λ s4 m=>?_;refine C4 ?_;exact(h hlv).h s4 (FrS.moved F1 (hm _) F3 I st3 m)
 |some d=>
  have hk':=(C7.mp hd).1;refine E7 (I.nxt k d ob3 gs3 s3 hd st3 ⟨_,ok3⟩ ob3' gs3' (λ v s4=>D0 (D1 pw w) c.A (M9 t c.env v) (λ z s₂=>D0 (D1 pw w) c.A (X5 body c.env) (λ f s₃=>match f with
   | .next| .cont=> ∃m,m<n/\ ∃k ob gs,m+k=items.length/\lv k/\St k ob gs/\FrS G c ((H.owns (ow k)).with ob gs) (Vs k) s₃
   | .brk=>(match(zod zlu:zuy) with| .ok f=>(match f with| .next=>D0 (D1 pw w) c.A (X5 rest c.env) P E s₃|f=>P f s₃)| .error e=>zit (D1 pw w) c.A c.env E e s₃)
   | .ret v=>(match(zod (zph v):zuy) with| .ok f=>(match f with| .next=>D0 (D1 pw w) c.A (X5 rest c.env) P E s₃|f=>P f s₃)| .error e=>zit (D1 pw w) c.A c.env E e s₃)) (LpE w c E) s₂) (LpE w c E) s4) (LpE w c E) λ v s4 ob4 gs4 m st4 hob4 hgs4 r4=>?_) (λ r s4 h4=>?_) λ z z e=>e
  rotate_left
  ·obtain⟨v,rfl,h4⟩:=h4
   exact h4
  have F4:=FrS.moved F1 (hm k) F3 I st3 m;have F4':=zlt F1 F4 (hown k) I st4 hob4 hgs4;obtain⟨V',ht,hb⟩:=turn k d hd hlv (ob4++H.fix) (gs4++H.gen) λ q hq=>D4 _ hq;refine ht.h s4 v F4' (by rw[hkk];exact r4.rp (λ p hp=>(I.ob _ _ _ st4 p hp).2.2.2.1) ok3.kl) _ _ λ s5 F5 z=>?_
  refine E7 (hb.h s5 F5) (λ f s6 h6=>?_) λ v s6 e=>hEB v s6 e
  cases f with
  |next=>exact⟨n-1,by omega,k+1,ob4,gs4,by omega,h6.1,st4,h6.2⟩
  |cont=>exact⟨n-1,by omega,k+1,ob4,gs4,by omega,h6.1,st4,h6.2⟩
  |brk=>exact h6.elim
  |ret v=>exact h6
theorem Wx.forG {t iter:Expr}{body:List Stmt}{ps:Pos}{items:List D}{EB:Value->A8->Prop}(iv:IvG G w c H V t iter items)(hEB: ∀v s,EB v s->LpE w c E v s)
 (ow:Nat->List (Addr×List D))(Vs:Nat->List (Option D))(lv:Nat->Prop)(ho:ow 0=H.own)(hV:Vs 0=V)(hl:lv 0)(hm: ∀k,(ow k).map (·.1)=H.own.map (·.1))
 (turn: ∀k d,items[k]? =some d->lv k-> ∀fx gn,∃V',Tg G w c ⟨ow k,fx,gn⟩ (Vs k) t d V'/\Wx G w c ⟨ow k,fx,gn⟩ V' body (LpP G c ⟨ow (k+1),fx,gn⟩ (Vs (k+1)) (lv (k+1)) P) EB)
 (h:lv items.length->Wx G w c (H.owns (ow items.length)) (Vs items.length) rest P E)
 (hs: ∀x,J0 iter c.env x=pure x:=by intro _;rfl):Wx G w c H V (.For t iter body [] ps::rest) P E:=
 Wx.forH iv hEB ow Vs lv ho hV hl hm (λ k d hd hl fx gn z=>turn k d hd hl fx gn) h hs
theorem Wx.for_ {t iter:Expr}{body:List Stmt}{ps:Pos}{items:List D}(iv:Iv G w c H V t iter items)
 (ow:Nat->List (Addr×List D))(Vs:Nat->List (Option D))(lv:Nat->Prop)(ho:ow 0=H.own)(hV:Vs 0=V)(hl:lv 0)(hm: ∀k,(ow k).map (·.1)=H.own.map (·.1))
 (turn: ∀k d,items[k]? =some d->lv k-> ∀fx gn,∃V',Tg G w c ⟨ow k,fx,gn⟩ (Vs k) t d V'/\Wx G w c ⟨ow k,fx,gn⟩ V' body (LpP G c ⟨ow (k+1),fx,gn⟩ (Vs (k+1)) (lv (k+1)) P) (λ z z=>False))
 (h:lv items.length->Wx G w c (H.owns (ow items.length)) (Vs items.length) rest P E)
 (hs: ∀x,J0 iter c.env x=pure x:=by intro _;rfl):Wx G w c H V (.For t iter body [] ps::rest) P E:=
 Wx.forG iv.g (λ z z e=>e.elim) ow Vs lv ho hV hl hm turn h hs
theorem Wx.while_ {test:Expr}{body:List Stmt}{ps:Pos}(n:Nat)(Vs:Nat->List (Option D))(hV:Vs 0=V)(ht: ∀k,k<n->Ts G w c H (Vs k) test true)(hf:Ts G w c H (Vs n) test false)
 (turn: ∀k,k<n->Wx G w c H (Vs k) body (LpP G c H (Vs (k+1)) True P) (λ z z=>False))(h:Wx G w c H (Vs n) rest P E):Wx G w c H V (.While test body [] ps::rest) P E:=by
 refine⟨λ s F=>?_⟩;refine E8 (wpAny_While ?_);refine codeAny_whileLoop (λ m s=> ∃k,m+k=n/\FrS G c H (Vs k) s) (λ m s3 hI=>?_) n ⟨0,rfl,by rw[hV];exact F⟩
 obtain⟨k,hk,F3⟩:=hI;by_cases q:k<n
 ·refine(ht k q).h s3 F3 _ _ λ s4 g4=>?_
  rw[if_pos rfl];refine E7 ((turn k q).h s4 (F3.onto g4)) (λ f s6 h6=>?_) λ z z e=>e.elim
  cases f with
  |next=>exact⟨m-1,by omega,k+1,by omega,h6.2⟩
  |cont=>exact⟨m-1,by omega,k+1,by omega,h6.2⟩
  |brk=>exact h6.elim
  |ret v=>exact h6
 ·have:k=n:=by omega
  subst this;refine hf.h s3 F3 _ _ λ s4 g4=>?_;rw[if_neg N4];exact C4 (h.h s4 (F3.onto g4))
end
open Internal.Wx renaming for_->zni
mutual
theorem Rp.foot {g:Addr->Option Obj}: ∀(d:D) (v:Value),Rp g d v-> ∃ob:Obs,(∀p∈ob,g p.1=some p.2/\Sq p.2)/\ ∀g':Addr->Option Obj,(∀p∈ob,g' p.1=some p.2)->Rp g' d v
 | .none,v=>λ h=>⟨[],λ p hp=>(nomatch hp),λ g' z=>h⟩
 | .bool b,v=>λ h=>⟨[],λ p hp=>(nomatch hp),λ g' z=>h⟩
 | .int i,v=>λ h=>⟨[],λ p hp=>(nomatch hp),λ g' z=>h⟩
 | .str x,v=>λ h=>⟨[],λ p hp=>(nomatch hp),λ g' z=>h⟩
 | .ptr a,v=>λ h=>⟨[],λ p hp=>(nomatch hp),λ g' z=>h⟩
 | .tup l,v=>λ h=>by
   obtain⟨a,n,vs,e,ho,hl⟩:=h;obtain⟨ob,h1,h2⟩:=RpL.foot l vs hl;refine⟨(a,R4 vs n)::ob,λ p hp=>?_,λ g' hg=>?_⟩
   ·rcases B9.mp hp with q|q
    ·subst q;exact⟨ho,_,_,rfl⟩
    ·exact h1 p q
   ·exact⟨a,n,vs,e,hg _ A9,h2 g' λ p hp=>hg p (B1 _ hp)⟩
 | .lst l,v=>λ h=>by
   obtain⟨a,o,vs,e,ho,hL,hl⟩:=h;obtain⟨ob,h1,h2⟩:=RpL.foot l vs hl;refine⟨(a,o)::ob,λ p hp=>?_,λ g' hg=>?_⟩
   ·rcases B9.mp hp with q|q
    ·subst q;exact⟨ho,hL.sq⟩
    ·exact h1 p q
   ·exact⟨a,o,vs,e,hg _ A9,hL,h2 g' λ p hp=>hg p (B1 _ hp)⟩
theorem RpL.foot {g:Addr->Option Obj}: ∀(l:List D) (vs:List Value),RpL g l vs-> ∃ob:Obs,(∀p∈ob,g p.1=some p.2/\Sq p.2)/\ ∀g':Addr->Option Obj,(∀p∈ob,g' p.1=some p.2)->RpL g' l vs
 |[],vs=>λ h=>⟨[],λ p hp=>(nomatch hp),λ g' z=>h⟩
 |d::r,vs=>λ h=>by
  obtain⟨v,us,e,h1,h2⟩:=zgw h;obtain⟨o1,a1,a2⟩:=Rp.foot d v h1;obtain⟨o2,b1,b2⟩:=RpL.foot r us h2;refine⟨o1++o2,λ p hp=>?_,λ g' hg=>?_⟩
  ·rcases G1.mp hp with q|q
   ·exact a1 p q
   ·exact b1 p q
  ·exact⟨v,us,e,a2 g' λ p hp=>hg p (D3 _ hp),b2 g' λ p hp=>hg p (D4 _ hp)⟩
end
section
variable{G:Gt}{w:E3}{c:Cx}{H:Hm}{V:List (Option D)}{s s':A8}
theorem Itr.seq {A:H2}{K:List Addr}{t:Expr}{it:Value}{items:List D}{b gb:Nat}{wr:List Addr}(ob0:Obs)(IsIt:Nat->Obs->Prop)
 (hlo: ∀a∈wr,b<=a)(hwK: ∀a∈wr,a∉K)(h0: ∀p∈ob0,Sq p.2/\p.1∉K/\p.1∉wr)
 (hits: ∀k its,IsIt k its->its.map (·.1)=wr/\ ∀p∈its,∃T fs,p.2.cls= .type T/\T≠ "code"/\p.2.data= .fields fs)
 (nxt: ∀k d its s,items[k]? =some d->IsIt k its->(∀p∈its,s.heap.get? p.1=some p.2)->(∀p∈ob0,s.heap.get? p.1=some p.2)-> ∀(Q E:Value->A8->Prop),
   (∀v s' its',Mv wr [] b s s'->IsIt (k+1) its'->(∀p∈its',s'.heap.get? p.1=some p.2)->(∃fo:Obs,(∀p∈fo,p∈ob0\/(s.heap.objs.size<=p.1/\s'.heap.get? p.1=some p.2))/\ ∀g':Addr->Option Obj,(∀p∈fo,g' p.1=some p.2)->Rp g' d v)->Q v s')->
   D0 (D1 pw w) A (zbh it) (λ r s1=> ∃v,r=some v/\D0 (D1 pw w) A (U3 t it v) (λ z s'=>Q v s') E s1) E s)
 (fin: ∀its s,IsIt items.length its->(∀p∈its,s.heap.get? p.1=some p.2)->(∀p∈ob0,s.heap.get? p.1=some p.2)->HdA A s.heap-> ∀(Q:Option Value->A8->Prop) (E:Value->A8->Prop),
   (∀s',Mv wr [] b s s'->Q none s')->D0 (D1 pw w) A (zbh it) Q E s)
 (slf: ∀k its s,IsIt k its->(∀p∈its,s.heap.get? p.1=some p.2)-> ∀(Q E:Value->A8->Prop),Q it s->D0 (D1 pw w) A (zj8 it) Q E s):
 Itr G w A K t it items b gb wr [] (λ k ob gs=>gs=[]/\ ∃its,ob=its++ob0/\IsIt k its) where
 lo:=λ z z z z=>hlo
 lo0:=hlo
 glo:=λ i h=>nomatch h
 ob:=by
  rintro k ob gs ⟨rfl,its,rfl,hi⟩ p hp;obtain⟨h1,h2⟩:=hits k its hi;rcases G1.mp hp with q|q
  ·obtain⟨T,fs,e1,e2,e3⟩:=h2 p q
   have hw:p.1∈wr:=by rw[<-h1];exact I4 (f:=(·.1)) q
   refine⟨.inr ⟨λ e=>?_,λ e=>?_⟩,λ v e=>?_,λ z=>?_,hwK _ hw,.inl (hlo _ hw)⟩
   ·rw[e1] at e;cases e;exact e2 rfl
   ·rw[e1] at e;cases e
   ·rw[e3] at e;cases e
   ·rintro⟨vs,n,e⟩;rw[e3] at e;cases e
  ·obtain⟨q1,q2,q3⟩:=h0 p q
   obtain⟨vs,n,e⟩:=id q1;exact⟨.seq q1,λ v e'=>(by rw[e] at e';cases e'),λ h=>absurd h q3,q2,.inr λ es ep e'=>(by rw[e] at e';cases e')⟩
 gs:=by rintro k ob gs ⟨rfl,_⟩ p hp;exact nomatch hp
 wrin:=by
  rintro k ob gs ⟨rfl,its,rfl,hi⟩ a ha;rw[J2,(hits k its hi).1];exact D3 _ ha
 gwin:=λ k ob gs st i h=>nomatch h
 nxt:=by
  rintro k d ob gs s hd ⟨rfl,its,rfl,hi⟩ ok ho _ Q E kk;refine nxt k d its s hd hi (λ p hp=>ho p (D3 _ hp)) (λ p hp=>ho p (D4 _ hp)) Q E λ v s' its' m hi' ho' r=>?_;have hob: ∀p∈ob0,s'.heap.get? p.1=some p.2:=λ p hp=>m.keep _ _ (h0 p hp).2.2 (.inr (Loose.seq (h0 p hp).1)) (ho p (D4 _ hp));refine kk v s' (its'++ob0) [] m ⟨rfl,its',rfl,hi'⟩ (λ p hp=>?_) (λ p hp=>nomatch hp) ?_
  ·rcases G1.mp hp with q|q
   ·exact ho' p q
   ·exact hob p q
  ·obtain⟨fo,h1,h2⟩:=r
   refine⟨fo,λ p hp=>?_,h2⟩;rcases h1 p hp with q|q
   ·exact⟨.inl (D4 _ q),hob p q⟩
   ·exact⟨.inr q.1,q.2⟩
 adr:=by
  rintro k k' ob ob' gs gs' ⟨rfl,its,rfl,hi⟩ ⟨rfl,its',rfl,hi'⟩;rw[J2,J2,(hits k its hi).1,(hits k' its' hi').1]
 fin:=by
  rintro ob gs s ⟨rfl,its,rfl,hi⟩ ok ho _ Q E kk;exact fin its s hi (λ p hp=>ho p (D3 _ hp)) (λ p hp=>ho p (D4 _ hp)) (let ⟨_,x⟩:=ok;x.hd) Q E kk
 slf:=by
  rintro k ob gs s ⟨rfl,its,rfl,hi⟩ ho _ Q E q;exact slf k its s hi (λ p hp=>ho p (D3 _ hp)) Q E q
theorem zcs {A:H2}{t:Expr}{I:Addr}{o:Obj}{v:Value}{T:String}{Q:Unit->A8->Prop}{E:Value->A8->Prop}(ho:s.heap.get? I=some o)(hc:o.cls= .type T)
 (hT:["enumerate","zip","dict_itemiterator","dict_reverseitemiterator","odict_iterator","itertools.zip_longest","itertools.pairwise"].contains T=false)(q:Q () s):
 D0 (D1 pw w) A (U3 t (.ref I) v) Q E s:=by
 have tup:D0 (D1 pw w) A (U3 (.Tuple [] 0 default) (.ref I) v) Q E s:=by
  cases v with
  |ref a=>
   refine B0 (wpAny_load ho ?_);rw[hc]
   cases hd:o.data with
   |fields vs=>
    show D0 (D1 pw w) A (if(["enumerate","zip","dict_itemiterator","dict_reverseitemiterator","odict_iterator","itertools.zip_longest","itertools.pairwise"].contains T&&vs[0]? ==some (I6 a))=true then _ else _) Q E s;rw[hT,Bool.false_and];exact C4 q
   |_=>exact C4 q
  |_=>exact C4 q
 cases t with
 |Tuple=>exact tup
 |List=>exact tup
 |_=>exact C4 q
theorem Mv.same {a:Addr}{lim:Nat}{h':P9}{tk:Nat}(hs:P2 a s.heap h'):Mv [a] [] lim s {s with heap:=h',toks:=tk}:=
 ⟨λ b o hb z e=>(hs.2 b λ q=>hb (by rw[q];exact A9)).trans e,by show s.heap.objs.size<=h'.objs.size;rw[hs.1];exact D2 _,λ z z z e=>e,λ z z e=> .inl e,rfl⟩
theorem Mv.ext {a:Addr}{lim:Nat}{h':P9}{tk:Nat}(hs:zbr a s.heap h')(hz:s.heap.objs.size<=h'.objs.size):Mv [a] [] lim s {s with heap:=h',toks:=tk}:=
 ⟨λ b o hb z e=>hs b o (λ q=>hb (by rw[q];exact A9)) e,hz,λ z z z e=>e,λ z z e=> .inl e,rfl⟩
theorem Ib.lst {t:Expr}{l:List D}:Ib G w t (.lst l) l:=by
 refine⟨λ A K s v hh ok r Q E k=>?_⟩;obtain⟨ax,ol,vs,rfl,ho,hL,hl⟩:=r.lst_inv;rw[hid_some] at ho;obtain⟨fo,hf1,hf2⟩:=RpL.foot _ _ hl;have hI:=hL.isList ho.2;have el:=hl.length;refine wpAny_pyIter_list hI ?_;have hlt: ∀a o,s.heap.get? a=some o->a∉[s.heap.objs.size]:=λ a o e q=>by rw[B2] at q;exact H8 _ (q▸C6 e)
 refine k _ _ [s.heap.objs.size] [] _ ((s.heap.objs.size,{cls:= .type "list_iterator",data:= .fields #[.ref ax,.int 0 0]})::(ax,ol)::fo) [] (Z0 s _)
  (Itr.seq ((ax,ol)::fo) (λ k its=> ∃o,its=[(s.heap.objs.size,o)]/\o.cls= .type "list_iterator"/\o.data= .fields #[.ref ax,.int k 0]) ?_ ?_ ?_ ?_ ?_ ?_ ?_) ⟨rfl,[_],rfl,_,rfl,rfl,rfl⟩ ?_ (λ p hp=>nomatch hp)
 ·intro a ha;rw[B2] at ha;exact Q0 ha.symm
 ·intro a ha hK;rw[B2] at ha;exact H8 _ (ha▸ok.kl a hK)
 ·intro p hp
  rcases B9.mp hp with q|q
  ·subst q;exact⟨hL.sq,ho.1,hlt _ _ ho.2⟩
  ·obtain⟨h1,h2⟩:=hf1 p q
   rw[hid_some] at h1;exact⟨h2,h1.1,hlt _ _ h1.2⟩
 ·rintro k its ⟨o,rfl,h1,h2⟩
  refine⟨rfl,λ p hp=>?_⟩;rw[B2] at hp;subst hp;exact⟨_,_,h1,by decide,h2⟩
 ·rintro k d its s1 hd ⟨o,rfl,h1,h2⟩ hits hob Q E kk
  obtain⟨v,hv,rv⟩:=hl.get hd;have e1:=hits _ (H4 _);have e2:=hob _ A9;refine wpAny_pyNext_list_item (items:=vs.toArray) ⟨o,e1,h1,h2⟩ (hL.isList e2) (by simpa using hv) λ h' hit' hs'=>⟨v,rfl,?_⟩
  obtain⟨o',g1,g2,g3⟩:=hit';refine zcs (T:= "list_iterator") g1 g2 (by decide) ?_
  refine kk v _ [(_,o')] (Mv.same (tk:=s1.toks) hs') ⟨o',rfl,g2,g3⟩ (λ p hp=>by rw[B2] at hp;subst hp;exact g1) ⟨fo,λ p hp=> .inl (B1 _ hp),λ g' hg=>?_⟩
  obtain⟨v',hv',rv'⟩:=(hf2 g' hg).get hd;rw[hv] at hv';cases hv';exact rv'
 ·rintro its s1 ⟨o,rfl,h1,h2⟩ hits hob hhd Q E kk
  have e1:=hits _ (H4 _);have e2:=hob _ A9;refine Q4 (wpAny_pyNext_list_end (items:=vs.toArray) hh ⟨o,e1,h1,h2⟩ (hL.isList e2) (by simp[el]) λ h' hs' hz=>?_)
  exact kk _ (Mv.ext (tk:=s1.toks) hs' hz)
 ·rintro k its s1 ⟨o,rfl,h1,h2⟩ hits Q E q
  exact wpAny_pyIter_listiter ⟨o,hits _ (H4 _),h1,h2⟩ q
 ·intro p hp
  rcases B9.mp hp with q|q
  ·subst q;exact D8 _ rfl
  ·refine C3 _ ?_
   rcases B9.mp q with q|q
   ·subst q;exact ho.2
   ·have:=(hf1 p q).1;rw[hid_some] at this;exact this.2
end
open Internal.Ib renaming lst->zec
section
variable{G:Gt}{w:E3}{c:Cx}{H:Hm}{V:List (Option D)}{s s':A8}
theorem Ib.tup {t:Expr}{l:List D}:Ib G w t (.tup l) l:=by
 refine⟨λ A K s v hh ok r Q E k=>?_⟩;obtain⟨ax,n,vs,rfl,ho,hl⟩:=r.tup_inv;rw[hid_some] at ho;obtain⟨fo,hf1,hf2⟩:=RpL.foot _ _ hl;have hT: ∀{h:P9},h.get? ax=some (R4 vs n)->h.IsTuple ax vs.toArray:=λ e=>⟨_,e,rfl,n,rfl⟩;have el:=hl.length;refine wpAny_pyIter_tuple (hT ho.2) ?_;have hlt: ∀a o,s.heap.get? a=some o->a∉[s.heap.objs.size]:=λ a o e q=>by rw[B2] at q;exact H8 _ (q▸C6 e)
 refine k _ _ [s.heap.objs.size] [] _ ((s.heap.objs.size,{cls:= .type "tuple_iterator",data:= .fields #[.ref ax,.int 0 0]})::(ax,R4 vs n)::fo) [] (Z0 s _)
  (Itr.seq ((ax,R4 vs n)::fo) (λ k its=> ∃o,its=[(s.heap.objs.size,o)]/\o.cls= .type "tuple_iterator"/\o.data= .fields #[.ref ax,.int k 0]) ?_ ?_ ?_ ?_ ?_ ?_ ?_) ⟨rfl,[_],rfl,_,rfl,rfl,rfl⟩ ?_ (λ p hp=>nomatch hp)
 ·intro a ha;rw[B2] at ha;exact Q0 ha.symm
 ·intro a ha hK;rw[B2] at ha;exact H8 _ (ha▸ok.kl a hK)
 ·intro p hp
  rcases B9.mp hp with q|q
  ·subst q;exact⟨⟨_,_,rfl⟩,ho.1,hlt _ _ ho.2⟩
  ·obtain⟨h1,h2⟩:=hf1 p q
   rw[hid_some] at h1;exact⟨h2,h1.1,hlt _ _ h1.2⟩
 ·rintro k its ⟨o,rfl,h1,h2⟩
  refine⟨rfl,λ p hp=>?_⟩;rw[B2] at hp;subst hp;exact⟨_,_,h1,by decide,h2⟩
 ·rintro k d its s1 hd ⟨o,rfl,h1,h2⟩ hits hob Q E kk
  obtain⟨v,hv,rv⟩:=hl.get hd;have e1:=hits _ (H4 _);have e2:=hob _ A9;refine wpAny_pyNext_tuple_item (items:=vs.toArray) ⟨o,e1,h1,h2⟩ (hT e2) (by simpa using hv) λ h' hit' hs'=>⟨v,rfl,?_⟩
  obtain⟨o',g1,g2,g3⟩:=hit';refine zcs (T:= "tuple_iterator") g1 g2 (by decide) ?_
  refine kk v _ [(_,o')] (Mv.same (tk:=s1.toks) hs') ⟨o',rfl,g2,g3⟩ (λ p hp=>by rw[B2] at hp;subst hp;exact g1) ⟨fo,λ p hp=> .inl (B1 _ hp),λ g' hg=>?_⟩
  obtain⟨v',hv',rv'⟩:=(hf2 g' hg).get hd;rw[hv] at hv';cases hv';exact rv'
 ·rintro its s1 ⟨o,rfl,h1,h2⟩ hits hob hhd Q E kk
  have e1:=hits _ (H4 _);have e2:=hob _ A9;refine Q4 (wpAny_pyNext_tuple_end (items:=vs.toArray) hh ⟨o,e1,h1,h2⟩ (hT e2) (by simp[el]) λ h' hs' hz=>?_)
  exact kk _ (Mv.ext (tk:=s1.toks) hs' hz)
 ·rintro k its s1 ⟨o,rfl,h1,h2⟩ hits Q E q
  exact wpAny_pyIter_tupleiter ⟨o,hits _ (H4 _),h1,h2⟩ q
 ·intro p hp
  rcases B9.mp hp with q|q
  ·subst q;exact D8 _ rfl
  ·refine C3 _ ?_
   rcases B9.mp q with q|q
   ·subst q;exact ho.2
   ·have:=(hf1 p q).1;rw[hid_some] at this;exact this.2
noncomputable def Q3 (a:Int)(n:Nat):List D:=(G2 n).map λ i:Nat=> .int (a+i)
theorem zhi {a:Int}{n k:Nat}{d:D}(h:(Q3 a n)[k]? =some d):k<n/\d= .int (a+k):=by
 unfold Q3 at h;rw[B7] at h;by_cases q:k<n
 ·rw[N6 q] at h;cases h;exact⟨q,rfl⟩
 ·rw[H9 (by simp;omega)] at h;cases h
theorem zs5 {A:H2}{K:List Addr}{t:Expr}{r:Addr}{a b:Int}{t1 t2 t3:Tok}{n:Nat}{Q E:Value->A8->Prop}(hh:A.handled=none)(kl: ∀a∈K,a<s.heap.objs.size)
 (hr:IsRange s.heap r a b 1 t1 t2 t3)(hn:zmq a b 1=n)(hsm:zhe a b 1=true)
 (k: ∀it s' wr gw St ob gs,Go s s'->Itr G w A K t it (Q3 a n) s.heap.objs.size s.gens.size wr gw St->St 0 ob gs->(∀p∈ob,s'.heap.get? p.1=some p.2)->(∀p∈gs,s'.gens[p.1]? =some p.2)->Q it s'):
 D0 (D1 pw w) A (zj8 (.ref r)) Q E s:=by
 refine wpAny_pyIter_range hr hsm ?_;rw[hn]
 let obj:Nat->Obj:=λ k=>{cls:= .type "range_iterator",dict:=none,data:= .fields #[I6 (a+k),I6 ((n:Int)-k),I6 1],slots:= #[]}
 refine k _ _ [s.heap.objs.size] [] _ [(s.heap.objs.size,obj 0)] [] (Z0 s _)
  (Itr.seq [] (λ k its=>its=[(s.heap.objs.size,obj k)]) ?_ ?_ ?_ ?_ ?_ ?_ ?_) ⟨rfl,[_],rfl,rfl⟩ ?_ (λ p hp=>nomatch hp)
 ·intro a ha;rw[B2] at ha;exact Q0 ha.symm
 ·intro a ha hK;rw[B2] at ha;exact H8 _ (ha▸kl a hK)
 ·exact λ p hp=>nomatch hp
 ·rintro k its rfl
  refine⟨rfl,λ p hp=>?_⟩;rw[B2] at hp;subst hp;exact⟨_,_,rfl,by decide,rfl⟩
 ·rintro k d its s1 hd rfl hits hob Q E kk
  obtain⟨hk,rfl⟩:=zhi hd;have e1:IsRangeIter s1.heap s.heap.objs.size (a+k) ((n:Int)-k) 1:=hits _ (H4 _);refine wpAny_pyNext_range_item e1 (by omega) λ h' hit' hs'=>⟨_,rfl,?_⟩
  refine zcs (T:= "range_iterator") hit' rfl (by decide) ?_
  refine kk _ _ [(_,obj (k+1))] (Mv.same (tk:=s1.toks+1) hs') rfl (λ p hp=>?_) ⟨[],λ p hp=>(nomatch hp),λ z z=> .int'⟩
  rw[B2] at hp;subst hp;have:obj (k+1)={cls:= .type "range_iterator",dict:=none,data:= .fields #[I6 (a+k+1),I6 ((n:Int)-k-1),I6 1],slots:= #[]}:=by
   simp only[obj];rw[show a+((k+1:Nat):Int)=a+k+1 by omega,show(n:Int)-((k+1:Nat):Int)=n-k-1 by omega]
  rw[this];exact hit'
 ·rintro its s1 rfl hits hob hhd Q E kk
  have hl:(Q3 a n).length=n:=by simp[Q3]
  rw[hl] at hits;have e1:IsRangeIter s1.heap s.heap.objs.size (a+n) ((n:Int)-n) 1:=hits _ (H4 _);refine Q4 (wpAny_pyNext_range_end hh e1 (by omega) λ h' hs' hz=>?_)
  exact kk _ (Mv.ext (tk:=s1.toks) hs' hz)
 ·rintro k its s1 rfl hits Q E q
  exact wpAny_pyIter_rangeiter (hits _ (H4 _)) q
 ·intro p hp
  rw[B2] at hp;subst hp;have:obj 0={cls:= .type "range_iterator",data:= .fields #[I6 a,I6 (n:Int),I6 1]}:=by
   simp only[obj];rw[show a+((0:Nat):Int)=a by omega,show(n:Int)-((0:Nat):Int)=n by omega]
  rw[this];exact D8 _ rfl
theorem zl4 {a b:Int}(ha: -(2^60)<=a)(ha':a<=2^60)(hb: -(2^60)<=b)(hb':b<=2^60):zhe a b 1=true:=by
 have hz:zmq a b 1=if a<b then b-a else 0:=zy4 a b;unfold zhe Builtin.Range.rangeFitsLong;rw[hz];have fa:=ye2 ha ha';have fb:=ye2 hb hb';split<;>simp
 ·next h=>exact⟨⟨⟨fa,fb⟩,E1 (by decide) (Y2 (za2 h)),V8 (zcg hb' ha) (by decide)⟩,.inr fb⟩
 ·exact⟨fa,fb⟩
theorem Iv.range1 {t:Expr}{p ps:Pos}{e:Expr}{n:Int}(hh:c.A.handled=none)(hf:Nv G w c (.Name "range" p) (.type "range"))(ha:As G w c H V true [e] [.int n])(hn:n<=2^60)(hn': -(2^60)<=n):
 Iv G w c H V t (.Call (.Name "range" p) [e] [] ps) (Q3 0 n.toNat):=by
 refine⟨λ s F Q E k=>?_⟩
 with_reducible refine L0 (hf.h H V s F _ _ (O7 (ha.ns _) (N2 (ha.ns _) (ha.h _ s F _ _ λ vs s1 g1 r1=>?_))))
 obtain⟨v,rfl,rv⟩:=zc0 r1;obtain⟨u,rfl⟩:=rv.int_inv;refine call_range_1 ?_;have g2:Go s1 {s1 with heap:=s1.heap.push {cls:= .type "range",data:= .fields #[.int 0 s1.toks,.int n u,.int 1 (s1.toks+1)]},toks:=s1.toks+1+1}:=zmn s1 _ _;refine zs5 (G:=G) (t:=t) hh (((F.onto g1).onto g2).okS true).kl (IsRange.new ..) (n:=n.toNat) (by rw[zy4];split<;>omega) (zl4 (by omega) (by omega) hn' hn) λ it s' wr gw St ob gs g3 I st ho hg=>?_
 exact k it s' wr gw St ob gs ((g1.trans g2).trans g3) (I.le (g1.trans g2).size (g1.trans g2).gle) st ho hg
theorem Iv.range2 {t:Expr}{p ps:Pos}{e1 e2:Expr}{a b:Int}(hh:c.A.handled=none)(hf:Nv G w c (.Name "range" p) (.type "range"))(ha:As G w c H V true [e1,e2] [.int a,.int b])(ha1: -(2^60)<=a)(ha2:a<=2^60)(hb1: -(2^60)<=b)(hb2:b<=2^60):
 Iv G w c H V t (.Call (.Name "range" p) [e1,e2] [] ps) (Q3 a (b-a).toNat):=by
 refine⟨λ s F Q E k=>?_⟩
 with_reducible refine L0 (hf.h H V s F _ _ (O7 (ha.ns _) (N2 (ha.ns _) (ha.h _ s F _ _ λ vs s1 g1 r1=>?_))))
 obtain⟨v,v',rfl,rv,rv'⟩:=zkp r1;obtain⟨u,rfl⟩:=rv.int_inv;obtain⟨u',rfl⟩:=rv'.int_inv;refine call_range_2 ?_;have g2:Go s1 {s1 with heap:=s1.heap.push {cls:= .type "range",data:= .fields #[.int a u,.int b u',.int 1 s1.toks]},toks:=s1.toks+1}:=zmn s1 _ _;refine zs5 (G:=G) (t:=t) hh (((F.onto g1).onto g2).okS true).kl (IsRange.new ..) (n:=(b-a).toNat) (by rw[zy4];split<;>omega) (zl4 ha1 ha2 hb1 hb2) λ it s' wr gw St ob gs g3 I st ho hg=>?_
 exact k it s' wr gw St ob gs ((g1.trans g2).trans g3) (I.le (g1.trans g2).size (g1.trans g2).gle) st ho hg
noncomputable def zkx (x:Str):List D:=x.cps.toList.map λ c=> .str ⟨#[c]⟩
theorem Ib.str {t:Expr}{x:Str}:Ib G w t (.str x) (zkx x):=by
 refine⟨λ A K s v hh ok r Q E k=>?_⟩;obtain⟨tk,rfl⟩:=r.str_inv;have main: ∀T:String,T= "str_iterator"\/T= "str_ascii_iterator"->
  (∀(s1:A8) (i c:Nat) (Q:Option Value->A8->Prop) (E:Value->A8->Prop),s1.heap.IsStrIter s.heap.objs.size T x tk i->x.cps[i]? =some c->
    (∀h',h'.IsStrIter s.heap.objs.size T x tk (i+1)->P2 s.heap.objs.size s1.heap h'->Q (some (.str ⟨#[c]⟩ s1.toks)) {s1 with heap:=h',toks:=s1.toks+1})->D0 (D1 pw w) A (zbh (.ref s.heap.objs.size)) Q E s1)->
  (∀(s1:A8) (i:Nat) (Q:Option Value->A8->Prop) (E:Value->A8->Prop),s1.heap.IsStrIter s.heap.objs.size T x tk i->x.cps[i]? =none->(∀h',zbr s.heap.objs.size s1.heap h'->Q none {s1 with heap:=h'})->D0 (D1 pw w) A (zbh (.ref s.heap.objs.size)) Q E s1)->
  (∀(s1:A8) (i:Nat) (Q E:Value->A8->Prop),s1.heap.IsStrIter s.heap.objs.size T x tk i->Q (.ref s.heap.objs.size) s1->D0 (D1 pw w) A (zj8 (.ref s.heap.objs.size)) Q E s1)->
  Q (.ref s.heap.objs.size) {s with heap:=s.heap.push {cls:= .type T,data:= .fields #[.str x tk,.int 0 0]}}:=by
  intro T hT hn hf hsl;have hsp:["enumerate","zip","dict_itemiterator","dict_reverseitemiterator","odict_iterator","itertools.zip_longest","itertools.pairwise"].contains T=false/\T≠ "code":=by
   rcases hT with rfl|rfl<;>decide
  refine k _ _ [s.heap.objs.size] [] _ [(s.heap.objs.size,{cls:= .type T,data:= .fields #[.str x tk,.int 0 0]})] [] (Z0 s _)
   (Itr.seq [] (λ k its=> ∃o,its=[(s.heap.objs.size,o)]/\o.cls= .type T/\o.data= .fields #[.str x tk,.int k 0]) ?_ ?_ ?_ ?_ ?_ ?_ ?_) ⟨rfl,[_],rfl,_,rfl,rfl,rfl⟩ ?_ (λ p hp=>nomatch hp)
  ·intro a ha;rw[B2] at ha;exact Q0 ha.symm
  ·intro a ha hK;rw[B2] at ha;exact H8 _ (ha▸ok.kl a hK)
  ·exact λ p hp=>nomatch hp
  ·rintro k its ⟨o,rfl,h1,h2⟩
   refine⟨rfl,λ p hp=>?_⟩;rw[B2] at hp;subst hp;exact⟨_,_,h1,hsp.2,h2⟩
  ·rintro k d its s1 hd ⟨o,rfl,h1,h2⟩ hits hob Q E kk
   have hd': ∃c,x.cps[k]? =some c/\d= .str ⟨#[c]⟩:=by
    unfold zkx at hd;rw[B7,zi1] at hd
    cases q:x.cps[k]? with
    |none=>rw[q] at hd;cases hd
    |some c=>rw[q] at hd;cases hd;exact⟨c,rfl,rfl⟩
   obtain⟨c,hc,rfl⟩:=hd';refine hn s1 k c _ _ ⟨o,hits _ (H4 _),h1,h2⟩ hc λ h' hit' hs'=>⟨_,rfl,?_⟩;obtain⟨o',g1,g2,g3⟩:=hit';refine zcs g1 g2 hsp.1 ?_;exact kk _ _ [(_,o')] (Mv.same (tk:=s1.toks+1) hs') ⟨o',rfl,g2,g3⟩ (λ p hp=>by rw[B2] at hp;subst hp;exact g1) ⟨[],λ p hp=>(nomatch hp),λ z z=> .str'⟩
  ·rintro its s1 ⟨o,rfl,h1,h2⟩ hits hob hhd Q E kk
   refine Q4 (hf s1 _ _ _ ⟨o,hits _ (H4 _),h1,h2⟩ (by simp[zkx]) λ h' hs' hz=>?_)
   exact kk _ (Mv.ext (tk:=s1.toks) hs' hz)
  ·rintro k its s1 ⟨o,rfl,h1,h2⟩ hits Q E q
   exact hsl s1 k _ _ ⟨o,hits _ (H4 _),h1,h2⟩ q
  ·intro p hp
   rw[B2] at hp;subst hp;exact D8 _ rfl
 cases ha:x.cps.all (· <128)
 ·exact wpAny_pyIter_wide ha (main _ (.inl rfl) (λ s1 i c Q E h1 h2 h3=>wpAny_pyNext_wide_item h1 h2 h3) (λ s1 i Q E h1 h2 h3=>wpAny_pyNext_wide_end hh h1 h2 h3) λ s1 i Q E h1 h2=>wpAny_pyIter_striter_wide h1 h2)
 ·exact wpAny_pyIter_ascii ha (main _ (.inr rfl) (λ s1 i c Q E h1 h2 h3=>wpAny_pyNext_ascii_item h1 h2 h3) (λ s1 i Q E h1 h2 h3=>wpAny_pyNext_ascii_end hh h1 h2 h3) λ s1 i Q E h1 h2=>wpAny_pyIter_striter_ascii h1 h2)
end
open Internal.Iv renaming range1->zbz
theorem zcc (names:List (Str×X6)): ∀(n:Nat) (acc:List (Str×Addr)),T0 n names acc=T0 n names []++acc:=by
 induction names with
 |nil=>exact λ n acc=>rfl
 |cons y r ih=>
  intro n acc;show(if y.2== .cell then T0 (n+1) r ((y.1,n)::acc) else T0 n r acc)=(if y.2== .cell then T0 (n+1) r [(y.1,n)] else T0 n r [])++acc;split
  ·rw[ih (n+1) ((y.1,n)::acc),ih (n+1) [(y.1,n)],J3];rfl
  ·exact ih n acc
theorem znb (names:List (Str×X6)): ∀(h:P9),h.objs.size<=(zdp h names).objs.size:=by
 induction names with
 |nil=>exact λ h=>D2 _
 |cons y r ih=>
  intro h;unfold zdp;split
  ·exact A7 (by rw[G8];exact L6 _) (ih _)
  ·exact ih h
noncomputable def ziq (env:Env):List (Str×X6)->List (Str×Addr)->List (Str×Addr)
 |[],acc=>acc
 |(n,k)::r,acc=>if k== .free then ziq env r ((n,(env.cells.lookup n).getD 0)::acc) else ziq env r acc
theorem zn1 (env:Env)(y:Str×X6)(r:List (Str×X6))(acc:List (Str×Addr)):ziq env (y::r) acc=if y.2== .free then ziq env r ((y.1,(env.cells.lookup y.1).getD 0)::acc) else ziq env r acc:=rfl
theorem zo2 (env:Env)(names:List (Str×X6)): ∀(acc:List (Str×Addr)),ziq env names acc=ziq env names []++acc:=by
 induction names with
 |nil=>exact λ acc=>rfl
 |cons y r ih=>
  intro acc;rw[zn1,zn1];split
  ·rw[ih ((y.1,_)::acc),ih [(y.1,_)],J3];rfl
  ·exact ih acc
theorem zlo {env:Env}{x:Str}{a:Addr}{names:List (Str×X6)}:(x,a)∈ziq env names []->(x,P7)∈names/\a=(env.cells.lookup x).getD 0:=by
 induction names with
 |nil=>exact noM
 |cons y r ih=>
  intro h;have k:=λ h=>And.imp_left (B1 y) (ih h);rw[zn1] at h;split at h
  ·rename_i hk
   rw[zo2] at h;rcases G1.mp h with h|h
   ·exact k h
   ·cases B2.mp h
    exact⟨beq_iff_eq.mp hk▸A9,rfl⟩
  ·exact k h
theorem yae {env:Env}{x:Str}{names:List (Str×X6)}:(x,P7)∈names->(x,(env.cells.lookup x).getD 0)∈ziq env names []:=by
 induction names with
 |nil=>exact noM
 |cons y r ih=>
  intro h;rw[zn1];split
  ·rw[zo2]
   rcases B9.mp h with e|h
   ·rw[<-e];exact D4 _ (H4 _)
   ·exact D3 _ (ih h)
  ·rename_i hk
   rcases B9.mp h with e|h
   ·rw[<-e] at hk;exact absurd rfl hk
   ·exact ih h
theorem zf3 {sc:Scope}{env:Env}(h: ∀x,(x,P7)∈sc.names-> ∃a,env.cells.lookup x=some a):closureFor sc env=pure (ziq env sc.names []):=by
 unfold closureFor;have main: ∀(names:List (Str×X6)) (acc:List (Str×Addr)),(∀x,(x,P7)∈names-> ∃a,env.cells.lookup x=some a)->
  (zzw names acc λ x r=>(match x with|(name,kind)=>if(kind== .free)=true then(do let a <-cellOf env name;pure (zaf ((name,a)::r))) else pure (zaf r):Sem (ForInStep (List (Str×Addr)))))=pure (ziq env names acc):=by
  intro names
  induction names with
  |nil=>intro acc _;rfl
  |cons y r ih=>
   obtain⟨y,k⟩:=y;intro acc hf;rw[zbv,zn1];by_cases hk:(k==P7)=true
   ·have hk':k= .free:=by simpa using hk
    subst hk';obtain⟨a,ha⟩:=hf y A9;simp only[if_true,beq_self_eq_true];have:cellOf env y=pure a:=by unfold cellOf;rw[ha]
    rw[this,ha];simp only[pure_bind];exact ih _ λ x hx=>hf x (B1 _ hx)
   ·simp only[hk,if_false,pure_bind,V7]
    exact ih _ λ x hx=>hf x (B1 _ hx)
 have:=main sc.names [] h;simpa using this
theorem zmb {A:H2}{E:Value->A8->Prop}{s:A8}{sc:Scope}{env:Env}{cl:List (Str×Addr)}{Q:Env->A8->Prop}
 (h:Q (newEnv sc s.heap.objs.size env.globals (T0 (s.heap.objs.size+1) sc.names cl) env.qual none .none (some env) zqu) {s with heap:=zdp (s.heap.push {cls:= .type "dict",data:= .dict #[]}) sc.names}):
 D0 (D1 pw w) A (newFunctionEnv sc env.globals cl [] env.qual none .none (some env)) Q E s:=by
 simp only[newFunctionEnv,Option.isSome_some,if_true];refine B0 (zt7 ?_);refine B0 (wpAny_layCells _ (λ name kind cells=>by cases hkc:kind==zcv<;>simp[hkc]) _ _ _ _ ?_)
 rw[show({s with heap:=s.heap.push {cls:= .type "dict",data:= .dict #[]}}:A8).heap.objs.size=s.heap.objs.size+1 from G8 ..]
 simp only[zrl,pure_bind];exact C4 h
theorem znc {env:Env}{names:List (Str×X6)}{x:Str}{k:X6}(h:names.lookup x=some k):
 (names.map λ(n,k)=>if(k==P7&&env.scope.kind== .function&&env.kindOf n==some .cell) then(n,zcv) else(n,k)).lookup x=some (if(k==P7&&env.scope.kind== .function&&env.kindOf x==some .cell) then .cell else k):=by
 induction names with
 |nil=>cases h
 |cons y r ih=>
  obtain⟨n,k'⟩:=y;show List.lookup x ((if(k'==P7&&env.scope.kind== .function&&env.kindOf n==some .cell)=true then(n,zcv) else(n,k'))::_)=_
  cases hx:x==n with
  |true=>
   simp only[zal,hx] at h;cases h;have:=beq_iff_eq.mp hx;subst this;split<;>simp[zal]
  |false=>
   simp only[zal,hx] at h;split<;> ·simp only[zal,hx];exact ih h
structure Sco (c:Cx)(sc:Scope)(lo:List Str)(kx:List Bool)(fr:List Nat)(gn:List (Str×Value)):Prop where
 kind:sc.kind= .function
 nd:(sc.names.map (·.1)).Nodup
 lok: ∀(i:Nat) x,lo[i]? =some x->(kx[i]? =some false/\sc.names.lookup x=some .local)\/(kx[i]? =some true/\sc.names.lookup x=some .cell)
 len:kx.length=lo.length
 frk: ∀j∈fr,∃x,c.nm[j]? =some x/\c.kl[j]? =some true/\sc.names.lookup x=some .free
 all: ∀x,(x,P7)∈sc.names-> ∃j∈fr,c.nm[j]? =some x
 nmd:(lo++fr.map λ j=>c.nm.getD j zfl).Nodup
 dbg: ∀x∈lo,(x==("__debug__":Str))=false/\(x==("__classdict__":Str))=false
 gns: ∀p∈gn,(p∈c.gn\/p∈xtr)/\sc.names.lookup p.1=some .globalImplicit
noncomputable def zii (nm:List Str)(kl:List Bool)(gs:List Str)(sc:Scope)(lo:List Str)(kx:List Bool)(fr gj:List Nat):Bool:=
 decide (sc.kind= .function)&&decide (sc.names.map (·.1)).Nodup&&decide (kx.length=lo.length)&&
 ((lo.zip kx).all λ p=>decide (sc.names.lookup p.1=some (if p.2 then .cell else .local)))&&
 (fr.all λ j=>match nm[j]? with|some x=>decide (kl[j]? =some true)&&decide (sc.names.lookup x=some .free)|none=>false)&&
 (sc.names.all λ p=>decide (p.2≠ .free)||fr.any λ j=>decide (nm[j]? =some p.1))&&
 decide (lo++fr.map λ j=>nm.getD j zfl).Nodup&&(lo.all λ x=> !(x==("__debug__":Str))&& !(x==("__classdict__":Str)))&&
 gj.all λ j=>match gs[j]? with|some x=>decide (sc.names.lookup x=some .globalImplicit)|none=>false
theorem Sco.of {c:Cx}{sc:Scope}{lo:List Str}{kx:List Bool}{fr gj:List Nat}(h:zii c.nm c.kl (c.gn.map (·.1)) sc lo kx fr gj=true):Sco c sc lo kx fr (gj.filterMap λ j=>c.gn[j]?):=by
 unfold zii at h;simp only[O2,decide_eq_true_eq] at h;obtain⟨⟨⟨⟨⟨⟨⟨⟨h1,h2⟩,h3⟩,h4⟩,h5⟩,h6⟩,h7⟩,h8⟩,h9⟩:=h;refine⟨h1,h2,λ i x hx=>?_,h3,λ j hj=>?_,λ x hx=>?_,h7,λ x hx=>?_,λ p hp=>?_⟩
 ·have hi:=(C7.mp hx).1
  have hb:kx[i]? =some kx[i]:=B3 (by omega)
  have hz:(x,kx[i])∈lo.zip kx:=by
   refine K4.mpr ⟨i,?_⟩;rw[O8];exact⟨hx,hb⟩
  have:=K5.mp h4 _ hz;simp only[decide_eq_true_eq] at this
  cases q:kx[i] with
  |false=>rw[q] at this;exact .inl ⟨by rw[hb,q],by simpa using this⟩
  |true=>rw[q] at this;exact .inr ⟨by rw[hb,q],by simpa using this⟩
 ·have:=K5.mp h5 j hj
  cases q:c.nm[j]? with
  |none=>rw[q] at this;cases this
  |some x=>
   rw[q] at this;simp only[O2,decide_eq_true_eq] at this;exact⟨x,rfl,this⟩
 ·have:=K5.mp h6 _ hx
  simp only[ne_eq,not_true,decide_false,Bool.false_or,List.any_eq_true,decide_eq_true_eq] at this;exact this
 ·have:=K5.mp h8 x hx
  simpa using this
 ·obtain⟨j,hj,e⟩:=T5.mp hp
  have:=K5.mp h9 j hj;rw[B7,e] at this;exact⟨.inl (A6 e),by simpa using this⟩
open Internal.Sco renaming of->zbu
theorem Sco.ofX {c:Cx}{sc:Scope}{lo:List Str}{kx:List Bool}{fr gj:List Nat}(xj:List Nat)(h:zii c.nm c.kl (c.gn.map (·.1)) sc lo kx fr gj=true)(hx:(xj.all λ j=>match xtr[j]? with|some p=>decide (sc.names.lookup p.1=some .globalImplicit)|none=>false)=true):
 Sco c sc lo kx fr ((gj.filterMap λ j=>c.gn[j]?)++xj.filterMap λ j=>xtr[j]?):=by
 have S:=zbu (c:=c) (gj:=gj) h;refine⟨S.kind,S.nd,S.lok,S.len,S.frk,S.all,S.nmd,S.dbg,λ p hp=>?_⟩;rcases G1.mp hp with hp|hp
 ·exact S.gns p hp
 ·obtain⟨j,hj,e⟩:=T5.mp hp
  have:=K5.mp hx j hj;rw[e] at this;exact⟨.inr (A6 e),by simpa using this⟩
theorem zcb {α:Type}{x:Str}{a:α}{l:List (Str×α)}:(l.map (·.1)).Nodup->(x,a)∈l->l.lookup x=some a:=by
 induction l with
 |nil=>exact λ z=>noM
 |cons y r ih=>
  intro hn h;rw[E5,za5] at hn;rw[zal];rcases B9.mp h with e|h
  ·rw[<-e,beq_self_eq_true]
  ·rw[show(x==y.1)=false from beq_eq_false_iff_ne.mpr λ e=>hn.1 (e▸I4 (f:=(·.1)) h)]
   exact ih hn.2 h
theorem zjt {x:Str}{a:Addr}{names:List (Str×X6)}: ∀{n:Nat},(x,a)∈T0 n names []->(x,zcv)∈names/\n<=a:=by
 induction names with
 |nil=>exact noM
 |cons y r ih=>
  intro n h;have h:(x,a)∈if y.2== .cell then T0 (n+1) r [(y.1,n)] else T0 n r []:=h;split at h
  ·rename_i hk
   rw[zcc] at h;rcases G1.mp h with h|h
   ·exact⟨B1 _ (ih h).1,zdw (ih h).2⟩
   ·cases B2.mp h
    exact⟨beq_iff_eq.mp hk▸A9,D2 _⟩
  ·exact⟨B1 _ (ih h).1,(ih h).2⟩
noncomputable def cc (c:Cx)(sc:Scope)(L:Addr)(lo:List Str)(kx:List Bool)(fr:List Nat)(gn:List (Str×Value))(b:A8):Cx:=
 {A:=c.A,env:={scope:=relabel sc c.env,locals:=L,globals:=c.env.globals,cells:=T0 (L+1) sc.names (ziq c.env sc.names []),qual:=c.env.qual,func:=none,code:=c.env.code,frame:=c.env.frame,builtins:=c.env.builtins},
  b:=b,K:=c.K,nm:=lo++fr.map λ j=>c.nm.getD j zfl,ns:=lo.length,gn:=gn,lv:=c.lv,kl:=kx++fr.map λ z=>true,wr:=[],dk:=c.dk}
section
variable{G:Gt}{w:E3}{c:Cx}{H:Hm}{V:List (Option D)}{s s':A8}
variable{sc:Scope}{L:Addr}{lo:List Str}{kx:List Bool}{fr:List Nat}{gn:List (Str×Value)}
theorem zis {b:A8}{x:Str}{k:X6}(h:sc.names.lookup x=some k):(cc c sc L lo kx fr gn b).env.kindOf x=some (if(k==P7&&c.env.scope.kind== .function&&c.env.kindOf x==some .cell) then .cell else k):=znc h
theorem zw7 {b:A8}(S:Sco c sc lo kx fr gn){i:Nat}{x:Str}(h:(cc c sc L lo kx fr gn b).nm[i]? =some x):
 (i<lo.length/\lo[i]? =some x)\/(∃j∈fr,lo.length<=i/\fr[i-lo.length]? =some j/\c.nm[j]? =some x/\c.kl[j]? =some true/\sc.names.lookup x=some .free):=by
 change (lo++fr.map λ j=>c.nm.getD j zfl)[i]? =some x at h
 rcases O3 i lo.length with q|q
 ·rw[I3 q] at h;exact .inl ⟨q,h⟩
 ·rw[M0 q,B7] at h
  cases e:fr[i-lo.length]? with
  |none=>rw[e] at h;cases h
  |some j=>
   rw[e] at h;have hj:=A6 e;obtain⟨y,h1,h2,h3⟩:=S.frk j hj;simp only[zak,zck,C8,h1,yap] at h;subst h;exact .inr ⟨j,hj,q,rfl,h1,h2,h3⟩
theorem zw8 {b:A8}{x:Str}{a:Addr}(h:(x,a)∈(cc c sc L lo kx fr gn b).env.cells):((x,zcv)∈sc.names/\L+1<=a)\/((x,P7)∈sc.names/\a=(c.env.cells.lookup x).getD 0):=by
 change (x,a)∈T0 (L+1) sc.names (ziq c.env sc.names []) at h
 rw[zcc] at h;rcases G1.mp h with h|h
 ·exact .inl (zjt h)
 ·exact .inr (zlo h)
theorem zko {b:A8}(S:Sco c sc lo kx fr gn)(ok:COk G c){x:Str}(h:(x,P7)∈sc.names): ∃a,c.env.cells.lookup x=some a/\(cc c sc L lo kx fr gn b).env.cells.lookup x=some a:=by
 obtain⟨j,hj,hx⟩:=S.all x h;obtain⟨y,h1,h2,h3⟩:=S.frk j hj;rw[hx] at h1;cases h1;rcases ok.kd j x hx with⟨q,_⟩|⟨_,_,a,ha⟩
 ·rw[h2] at q;cases q
 refine⟨a,ha,?_⟩;have hm:(x,(c.env.cells.lookup x).getD 0)∈(cc c sc L lo kx fr gn b).env.cells:=by
  change _∈T0 (L+1) sc.names (ziq c.env sc.names [])
  rw[zcc];exact D4 _ (yae h)
 obtain⟨a',ha'⟩:=zds hm;rcases zw8 (mem_of_lookup ha') with⟨q,_⟩|⟨_,q⟩
 ·have e1:=zcb S.nd q
  have e2:=zcb S.nd h;rw[e1] at e2;cases e2
 ·rw[ha',q,ha];rfl
theorem zw4 {env:Env}(hp:env.cells.Pairwise λ x y=>x.2≠y.2){names:List (Str×X6)}:(names.map (·.1)).Nodup->(∀x,(x,P7)∈names-> ∃a,env.cells.lookup x=some a)->(ziq env names []).Pairwise λ x y=>x.2≠y.2:=by
 induction names with
 |nil=>exact λ z z=>ziz
 |cons y r ih=>
  obtain⟨y,k⟩:=y;intro hn hf;rw[E5,za5] at hn;rw[zn1];split
  ·rename_i hk
   obtain rfl:k= .free:=beq_iff_eq.mp hk;rw[zo2,zxs];refine⟨ih hn.2 λ x hx=>hf x (B1 _ hx),List.pairwise_singleton _ _,λ p hp' q hq=>?_⟩;rw[B2] at hq;subst hq;obtain⟨h1,h2⟩:=zlo (x:=p.1) (a:=p.2) hp';obtain⟨a,ha⟩:=hf p.1 (B1 _ h1);obtain⟨b,hb⟩:=hf y A9;rw[h2,ha,hb];simp only[yap];intro e;subst e;have:=name_of_addr hp (mem_of_lookup ha) (mem_of_lookup hb);exact hn.1 (this▸I4 (f:=(·.1)) h1)
  ·exact ih hn.2 λ x hx=>hf x (B1 _ hx)
theorem yfs {b:A8}(S:Sco c sc lo kx fr gn)(F:FrS G c H V b)(hL:b.heap.objs.size<=L):COk G (cc c sc L lo kx fr gn b):=by
 have ok:=F.ok;have hfree: ∀x,(x,P7)∈sc.names-> ∃a,c.env.cells.lookup x=some a:=λ x hx=>let ⟨a,h,_⟩:=zko (G:=G) (L:=L) (b:=b) S ok hx;⟨a,h⟩;refine{rm:=ok.rm,fn:=S.kind,gl:=ok.gl,bi:=ok.bi,lo:=hL,nd:=S.nmd,dbg:=λ x hx=>?_,apart:=?_,own:=λ i x a hi hx ha=>?_,sto:=λ i x hi hx=>?_,kd:=λ i x hx=>?_,gns:=λ p hp=>?_,gnd:=F.gnd,tb:=F.tb,kl:=λ a ha=>C9 (ok.kl a ha) F.go.size,wrq:=λ a h=>(nomatch h),dkq:=λ p hp=>⟨C9 (F.ok.dkq p hp).1 F.go.size,λ h=>(nomatch h),(F.ok.dkq p hp).2.2⟩}
 ·obtain⟨i,hi⟩:=K4.mp hx
  rcases zw7 S hi with⟨_,h⟩|⟨j,_,_,_,h,_⟩
  ·exact S.dbg x (A6 h)
  ·exact ok.dbg x (A6 h)
 ·change (T0 (L+1) sc.names (ziq c.env sc.names [])).Pairwise _
  rw[zcc,zxs];refine⟨?_,zw4 ok.apart S.nd hfree,λ p hp q hq=>?_⟩
  ·have h0: ∃h:P9,h.objs.size=L+1:=⟨{(default:P9) with objs:=R9 (L+1) default},by simp⟩
   obtain⟨h,e⟩:=h0;have:=(cellsFrom_ok sc.names h (L+1) [] ⟨λ z z hm=>(nomatch hm),ziz⟩ (by rw[e];exact D2 _)).apart
   rwa [e] at this
  ·have h1:=(zjt (x:=p.1) (a:=p.2) hp).2
   obtain⟨h2,h3⟩:=zlo (x:=q.1) (a:=q.2) hq;obtain⟨a,ha⟩:=hfree _ h2;rw[ha] at h3;obtain⟨v,o,hv,_⟩:=F.cells _ _ ha;have:=C6 hv;intro e;rw[e,h3] at h1;have:a<L+1:=C9 this (G5 hL);exact absurd this (D7.mpr h1)
 ·rcases zw8 (mem_of_lookup ha) with⟨_,h⟩|⟨h,_⟩
  ·exact A7 hL (zdw h)
  ·exfalso
   have hx':lo[i]? =some x:=by
    rcases zw7 S hx with⟨_,h⟩|⟨j,_,h,_⟩
    ·exact h
    ·exact absurd hi (D7.mpr h)
   have e:=zcb S.nd h;rcases S.lok i x hx' with⟨_,q⟩|⟨_,q⟩<;>(rw[e] at q;cases q)
 ·have hx':lo[i]? =some x:=by
   rcases zw7 S hx with⟨_,h⟩|⟨j,_,h,_⟩
   ·exact h
   ·exact absurd hi (D7.mpr h)
  rcases S.lok i x hx' with⟨_,q⟩|⟨_,q⟩
  ·exact .inl (zis q)
  ·exact .inr (zis q)
 ·rcases zw7 S hx with⟨hi,h⟩|⟨j,hj,hi,he,h,hkl,hlk⟩
  ·have hkx:(cc c sc L lo kx fr gn b).kl[i]? =kx[i]?:=by
    change (kx++_)[i]? =_
    rw[I3 (by rw[S.len];exact hi)]
   rw[hkx];rcases S.lok i x h with⟨q1,q⟩|⟨q1,q⟩
   ·exact .inl ⟨q1,zis q⟩
   ·refine .inr ⟨q1,.inl (zis q),?_⟩
    obtain⟨a,ha⟩:=zf4 (n:=L+1) (acc:=ziq c.env sc.names []) (.inl (mem_of_lookup q));exact zds ha
  ·refine .inr ⟨?_,?_,?_⟩
   ·change (kx++_)[i]? =_
    rw[M0 (by rw[S.len];exact hi),B7,S.len,he];rfl
   ·rw[zis hlk]
    split
    ·exact .inl rfl
    ·exact .inr rfl
   ·obtain⟨a,_,ha⟩:=zko (L:=L) (b:=b) S ok (mem_of_lookup hlk)
    exact⟨a,ha⟩
 ·obtain⟨h1,h2⟩:=S.gns p hp
  refine⟨zis h2,?_⟩;rcases h1 with h1|h1
  ·exact(ok.gns p h1).2
  ·exact⟨yb3 p h1,ok.gnd.xt p h1⟩
end
section
variable{G:Gt}{w:E3}{c:Cx}{H:Hm}{V:List (Option D)}{s s':A8}
variable{sc:Scope}{L:Addr}{lo:List Str}{kx:List Bool}{fr:List Nat}{gn:List (Str×Value)}
noncomputable def cV (lo:List Str)(fr:List Nat)(V:List (Option D)):List (Option D):=lo.map (λ z=>none)++fr.map λ j=>(V[j]?).getD none
theorem FrS.weak {V':List (Option D)}(F:FrS G c H V s)(h: ∀(i:Nat) d,V'[i]? =some (some d)->V[i]? =some (some d)):FrS G c H V' s:=
 {F with vars:=λ i x d h1 h2=>F.vars i x d h1 (h i d h2)}
theorem zts {b s2:A8}{ob:Obs}{gs:zst}(S:Sco c sc lo kx fr gn)(F:FrS G c H V b)(g:Go b s2)(F2:FrS G c (H.with ob gs) V s2)(hgs: ∀p∈gs,b.gens.size<=p.1):
 FrS G (cc c sc (s2.heap.objs.size+1) lo kx fr gn b) ⟨(s2.heap.objs.size,[])::H.own,ob++H.fix,gs⟩ (cV lo fr V)
  {s2 with heap:=zdp ((s2.heap.push (M8 [] 0)).push {cls:= .type "dict",data:= .dict #[]}) sc.names}:=by
 generalize hh2:s2.heap.push (M8 [] 0)=h2;generalize hh3:h2.push {cls:= .type "dict",data:= .dict #[]}=h3;have z2:h2.objs.size=s2.heap.objs.size+1:=by rw[<-hh2,G8]
 have z3:h3.objs.size=s2.heap.objs.size+1+1:=by rw[<-hh3,G8,z2]
 have k3: ∀a o,s2.heap.get? a=some o->h3.get? a=some o:=λ a o e=>by rw[<-hh3];refine C3 _ ?_;rw[<-hh2];exact C3 _ e
 have k4: ∀a o,s2.heap.get? a=some o->(zdp h3 sc.names).get? a=some o:=λ a o e=>zuf _ _ _ _ (k3 a o e);have zz:=znb sc.names h3;have g4:Go s2 {s2 with heap:=zdp h3 sc.names}:=Go.of k4 (A7 (by omega) zz) rfl rfl
 have eD:(zdp h3 sc.names).get? s2.heap.objs.size=some (M8 [] 0):=by
  refine zuf _ _ _ _ ?_;rw[<-hh3];refine C3 _ ?_;rw[<-hh2];exact D8 _ rfl
 have F4:=F2.onto g4;have hbL:b.heap.objs.size<=s2.heap.objs.size+1:=G5 g.size;have ok4:=yfs S F hbL;have okc:=F.ok;have nsC:(zdp h3 sc.names).Ns (s2.heap.objs.size+1) λ z=>none:=by
  refine Heap.Ns.keeps ?_ (zuf _ _);have:=Heap.Ns.new h2 (.type "dict");rw[hh3,z2] at this;exact this
 have hkk: ∀a,a∈hk (cc c sc (s2.heap.objs.size+1) lo kx fr gn b) ⟨(s2.heap.objs.size,[])::H.own,ob++H.fix,gs⟩ true->a∈s2.heap.objs.size::hk c H true:=by
  intro a ha;rcases G1.mp ha with h|h
  ·exact B1 _ (D3 _ h)
  ·rcases B9.mp h with h|h
   ·rw[h];exact A9
   ·exact B1 _ (D4 _ h)
 have rp: ∀b' o,Sq o->hid (hk c H true) s2.heap b'=some o->hid (hk (cc c sc (s2.heap.objs.size+1) lo kx fr gn b) ⟨(s2.heap.objs.size,[])::H.own,ob++H.fix,gs⟩ true) (zdp h3 sc.names) b'=some o:=by
  intro b' o _ e;rw[hid_some] at e ⊢;refine⟨λ q=>?_,k4 _ _ e.2⟩;rcases B9.mp (hkk b' q) with q|q
  ·subst q;exact absurd (C6 e.2) (H8 _)
  ·exact e.1 q
 refine{ok:=ok4,go:=(g.trans g4).toW,ns:=⟨_,nsC⟩,vars:=λ i x d h1 hv=>?_,own:=λ a ds h=>?_,olo:=λ p h=>?_,ond:=?_,fix:=λ a o h=>?_,gen:=λ p h=>?_,cells:=λ x a h=>?_,hdA:=F4.hdA,dk:=F4.dk}
 ·rcases zw7 S h1 with⟨hi,_⟩|⟨j,hj,hi,he,hx,hkl,hlk⟩
  ·unfold cV at hv
   rw[I3 (by simpa using hi),B7] at hv
   cases q:lo[i]? with
   |none=>rw[q] at hv;cases hv
   |some y=>rw[q] at hv;cases hv
  ·have hv':V[j]? =some (some d):=by
    unfold cV at hv;rw[M0 (by simpa using hi),B5,B7,he] at hv
    simp only[zak,zck] at hv
    cases q:V[j]? with
    |none=>rw[q] at hv;cases hv
    |some y=>rw[q] at hv;simpa using hv
   obtain⟨v,h3,h4⟩:=F2.vars j x d hx hv';refine⟨v,?_,zeo rp _ _ h4⟩;obtain⟨a,ha,ha'⟩:=zko (G:=G) (L:=s2.heap.objs.size+1) (b:=b) S okc (mem_of_lookup hlk);rcases okc.kd j x hx with⟨q,_⟩|⟨_,hkd,_⟩
   ·rw[hkl] at q;cases q
   cases h3 with
   |loc hk m hn hm=>rcases hkd with q|q<;>(rw[hk] at q;cases q)
   |cel hk a' hc hv=>
    rw[ha] at hc;cases hc;have hvc:=zfr.go hv g4 F2.tb;refine .cel ?_ a ha' hvc;rw[zis hlk];split
    ·exact .inl rfl
    ·exact .inr rfl
 ·rcases B9.mp h with h|h
  ·cases h;exact⟨_,[],eD,zho _ _,Z8⟩
  ·obtain⟨o,us,h1,h2,h3⟩:=F2.own a ds h
   exact⟨o,us,k4 _ _ h1,h2,za4 rp _ _ h3⟩
 ·rcases B9.mp h with h|h
  ·subst h
   exact λ q=>absurd (C9 (okc.kl _ q) (A7 F.go.size g.size)) (H8 _)
  ·exact F.olo p h
 ·show(s2.heap.objs.size::H.own.map (·.1)).Nodup
  refine za5.mpr ⟨λ q=>?_,F.ond⟩;obtain⟨⟨b',es⟩,hp,e⟩:=C5.mp q;obtain⟨o,us,h1,_⟩:=F2.own b' es hp;have:=C6 h1;rw[show b'=s2.heap.objs.size from e] at this
  exact H8 _ this
 ·obtain⟨h1,h2,h3,h4,h5⟩:=F4.fix a o h
  obtain⟨e1,_⟩:=F2.fix a o h;have hlt:=C6 e1;refine⟨h1,h2,h3,λ q=>?_,λ q=>?_⟩
  ·have:a=s2.heap.objs.size+1:=q
   rw[this] at hlt;exact absurd hlt (D7.mpr (L6 _))
  ·rcases B9.mp q with q|q
   ·rw[show a=s2.heap.objs.size from q] at hlt;exact H8 _ hlt
   ·exact h5 q
 ·exact⟨(F4.gen p (D3 _ h)).1,hgs p h⟩
 ·rcases zw8 (mem_of_lookup h) with⟨q,h1⟩|⟨q,h1⟩
  ·have ok:=(cellsFrom_ok sc.names h3 (s2.heap.objs.size+1+1) [] ⟨λ z z hm=>(nomatch hm),ziz⟩ (by rw[z3];exact D2 _))
   rw[z3] at ok;have hm:=mem_of_lookup h
   change (x,a)∈T0 (s2.heap.objs.size+1+1) sc.names (ziq c.env sc.names []) at hm
   rw[zcc] at hm;rcases G1.mp hm with hm|hm
   ·exact⟨_,(ok.empty x a hm).1⟩
   ·have e1:=zcb S.nd q
    have e2:=zcb S.nd (zlo hm).1;rw[e1] at e2;cases e2
  ·obtain⟨a',ha,ha'⟩:=zko (G:=G) (L:=s2.heap.objs.size+1) (b:=b) S okc q
   rw[ha'] at h;cases h;exact F4.cells x _ ha
structure Tl (G:Gt)(w:E3)(c:Cx)(H:Hm)(V:List (Option D))(ifs:List Expr)(p:Bool):Prop where
 h: ∀s,FrS G c H V s-> ∀(Q:Bool->A8->Prop) (E:Value->A8->Prop),(∀s',Go s s'->Q p s')->
  D0 (D1 pw w) c.A (zzw ifs true λ t r=>if r=true then do let ok <-isTrue t c.env (M3 t c.env);pure (zaf ok) else pure (zaf r)) Q E s
theorem Tl.nil:Tl G w c H V [] true:=⟨λ s F Q E k=>wpAny_tests_nil (k s (M4 s))⟩
theorem Tl.one {t:Expr}{p:Bool}(h:Ts G w c H V t p):Tl G w c H V [t] p:=⟨λ s F Q E k=>wpAny_tests_one (h.h s F Q E k)⟩
noncomputable def zln (p:Nat->Bool)(r:Nat->D)(n:Nat):List D:=(G2 n).filterMap λ k=>if p k then some (r k) else none
theorem zqp (p:Nat->Bool)(r:Nat->D)(n:Nat):zln p r (n+1)=zln p r n++(if p n then[r n] else[]):=by
 unfold zln;rw[X0,List.filterMap_append]
 cases q:p n<;>simp[q]
theorem ydl (p:Nat->Bool)(r:Nat->D)(n:Nat):(zln p r n).length<=n:=by
 unfold zln;exact A7 (List.length_filterMap_le _ _) (by simp)
structure Cof (c:Cx)(sc:Scope)(lo:List Str)(kx:List Bool)(fr:List Nat)(gn:List (Str×Value))(c':Cx):Prop where
 eq: ∃L b,c'=cc c sc L lo kx fr gn b
theorem Itr.nextN {A:H2}{K:List Addr}{x:Str}{px:Pos}{env:Env}{it:Value}{items:List D}{b gb:Nat}{wr:List Addr}{gw:List Nat}{St:Nat->Obs->zst->Prop}(I:Itr G w A K (.Name x px) it items b gb wr gw St)
 {k:Nat}{d:D}{ob:Obs}{gs:zst}(hd:items[k]? =some d)(st:St k ob gs)(ok: ∃K',Ok G A K' s)(ho: ∀p∈ob,s.heap.get? p.1=some p.2)(hg: ∀p∈gs,s.gens[p.1]? =some p.2){N:A8->Prop}{POST:Unit->A8->Prop}{E:Value->A8->Prop}
 (h: ∀v s' ob' gs',Mv wr gw b s s'->St (k+1) ob' gs'->(∀p∈ob',s'.heap.get? p.1=some p.2)->(∀p∈gs',s'.gens[p.1]? =some p.2)->Ft ob' s s' d v->D0 (D1 pw w) A (M9 (.Name x px) env v) POST E s'):
 D0 (D1 pw w) A (zbh it) (λ r s1=>match r with|none=>N s1|some v=>D0 (D1 pw w) A (M9 (.Name x px) env v) POST E s1) E s:=by
 refine E7 (I.nxt k d ob gs s hd st ok ho hg (λ v s'=>D0 (D1 pw w) A (M9 (.Name x px) env v) POST E s') E h) (λ r s6 h6=>?_) λ z z e=>e;obtain⟨v,rfl,h4⟩:=h6;exact B0 (m:=U3 (.Name x px) it v) (f:=λ z=>M9 (.Name x px) env v) h4
theorem zqr {x:Str}{px pos:Pos}{elt iter:Expr}{ifs:List Expr}{items:List D}(p:Nat->Bool)(r:Nat->D)(S:Sco c sc lo kx fr gn)(iv:Iv G w c H V (.Name x px) iter items)(hx:lo[0]? =some x)(hz:items.length<=H5)
 (body: ∀c',Cof c sc lo kx fr gn c'-> ∀k d,items[k]? =some d-> ∀D acc fx gs,(∀q∈H.fix,q∈fx)->Tl G w c' ⟨(D,acc)::H.own,fx,gs⟩ ((cV lo fr V).set 0 (some d)) ifs (p k)/\
   (p k=true->Ev G w c' ⟨(D,acc)::H.own,fx,gs⟩ ((cV lo fr V).set 0 (some d)) true elt (r k)))
 (hs: ∀v,J0 iter c.env v=pure v:=by intro _;rfl)(F:FrS G c H V s){use:Option (Value->Sem Unit)}{Q E:Value->A8->Prop}{fp:Pos}
 (kq: ∀D s6,s.heap.objs.size<=D->FrS G (cc c sc (D+1) lo kx fr gn s) ⟨(D,zln p r items.length)::H.own,H.fix,[]⟩ (cV lo fr V) s6->ztp (D1 pw w) c.A E use Q (.ref D) (D+1) (.ok .next) s6):
 D0 (D1 pw w) c.A (yad (.ListComp elt [⟨.Name x px,iter,ifs,0⟩] sc pos) sc c.env fp (newList []) false (M3 iter c.env) use) Q E s:=by
 have okc:=F.ok;refine zx0 (use:=use) (cl:=ziq c.env sc.names []) rfl hs (zf3 λ y hy=>let ⟨a,h,_⟩:=zko (G:=G) (L:=0) (b:=s) S okc hy;⟨a,h⟩) S.kind (λ y hy e=>zcb S.nd (by rw[<-e];exact hy)) ?_
 refine iv.h s F _ _ λ it s2 wr gw St ob gs g2 I st hob hgs=>?_;have hgl: ∀k ob gs,St k ob gs-> ∀p∈gs,s.gens.size<=p.1:=I.gs;have F2:FrS G c (H.with ob gs) V s2:=zlt F (F.onto g2) (λ a ha=>D4 _ ha) I.toItrG st hob hgs;have start:=zts S F g2 F2 (hgl 0 ob gs st);refine zyh ?_;refine zmb ?_;simp only[G8,newEnv];have hz2:(s2.heap.push (M8 [] 0)).objs.size=s2.heap.objs.size+1:=by rw[G8]
 try dsimp only at start ⊢
 generalize hD:s2.heap.objs.size=D at start hz2 ⊢
 let c':=cc c sc (D+1) lo kx fr gn s
 have hcof:Cof c sc lo kx fr gn c':=⟨_,_,rfl⟩;have hDs:s.heap.objs.size<=D:=hD▸g2.size;generalize hs4:({s2 with heap:=zdp ((s2.heap.push (M8 [] 0)).push {cls:= .type "dict",data:= .dict #[]}) sc.names}:A8)=s4 at start ⊢;have s4ob: ∀p∈ob,s4.heap.get? p.1=some p.2:=λ p hp=>(start.fix p.1 p.2 (D3 _ hp)).1;have s4gs: ∀p∈gs,s4.gens[p.1]? =some p.2:=λ p hp=>(start.gen p hp).1;have obD: ∀k ob' gs',St k ob' gs'-> ∀p∈ob',p.1∉hk c' ⟨(D,[])::H.own,ob++H.fix,gs⟩ true:=by
  intro k ob' gs' st' p hp hK;rcases G1.mp hK with q|q
  ·exact(I.ob k ob' gs' st' p hp).2.2.2.1 (D3 _ q)
  ·rcases B9.mp q with q|q
   ·have:p.1∈ob'.map (·.1):=I4 (f:=(·.1)) hp
    rw[<-I.adr 0 k ob ob' gs gs' st st'] at this;obtain⟨p',hp',e⟩:=C5.mp this;have:=C6 (hob p' hp');rw[hD,e,q] at this;exact H8 _ this
   ·exact(I.ob k ob' gs' st' p hp).2.2.2.1 (D4 _ q)
 have hlo0:0<lo.length:=(C7.mp hx).1;have hnm0:c'.nm[0]? =some x:=by
  show(lo++_)[0]? =some x;rw[I3 hlo0];exact hx
 have hweak: ∀d (i:Nat) d',(cV lo fr V)[i]? =some (some d')->((cV lo fr V).set 0 (some d))[i]? =some (some d'):=by
  intro d i d' h
  cases i with
  |zero=>
   exfalso;unfold cV at h;rw[I3 (by simpa using hlo0),B7] at h
   cases q:lo[0]? with
   |none=>rw[q] at h;cases h
   |some y=>rw[q] at h;cases h
  |succ i=>rw[P8 (by omega)];exact h
 have key: ∀it',it'=it->zek (D1 pw w) c.A (.compLoop (.ListComp elt [⟨.Name x px,iter,ifs,0⟩] sc pos) 0 it' (.ref D) c'.env) (ztp (D1 pw w) c.A E use Q (.ref D) (D+1)) s4:=by
  rintro it' rfl;refine codeAny_compLoop_tests (λ n s5=> ∃k ob' gs',n+k=items.length/\St k ob' gs'/\FrS G c' ⟨(D,zln p r k)::H.own,ob'++H.fix,gs'⟩ (cV lo fr V) s5) (λ n s5 hI=>?_) items.length ⟨0,ob,gs,rfl,st,start⟩ (λ v=>rfl);obtain⟨k,ob5,gs5,hn,st5,F5⟩:=hI;have ob5': ∀p∈ob5,s5.heap.get? p.1=some p.2:=λ p hp=>(F5.fix p.1 p.2 (D3 _ hp)).1;have gs5': ∀p∈gs5,s5.gens[p.1]? =some p.2:=λ p hp=>(F5.gen p hp).1;have ok5:=F5.okS true;have stp: ∀{s6:A8},Mv wr gw s.heap.objs.size s5 s6-> ∀ob6 gs6,(∀p∈ob6,s6.heap.get? p.1=some p.2/\(p.1≠82/\p.1≠89)/\(∀v,p.2.data≠ .cell v)/\p.1≠c'.env.locals/\p.1∉D::H.own.map (·.1))->
   (∀p∈gs6,s6.gens[p.1]? =some p.2/\s.gens.size<=p.1)->FrS G c' ⟨(D,zln p r k)::H.own,ob6++H.fix,gs6⟩ (cV lo fr V) s6:=by
   intro s6 m ob6 gs6 h6 hg6;have m1:St1 c' ⟨(D,zln p r k)::H.own,ob5++H.fix,gs5⟩ wr gw s.heap.objs.size s5 s6:={
    llo:=D2 _
    hdl:=λ b q=>let ⟨b',_,_,e1,e2,_⟩:=F.hdA _ q;by cases e1;exact C6 e2
    keep:=m.keep
    lo:=λ a ha=> .inl (I.lo0 a ha)
    nof:=λ a ha o e=>by
     obtain⟨p',hp',rfl⟩:=C5.mp (I.wrin k ob5 gs5 st5 a ha);obtain⟨f1,f2,f3,f4,f5⟩:=F5.fix p'.1 p'.2 (D3 _ hp');rw[f1] at e;cases e;exact⟨(I.ob k ob5 gs5 st5 p' hp').1,f3,f4,λ q=>absurd q ((I.ob k ob5 gs5 st5 p' hp').2.2.1 ha)⟩
    size:=m.size
    gens:=m.gens
    bare:=m.bare
    os:=m.os
    glo:=I.glo
    hdn:=λ a ha q=>by
     obtain⟨b',o,vs,e1,e2,_⟩:=F.hdA _ q;cases e1;exact absurd (C6 e2) (D7.mpr (I.lo0 a ha))}
   have wlt: ∀a∈wr,∀b o,s.heap.get? b=some o->b≠a:=λ a ha b o e q=>absurd (C6 e) (by rw[q];exact D7.mpr (I.lo0 a ha))
   refine F5.step m1 rfl (λ a ds h=> .inl ⟨λ ha=>?_,h⟩) (λ a o h=>?_) λ p' h=> .inr (hg6 p' h)
   ·obtain⟨p',hp',e⟩:=C5.mp (I.wrin k ob5 gs5 st5 a ha)
    have:=(F5.fix p'.1 p'.2 (D3 _ hp')).2.2.2.2;rw[show p'.1=a from e] at this
    exact this (I4 (f:=(·.1)) h)
   ·rcases G1.mp h with h|h
    ·exact .inr (h6 _ h)
    ·refine .inl ⟨λ ha=>?_,D4 _ h,.inl (C6 (F.fix a o h).1)⟩
     exact wlt a ha a o (F.fix a o h).1 rfl
  cases hd:items[k]? with
  |none=>
   have hk':k=items.length:=by have:=W4.mp hd;omega
   subst hk';refine I.fin ob5 gs5 s5 st5 ⟨_,ok5⟩ ob5' gs5' _ _ λ s6 m=>?_;have F6:=stp m [] [] (λ p hp=>nomatch hp) (λ p hp=>nomatch hp)
   exact kq D s6 hDs F6
  |some d=>
   have hk':=(C7.mp hd).1;refine I.nextN hd st5 ⟨_,ok5⟩ ob5' gs5' ?_;intro v s6 ob6 gs6 m st6 hob6 hgs6 r6;have tb6:Tb s6.heap:=(stp m [] [] (λ p hp=>nomatch hp) (λ p hp=>nomatch hp)).tb
   have F6:=stp m ob6 gs6 (λ p hp=>by
    obtain⟨q1,q2,q3,q4,q5⟩:=I.ob _ _ _ st6 p hp;refine⟨hob6 p hp,tb6.off (hob6 p hp) q1,q2,λ q=>?_,λ q=>?_⟩
    ·have:p.1∈ob6.map (·.1):=I4 (f:=(·.1)) hp
     rw[<-I.adr 0 (k+1) ob ob6 gs gs6 st st6] at this;obtain⟨p',hp',e⟩:=C5.mp this;have:=C6 (hob p' hp');rw[hD,e,show p.1=D+1 from q] at this
     exact absurd this (D7.mpr (L6 _))
    ·exact obD _ _ _ st6 p hp (D4 _ q)) (λ p hp=>⟨hgs6 p hp,hgl _ _ _ st6 p hp⟩)
   have hK6:hk c' ⟨(D,zln p r k)::H.own,ob6++H.fix,gs6⟩ true=hk c' ⟨(D,[])::H.own,ob++H.fix,gs⟩ true:=rfl;have rv6:Rp (hid (hk c' ⟨(D,zln p r k)::H.own,ob6++H.fix,gs6⟩ true) s6.heap) d v:=r6.rp (by rw[hK6];exact obD _ _ _ st6) ok5.kl
   refine(zen (w:=w) (d:=d) (p:=px) 0 hlo0 hnm0).h s6 v F6 rv6 _ _ λ s7 F7 u7=>?_;obtain⟨bt,be⟩:=body c' hcof k d hd D (zln p r k) (ob6++H.fix) gs6 (λ q hq=>D4 _ hq);refine bt.h s7 F7 _ _ λ s8 g8=>?_;have F8:=F7.onto g8
   cases hp:p k with
   |false=>
    rw[if_neg N4];refine⟨n-1,by omega,k+1,ob6,gs6,by omega,st6,?_⟩
    rw[zqp,hp,if_neg N4,S0];exact F8.weak (hweak d)
   |true=>
    rw[if_pos rfl];refine(be hp).r F8 λ v9 s9 g9 r9=>?_;have F9:=F8.onto g9;obtain⟨oD,vs,e1,⟨nD,rfl⟩,e2⟩:=F9.own D _ A9;have hcl:=ydl p r k;refine(zdc (G:=G) (w:=w) (ds:=zln p r k) (d:=r k) (by omega)).h c.A _ s9 D vs nD [v9] (F9.okS true) e1 e2 (U4 r9 Z8) _ _ λ h' tk vs' n' hs' e' r'=>?_
    have F10:=F9.ownset (tk:=tk) 0 rfl (.inl hDs) hs' e' r';refine⟨n-1,by omega,k+1,ob6,gs6,by omega,st6,?_⟩
    rw[zqp,hp,if_pos rfl];exact F10.weak (hweak d)
 exact ybp (key _ rfl) (I.slf 0 ob gs s4 st s4ob s4gs _ _ (key _ rfl))
theorem zo4 {b:A8}{Da:Addr}{out:List D}(F6:FrS G (cc c sc (Da+1) lo kx fr gn b) ⟨(Da,out)::H.own,H.fix,[]⟩ (cV lo fr V) s):
 ∃vs n,s.heap.get? Da=some (M8 vs n)/\RpL (hid (Da::hk c H true) s.heap) out vs:=by
 obtain⟨oD,vs,e1,⟨nD,rfl⟩,e2⟩:=F6.own Da _ A9;refine⟨vs,nD,e1,e2.sub λ a ha=>?_⟩;rcases B9.mp ha with q|q
 ·exact D4 _ (by rw[q];exact A9)
 ·rcases G1.mp q with q|q
  ·exact D3 _ q
  ·exact D4 _ (B1 _ q)
theorem Nl.comp {x:Str}{px pos:Pos}{elt iter:Expr}{ifs:List Expr}{items:List D}(p:Nat->Bool)(r:Nat->D)(S:Sco c sc lo kx fr gn)(iv:Iv G w c H V (.Name x px) iter items)(hx:lo[0]? =some x)(hz:items.length<=H5)
 (body: ∀c',Cof c sc lo kx fr gn c'-> ∀k d,items[k]? =some d-> ∀D acc fx gs,(∀q∈H.fix,q∈fx)->Tl G w c' ⟨(D,acc)::H.own,fx,gs⟩ ((cV lo fr V).set 0 (some d)) ifs (p k)/\
   (p k=true->Ev G w c' ⟨(D,acc)::H.own,fx,gs⟩ ((cV lo fr V).set 0 (some d)) true elt (r k)))
 (hs: ∀v,J0 iter c.env v=pure v:=by intro _;rfl):Nl G w c H V true (.ListComp elt [⟨.Name x px,iter,ifs,0⟩] sc pos) (zln p r items.length):=by
 refine⟨λ s F Q E kq=>?_⟩;rw[eval_ListComp];refine zqr p r S iv hx hz body hs F (use:=none) λ D s6 hDs F6=>?_;obtain⟨mm,hm⟩:=F6.ns;refine⟨mm,hm,λ h' hs'=>?_⟩;obtain⟨vs,nD,e1,e2⟩:=zo4 F6;have hne:D≠D+1:=za0 (S5 D);obtain⟨oC,es,ep,hC,hCd,_⟩:=hm;have B:Bu (cc c sc (D+1) lo kx fr gn s) s6 {s6 with heap:=h'} (D+1):=⟨.inl (G5 hDs),λ o e=>by
  rw[show(cc c sc (D+1) lo kx fr gn s).env.locals=D+1 from rfl,e] at hC;cases hC
  exact⟨λ vs q=>by(rw[hCd] at q;cases q),λ q=>by(obtain⟨_,_,q⟩:=q;rw[hCd] at q;cases q)⟩,hs',rfl,rfl⟩
 exact kq D _ vs nD (B.go F6.go).nil hDs ((hs'.2 _ hne).trans e1) (za4 B.rp _ _ e2)
end
open Internal.Tl renaming nil->zc8
section
variable{G:Gt}{w:E3}{c:Cx}{H:Hm}{V:List (Option D)}{s s':A8}
variable{sc:Scope}{L:Addr}{lo:List Str}{kx:List Bool}{fr:List Nat}{gn:List (Str×Value)}
variable{P:Flow->A8->Prop}{E:Value->A8->Prop}{rest:List Stmt}
theorem FrS.fixadd {a:Addr}{o:Obj}(F:FrS G c H V s)(h:s.heap.get? a=some o/\(a≠82/\a≠89)/\(∀v,o.data≠ .cell v)/\a≠c.env.locals/\a∉H.own.map (·.1)):FrS G c ⟨H.own,(a,o)::H.fix,H.gen⟩ V s:=
 {ok:=F.ok,go:=F.go,ns:=F.ns,vars:=F.vars,own:=F.own,olo:=F.olo,ond:=F.ond,gen:=F.gen,cells:=F.cells,hdA:=F.hdA,dk:=F.dk,
  fix:=λ b o' hb=>(B9.mp hb).elim (λ q=>by cases q;exact h) (λ q=>F.fix b o' q)}
theorem FrS.dropC {C:Addr}{o:Obj}{h':P9}(F:FrS G c ⟨H.own,(C,o)::H.fix,H.gen⟩ V s)(hlo:OkW c C)(hq: ¬Sq o)(hnf: ∀vs,o.data≠ .fields vs)(hf: ∀p∈H.fix,p.1≠C)(hs:P2 C s.heap h'):FrS G c H V {s with heap:=h'}:=by
 obtain⟨e,f1,f2,f3,f4⟩:=F.fix C o A9;have m:St1 c ⟨H.own,(C,o)::H.fix,H.gen⟩ [C] [] s.heap.objs.size s {s with heap:=h'}:={
  llo:=F.go.size
  hdl:=λ b q=>let ⟨b',_,_,e1,e2,_⟩:=F.hdA _ q;by cases e1;exact C6 e2
  keep:=λ b o hb z e=>(hs.2 b λ q=>hb (by rw[q];exact A9)).trans e
  lo:=λ b hb=>by rw[B2] at hb;subst hb;exact hlo
  nof:=λ b hb o' e'=>by
   rw[B2] at hb;subst hb;rw[e] at e';cases e';exact⟨.inl hnf,f2,f3,λ q=>absurd q hq⟩
  size:=by show s.heap.objs.size<=h'.objs.size;rw[hs.1];exact D2 _
  gens:=λ i x z e=>e
  bare:=λ i x e=> .inl e
  os:=rfl
  glo:=λ i hi=>nomatch hi
  hdn:=λ b hb q=>by
   rw[B2] at hb;subst hb;obtain⟨b',o',vs,e1,e2,e3,_⟩:=F.hdA _ q
   cases e1;rw[e] at e2;cases e2;exact hnf vs e3}
 refine F.step m rfl (λ a ds h=> .inl ⟨λ ha=>?_,h⟩) (λ a o' h=> .inl ⟨λ ha=>?_,B1 _ h,.inl (C6 (F.fix a o' (B1 _ h)).1)⟩) λ p h=> .inl ⟨λ hi=>(nomatch hi),h⟩
 ·rw[B2] at ha;subst ha
  exact f4 (I4 (f:=(·.1)) h)
 ·rw[B2] at ha;subst ha
  exact hf _ h rfl
theorem zqq {H':Hm}{y:Str}{py:Pos}{Da:Addr}{out:List D}{b s6:A8}{Q:Value->A8->Prop}{d:D}(i:Nat)(hi:i<c.ns)(hy:c.nm[i]? =some y)(hDs:b.heap.objs.size<=Da)
 (F:FrS G c H V b)(F6:FrS G (cc c sc (Da+1) lo kx fr gn b) ⟨(Da,out)::H.own,H.fix,[]⟩ (cV lo fr V) s6)(F6':FrS G c H' V s6)(hfx:H'.fix=H.fix)(hno:Da+1∉H'.own.map (·.1))
 (r:Rp (hid (hk c H' true) s6.heap) d (.ref Da))(kq: ∀s',FrS G c H' (V.set i (some d)) s'->Q .none s'):
 ztp (D1 pw w) c.A E (some (M9 (.Name y py) c.env)) Q (.ref Da) (Da+1) (.ok .next) s6:=by
 show D0 (D1 pw w) c.A (M9 (.Name y py) c.env (.ref Da)) _ E s6;obtain⟨mm,hm⟩:=F6.ns;obtain⟨oC,es,ep,hC,hCd,hrest⟩:=id hm;have hC':s6.heap.get? (Da+1)=some oC:=hC;have hqC: ¬Sq oC:=λ⟨_,_,q⟩=>by rw[hCd] at q;cases q
 have hnC: ∀vs,oC.data≠ .fields vs:=λ vs q=>by rw[hCd] at q;cases q
 have hbs:OkW c (Da+1):= .inl (G5 (A7 F.go.size hDs));have hloc:Da+1≠c.env.locals:=λ q=>by
  obtain⟨m0,o0,es0,ep0,h0,_⟩:=F.ns;have:=C6 h0;rw[<-q] at this;exact absurd this (D7.mpr (G5 hDs))
 have F7:FrS G c ⟨H'.own,(Da+1,oC)::H'.fix,H'.gen⟩ V s6:=F6'.fixadd ⟨hC',F6'.tb.off hC' (.inl hnC),λ v q=>(by rw[hCd] at q;cases q),hloc,hno⟩
 refine zig ?_;refine F7.store i hi hy r λ s8 F8 u8=>?_;refine⟨mm,⟨oC,es,ep,(F8.fix (Da+1) oC A9).1,hCd,hrest⟩,λ h' hs'=>?_⟩;refine kq _ (F8.dropC hbs hqC hnC (λ p hp q=>?_) hs');rw[hfx] at hp;have:=C6 (F.fix p.1 p.2 hp).1;rw[q] at this;exact absurd this (D7.mpr (G5 hDs))
theorem Wx.compGen {x y:Str}{px py pos ps:Pos}{elt iter:Expr}{ifs:List Expr}{items:List D}(p:Nat->Bool)(r:Nat->D)(S:Sco c sc lo kx fr gn)(iv:Iv G w c H V (.Name x px) iter items)(hx:lo[0]? =some x)(hz:items.length<=H5)
 (body: ∀c',Cof c sc lo kx fr gn c'-> ∀k d,items[k]? =some d-> ∀D acc fx gs,(∀q∈H.fix,q∈fx)->Tl G w c' ⟨(D,acc)::H.own,fx,gs⟩ ((cV lo fr V).set 0 (some d)) ifs (p k)/\
   (p k=true->Ev G w c' ⟨(D,acc)::H.own,fx,gs⟩ ((cV lo fr V).set 0 (some d)) true elt (r k)))
 (hsw:U6 (.ListComp elt [⟨.Name x px,iter,ifs,0⟩] sc pos) (some (.Name y py)) ps.line c.env=pure true)
 (hs: ∀v,J0 iter c.env v=pure v)
 (F:FrS G c H V s)(kq: ∀D s6,s.heap.objs.size<=D->FrS G (cc c sc (D+1) lo kx fr gn s) ⟨(D,zln p r items.length)::H.own,H.fix,[]⟩ (cV lo fr V) s6->
   ztp (D1 pw w) c.A E (some (M9 (.Name y py) c.env)) (λ z s'=>D0 (D1 pw w) c.A (X5 rest c.env) P E s') (.ref D) (D+1) (.ok .next) s6):
 D0 (D1 pw w) c.A (X5 (.Assign [.Name y py] (.ListComp elt [⟨.Name x px,iter,ifs,0⟩] sc pos) ps::rest) c.env) P E s:=by
 refine E8 ?_;rw[exec_Assign_Name_used _ _ _ _ hsw];refine B0 (K7 (B0 ?_));show D0 _ c.A (do let _ <-yad (.ListComp elt [⟨.Name x px,iter,ifs,0⟩] sc pos) sc c.env _ (newList []) false (M3 iter c.env) (some (M9 (.Name y py) c.env))) _ _ s
 refine B0 (E7 (zqr p r S iv hx hz body hs F kq) (λ z s' hq=>C4 (C4 hq)) λ z z e=>e)
theorem Wx.asgC {x y:Str}{px py pos ps:Pos}{elt iter:Expr}{ifs:List Expr}{items:List D}(p:Nat->Bool)(r:Nat->D)(i:Nat)(hi:i<c.ns)(hy:c.nm[i]? =some y)(S:Sco c sc lo kx fr gn)(iv:Iv G w c H V (.Name x px) iter items)(hx:lo[0]? =some x)(hz:items.length<=H5)
 (body: ∀c',Cof c sc lo kx fr gn c'-> ∀k d,items[k]? =some d-> ∀D acc fx gs,(∀q∈H.fix,q∈fx)->Tl G w c' ⟨(D,acc)::H.own,fx,gs⟩ ((cV lo fr V).set 0 (some d)) ifs (p k)/\
   (p k=true->Ev G w c' ⟨(D,acc)::H.own,fx,gs⟩ ((cV lo fr V).set 0 (some d)) true elt (r k)))
 (hsw:U6 (.ListComp elt [⟨.Name x px,iter,ifs,0⟩] sc pos) (some (.Name y py)) ps.line c.env=pure true)
 (h:Wx G w c H (V.set i (some (.lst (zln p r items.length)))) rest P E)
 (hs: ∀v,J0 iter c.env v=pure v:=by intro _;rfl):Wx G w c H V (.Assign [.Name y py] (.ListComp elt [⟨.Name x px,iter,ifs,0⟩] sc pos) ps::rest) P E:=by
 refine⟨λ s F=>?_⟩;refine Wx.compGen p r S iv hx hz body hsw hs F λ Da s6 hDs F6=>?_;obtain⟨vs,n,e1,e2⟩:=zo4 F6;have F6':FrS G c H V s6:=F.onto F6.go.nil;have hown: ∀a,s.heap.objs.size<=a->a∉H.own.map (·.1):=λ a ha q=>by
  obtain⟨⟨b',es⟩,hp,e⟩:=C5.mp q;obtain⟨o,us,h1,_⟩:=F.own b' es hp;have:=C6 h1;rw[show b'=a from e] at this
  exact absurd this (D7.mpr ha)
 refine zqq (d:= .lst (zln p r items.length)) i hi hy hDs F F6 F6' rfl (hown _ (G5 hDs)) (Rp.lst' (n:=n) ?_ (e2.sub λ a ha=>B1 _ ha)) λ s' F'=>h.h s' F';rw[hid_some];exact⟨λ q=>absurd ((F.okS true).kl _ q) (D7.mpr hDs),e1⟩
theorem Wx.ownC {x y:Str}{px py pos ps:Pos}{elt iter:Expr}{ifs:List Expr}{items:List D}(p:Nat->Bool)(r:Nat->D)(i:Nat)(hi:i<c.ns)(hy:c.nm[i]? =some y)(S:Sco c sc lo kx fr gn)(iv:Iv G w c H V (.Name x px) iter items)(hx:lo[0]? =some x)(hz:items.length<=H5)
 (body: ∀c',Cof c sc lo kx fr gn c'-> ∀k d,items[k]? =some d-> ∀D acc fx gs,(∀q∈H.fix,q∈fx)->Tl G w c' ⟨(D,acc)::H.own,fx,gs⟩ ((cV lo fr V).set 0 (some d)) ifs (p k)/\
   (p k=true->Ev G w c' ⟨(D,acc)::H.own,fx,gs⟩ ((cV lo fr V).set 0 (some d)) true elt (r k)))
 (hsw:U6 (.ListComp elt [⟨.Name x px,iter,ifs,0⟩] sc pos) (some (.Name y py)) ps.line c.env=pure true)
 (h: ∀a,OkW c a->Wx G w c (H.owns ((a,zln p r items.length)::H.own)) (V.set i (some (.ptr a))) rest P E)
 (hs: ∀v,J0 iter c.env v=pure v:=by intro _;rfl):Wx G w c H V (.Assign [.Name y py] (.ListComp elt [⟨.Name x px,iter,ifs,0⟩] sc pos) ps::rest) P E:=by
 refine⟨λ s F=>?_⟩;refine Wx.compGen p r S iv hx hz body hsw hs F λ Da s6 hDs F6=>?_;obtain⟨vs,n,e1,e2⟩:=zo4 F6;have F6':=F.newown F6.go.nil hDs e1 e2;have hown: ∀a,s.heap.objs.size<=a->a∉H.own.map (·.1):=λ a ha q=>by
  obtain⟨⟨b',es⟩,hp,e⟩:=C5.mp q;obtain⟨o,us,h1,_⟩:=F.own b' es hp;have:=C6 h1;rw[show b'=a from e] at this
  exact absurd this (D7.mpr ha)
 refine zqq (d:= .ptr Da) i hi hy hDs F F6 F6' rfl (λ q=>?_) rfl λ s' F'=>(h Da (.inl (A7 F.go.size hDs))).h s' F';rcases B9.mp q with q|q
 ·exact absurd q (Nat.succ_ne_self Da)
 ·exact hown _ (G5 hDs) q
end
section
variable{G:Gt}{w:E3}{c:Cx}{H:Hm}{V:List (Option D)}{s s':A8}
structure Me (G:Gt)(w:E3)(T:String)(id:String)(d0:D)(ds:List D)(d:D):Prop where
 ty: ∀(s:A8) (K:List Addr) (v:Value),Rp (hid K s.heap) d0 v->s.TypeIs v T/\ ∀a,v= .ref a-> ∃ob,s.heap.get? a=some ob/\ob.dict=none
 h: ∀A K s v0 vs,Ok G A K s->Rp (hid K s.heap) d0 v0->RpL (hid K s.heap) ds vs->Gv w A K s (call (.builtin id) (v0::vs)) d
theorem Ev.meth {b:Bool}{o:Expr}{name:Str}{T id:String}{ap ps:Pos}{args:List Expr}{d0 d:D}{ds:List D}(pa:PlainAttrs T)(slot:Slot T name id)(hty:typeOf (.builtin id)=pure (.type "method_descriptor"))
 (ho:Ev G w c H V b o d0)(ha:As G w c H V b args ds)(hm:Me G w T id d0 ds d)
 (hbase:zdu o name c.env (M3 o c.env)=M3 o c.env:=by rfl)(hl:args.length<30:=by decide)(hline:(ap.endLine==ps.line)=true:=by rfl):
 Ev G w c H V b (.Call (.Attribute o name ap) args [] ps) d:=by
 refine .mk' λ s F Q E k=>?_;refine Z2 hbase ?_ hline pa slot hty (ho.r F λ v0 s1 g1 r1=>?_)
 ·rw[zqn (ha.ns ps)]
  simp only[zfa,zh1,if_true,zgj];exact decide_eq_true hl
 obtain⟨t1,t2⟩:=hm.ty s1 _ v0 r1;refine⟨t1,t2,?_⟩;refine O0 (ha.ns _) (N2 (ha.ns _) (ha.h _ s1 (F.onto g1) _ _ λ us s2 g2 r2=>?_));exact(hm.h c.A _ s2 v0 us (((F.onto g1).onto g2).okS b) (r1.go g2 (F.onto g1).tb) r2).h _ _ λ v s3 g3 r3=>k v s3 ((g1.trans g2).trans g3) r3
theorem ygo {a:Int}: ∀(s:A8) (K:List Addr) v,Rp (hid K s.heap) (.int a) v->s.TypeIs v "int"/\ ∀a,v= .ref a-> ∃ob,s.heap.get? a=some ob/\ob.dict=none:=by
 intro s K v r;obtain⟨t,rfl⟩:=r.int_inv;exact⟨typeIs_int s a t,λ a e=>by cases e⟩
theorem tyStr {a:Str}: ∀(s:A8) (K:List Addr) v,Rp (hid K s.heap) (.str a) v->s.TypeIs v "str"/\ ∀a,v= .ref a-> ∃ob,s.heap.get? a=some ob/\ob.dict=none:=by
 intro s K v r;obtain⟨t,rfl⟩:=r.str_inv;exact⟨zbt s a t,λ a e=>by cases e⟩
theorem Me.bit_length {a:Int}:Me G w "int" "int.bit_length" (.int a) [] (.int (B6 a)):=by
 refine⟨ygo,λ A K s v0 vs ok r0 rs=>⟨λ Q E k=>?_⟩⟩;obtain⟨t,rfl⟩:=r0.int_inv;obtain rfl:=rs.i0;have k':=k (.int (B6 a) s.toks) _ (R1 s (s.toks+1)) .int';exact call_int_bit_length k'
theorem Ev.bits {b:Bool}{o:Expr}{ap ps:Pos}{a:Int}(ho:Ev G w c H V b o (.int a))(hbase:zdu o "bit_length" c.env (M3 o c.env)=M3 o c.env:=by rfl)(hline:(ap.endLine==ps.line)=true:=by rfl):
 Ev G w c H V b (.Call (.Attribute o "bit_length" ap) [] [] ps) (.int (B6 a)):=
 Ev.meth PySem.F.plainAttrs_int PySem.F.slot_int_bit_length PySem.F.type_int_bit_length ho D9 Me.bit_length hbase (by decide) hline
theorem Bf.divmod {a b:Int}(hb:b≠0)(hl:b.natAbs.log2<9000):Bf G w (.builtin "divmod") [.int a,.int b] (.tup [.int (a.fdiv b),.int (a.fmod b)]):=by
 refine⟨λ A K s vs ok r=>⟨λ Q E k=>?_⟩⟩;obtain⟨v1,v2,rfl,r1,r2⟩:=zkp r;obtain⟨t,rfl⟩:=r1.int_inv;obtain⟨u,rfl⟩:=r2.int_inv;refine divmod_int hb ?_ (.inl (P3 hl));refine k _ _ (zmn s _ _) (Rp.tup' (n:=0) (vs:=[.int (a.fdiv b) s.toks,.int (a.fmod b) (s.toks+1)]) ?_ (U4 .int' (U4 .int' Z8)));exact zli ok.kl rfl
theorem Ev.nv {f:Bool}{e:Expr}{v:Value}{d:D}(h:Nv G w c e v)(r: ∀g,Rp g d v):Ev G w c H V f e d:= .mk' λ s F Q E k=>h.h H V s F Q E (k v s (M4 s) (r _))
theorem Ev.nvi {f:Bool}{e:Expr}{i:Int}{t:Tok}(h:Nv G w c e (.int i t)):Ev G w c H V f e (.int i):=Ev.nv h λ g=> .int'
theorem Ev.nvs {f:Bool}{e:Expr}{i:Str}{t:Tok}(h:Nv G w c e (.str i t)):Ev G w c H V f e (.str i):=Ev.nv h λ g=> .str'
end
open Internal.Ev renaming meth->zh3
section
variable{G:Gt}{w:E3}{c:Cx}{H:Hm}{V:List (Option D)}{s s':A8}
variable{P:Flow->A8->Prop}{E:Value->A8->Prop}{rest:List Stmt}
theorem zsi {A:H2}{env:Env}{cd Pt:Addr}{pos:Pos}{q name:Str}{p:zu4}{sc:Scope}{body:FuncBody}{Q E:Value->A8->Prop}(hc:env.code= .ref cd)(ht:Tb s.heap)
 (hcase:(cd=86/\Pt=82/\q=G9 "_int2digits.<locals>.inner"/\pos.line=86/\pos.col=4)\/(cd=93/\Pt=89/\q=G9 "_digits2int.<locals>.inner"/\pos.line=101/\pos.col=4))
 (k: ∀c' s',Go s s'->(∃o,s'.heap.get? c'=some o/\o.cls= .type "code"/\s'.heap.CodeRec (.ref c') q/\c'≠82/\c'≠89)->Q (.ref c') s'):
 D0 (D1 pw w) A (functionCode env pos pos.line name q p sc body) Q E s:=by
 have hT: ∃l kk,TbAt s.heap cd Pt l kk q/\l=(pos.line:Int)/\kk=(pos.col:Int):=by
  rcases hcase with⟨rfl,rfl,rfl,e1,e2⟩|⟨rfl,rfl,rfl,e1,e2⟩
  ·exact⟨_,_,ht.2.1,by rw[e1];rfl,by rw[e2];rfl⟩
  ·exact⟨_,_,ht.2.2,by rw[e1];rfl,by rw[e2];rfl⟩
 obtain⟨l,kk,⟨ps,hk,htab,hps⟩,rfl,rfl⟩:=hT;have t82: ∃o,s.heap.get? 82=some o/\o.cls= .none:=let ⟨p,_,t,_⟩:=ht.2.1;⟨_,t.2,rfl⟩;have t89: ∃o,s.heap.get? 89=some o/\o.cls= .none:=let ⟨p,_,t,_⟩:=ht.2.2;⟨_,t.2,rfl⟩;have offc: ∀{h:P9} {c':Addr} {o:Obj},h.get? c'=some o->o.cls= .type "code"->(∀o',h.get? 82=some o'->o'.cls= .none)->(∀o',h.get? 89=some o'->o'.cls= .none)->c'≠82/\c'≠89:=by
  intro h c' o e1 e2 h1 h2;constructor
  ·rintro rfl;have:=h1 _ e1;rw[e2] at this;cases this
  ·rintro rfl;have:=h2 _ e1;rw[e2] at this;cases this
 rcases hps with rfl|⟨c',o',rfl,e1,e2,e3⟩
 ·refine Q4 (wpAny_functionCodeX hc hk htab rfl λ c' h' tk hx hge hlt hok' hrec htab' htb hz=>?_)
  have hP:Pt=82\/Pt=89:=by rcases hcase with⟨_,h,_⟩|⟨_,h,_⟩<;>simp[h]
  obtain⟨P',hP',hk',htb'⟩:=htb;obtain⟨oc,vsc,q1,q2,q3,q4⟩:=htb'.1;have tab':Tb h':=by
   refine⟨A7 ht.1 hz,?_,?_⟩
   ·rcases hcase with⟨rfl,rfl,rfl,l1,l2⟩|⟨rfl,rfl,rfl,l1,l2⟩
    ·refine⟨_,hok',htab',.inr ⟨c',oc,?_,q1,q2,hrec⟩⟩
     rw[l1,l2];rfl
    ·exact TbAt.butP ht.2.1 (a:=89) hx (by decide) (by decide) λ c'' o'' e=>by
      intro q;subst q;obtain⟨o,e',hcl⟩:=t89;rw[e'] at e;intro hcc;cases e;rw[hcl] at hcc;cases hcc
   ·rcases hcase with⟨rfl,rfl,rfl,l1,l2⟩|⟨rfl,rfl,rfl,l1,l2⟩
    ·exact TbAt.butP ht.2.2 (a:=82) hx (by decide) (by decide) λ c'' o'' e=>by
      intro q;subst q;obtain⟨o,e',hcl⟩:=t82;rw[e'] at e;intro hcc;cases e;rw[hcl] at hcc;cases hcc
    ·refine⟨_,hok',htab',.inr ⟨c',oc,?_,q1,q2,hrec⟩⟩
     rw[l1,l2];rfl
  refine k c' _ ⟨λ a o h1 h2 e=>hx a o (by rcases hP with h|h<;>(rw[h];assumption)) e,λ z=>tab',hz,λ z z e=>e,λ z z e=> .inl e,rfl⟩ ⟨oc,q1,q2,hrec,offc q1 q2 ?_ ?_⟩
  ·intro o' e;obtain⟨p,_,t,_⟩:=tab'.2.1;rw[t.2] at e;cases e;rfl
  ·intro o' e;obtain⟨p,_,t,_⟩:=tab'.2.2;rw[t.2] at e;cases e;rfl
 ·refine wpAny_functionCode_hit (c':= .ref c') hc hk ?_ (k c' s (M4 s) ⟨o',e1,e2,e3,offc e1 e2 ?_ ?_⟩)
  ·show codeAmong pos [I6 pos.line,I6 pos.col,.ref c']=_
   unfold codeAmong I6;simp
  ·intro o' e;obtain⟨o,e',hcl⟩:=t82;rw[e'] at e;cases e;exact hcl
  ·intro o' e;obtain⟨o,e',hcl⟩:=t89;rw[e'] at e;cases e;exact hcl
noncomputable def zsj (name qual:Str)(params:zu4)(body:List Stmt)(sc:Scope)(cl:List (Str×Addr))(ct cd pm:Value):K9:=
 {name,qualname:=qual,params,body:= .stmts body,scope:=sc,globals:=3,closure:=cl,defaults:= .none,kwdefaults:= .none,doc:= .none,pyModule:=pm,code:=cd,closureTuple:=ct,builtins:=0}
noncomputable abbrev zjn (fd:K9):Obj:={cls:= .type "function",data:= .func fd}
theorem Wx.defn {name:Str}{params:zu4}{body:List Stmt}{sc:Scope}{pos:Pos}{cd Pt:Addr}{q:Str}(i:Nat)(hi:i<c.ns)(hx:c.nm[i]? =some name)(hexec:PlainDefTree name params body sc pos)
 (hcl: ∀x,(x,P7)∈sc.names-> ∃a,c.env.cells.lookup x=some a)(hne:ziq c.env sc.names []≠[])(hc:c.env.code= .ref cd)(hq:qualnameIn c.env name name=q)
 (hcase:(cd=86/\Pt=82/\q=G9 "_int2digits.<locals>.inner"/\pos.line=86/\pos.col=4)\/(cd=93/\Pt=89/\q=G9 "_digits2int.<locals>.inner"/\pos.line=101/\pos.col=4))
 (hbm:(("__builtins__",.ref 4):Str×Value)∈G.gtab)(hnmod:c.env.globals=3)
 (h: ∀fa c' ct pm co,c.b.heap.objs.size<=fa->(∃vs,co.data= .fields vs)->(∀hp:P9,hp.get? c'=some co->hp.CodeRec (.ref c') q)->
   Wx G w c ⟨H.own,(fa,zjn (zsj name q params body sc (ziq c.env sc.names []) ct (.ref c') pm))::(c',co)::H.fix,H.gen⟩ (V.set i (some (.ptr fa))) rest P E)
 (hdoc:docOf body=none:=by rfl):Wx G w c H V (.FunctionDef name params body [] none [] sc none name pos::rest) P E:=by
 refine⟨λ s F=>?_⟩;refine E8 ?_;rw[hexec];refine B0 (K7 (B0 (J8 ?_)));rw[hq];simp only[makeFunction,List.zip_nil_right,List.filterMap_nil,zh1,if_true,pure_bind,zf3 hcl,hdoc];have hem:(ziq c.env sc.names []).isEmpty=false:=by
  cases e:ziq c.env sc.names [] with
  |nil=>exact absurd e hne
  |cons a r=>rfl
 rw[hem];simp only[V7,if_false];refine B0 (wpAny_newTextTuple ?_);generalize hts:(zt2 (λ x:Str×Addr=>N0 x.2) ((ziq c.env sc.names []).mergeSort λ a b=>decide (a.1.cps.toList<=b.1.cps.toList))).toArray=ts;have g1:Go s {s with heap:=s.heap.push {cls:= .type "tuple",data:= .seq ts}}:=Z0 s _;have F1:=F.onto g1;refine B0 (zsi hc F1.tb hcase λ c' s2 g2 hco=>?_);obtain⟨co,e1,e2,e3,e4,e5⟩:=hco;have F2:=F1.onto g2;obtain⟨mg,hm1,hm2,_⟩:=F2.gnd.mg;rw[<-hnmod] at hm1;obtain⟨ob4,o1,o2,o3,o4⟩:=F2.gnd.bm hbm;refine B0 (wpAny_builtinsFor hm1 (hm2 _ hbm) (by decide) o1 o2 o3 o4 ?_)
 refine B0 (wpAny_nsGet hm1 ?_);refine zah ?_ (by size_fits)
 refine B0 (K7 (B0 (zo7 ?_)));generalize hfd:({name:=name,qualname:=q,params:=params,body:=FuncBody.stmts body,scope:=sc,globals:=c.env.globals,closure:=ziq c.env sc.names [],defaults:=M7,kwdefaults:=M7,doc:=M7,pyModule:=(mg "__name__").getD M7,annotations:=none,code:=N0 c',closureTuple:=N0 s.heap.objs.size,builtins:=zqu}:K9)=fd;have hfd':fd=zsj name q params body sc (ziq c.env sc.names []) (.ref s.heap.objs.size) (.ref c') ((mg "__name__").getD .none):=by rw[<-hfd,hnmod];rfl
 have g3:Go s2 {s2 with heap:=s2.heap.push (zjn fd)}:=Z0 s2 _;have F3:=F2.onto g3;have hown: ∀{a:Addr} {o:Obj},¬Sq o->s2.heap.get? a=some o->a∉H.own.map (·.1):=λ{a o} hs e hm=>by
  obtain⟨⟨b,es⟩,hp,rfl⟩:=C5.mp hm;obtain⟨o',us,h1,hL,_⟩:=F2.own b es hp;rw[e] at h1;cases h1;exact hs hL.sq
 have hloc: ∀{a:Addr} {o:Obj},(∀es ep,o.data≠ .dict es ep)->s2.heap.get? a=some o->a≠c.env.locals:=λ{a o} hd e hm=>by
  obtain⟨m,oL,es,ep,hL,hLd,_⟩:=F2.ns;rw[hm,hL] at e;cases e;exact hd es ep hLd
 have hcod: ∃vs,co.data= .fields vs:=by
  obtain⟨c,o,vs,t,q1,q2,q3,q4⟩:=e3
  cases q1;rw[e1] at q2;cases q2;exact⟨vs,q3⟩
 obtain⟨cvs,hcv⟩:=hcod;have F4:FrS G c ⟨H.own,(c',co)::H.fix,H.gen⟩ V {s2 with heap:=s2.heap.push (zjn fd)}:=F3.fixadd
  ⟨C3 _ e1,⟨e4,e5⟩,λ v e=>(by rw[hcv] at e;cases e),hloc (λ es ep e=>by rw[hcv] at e;cases e) e1,hown (λ⟨vs,n,e⟩=>by rw[hcv] at e;cases e) e1⟩
 have efn:(s2.heap.push (zjn fd)).get? s2.heap.objs.size=some (zjn fd):=D8 _ rfl;have nl1:s2.heap.objs.size≠c.env.locals:=λ e=>by
  obtain⟨m,oL,es,ep,hL,hLd,_⟩:=F2.ns;have:=C6 hL;rw[<-e] at this;exact H8 _ this
 have nl2:s2.heap.objs.size∉H.own.map (·.1):=λ hm=>by
  obtain⟨⟨b,es⟩,hp,e⟩:=C5.mp hm;obtain⟨o',us,h1,hL,_⟩:=F2.own b es hp;have:=C6 h1;rw[show b=s2.heap.objs.size from e] at this
  exact H8 _ this
 have F5:FrS G c ⟨H.own,(s2.heap.objs.size,zjn fd)::(c',co)::H.fix,H.gen⟩ V {s2 with heap:=s2.heap.push (zjn fd)}:=F4.fixadd
  ⟨efn,F3.tb.off efn (.inl λ vs e=>by cases e),λ v e=>(by cases e),nl1,nl2⟩
 refine F5.store (d:= .ptr s2.heap.objs.size) i hi hx rfl λ s6 F6 z=>C4 ?_;rw[hfd'] at F6;refine(h _ c' _ _ co (A7 F.go.size (A7 g1.size g2.size)) ⟨cvs,hcv⟩ (λ hp e=>?_)).h s6 F6;obtain⟨c,o,vs,t,q1,q2,q3,q4⟩:=e3
 cases q1;rw[e1] at q2;cases q2
 exact⟨c',co,vs,t,rfl,e,q3,q4⟩
end
section
variable{G:Gt}{w:E3}{c:Cx}{H:Hm}{V:List (Option D)}{s s':A8}
variable{P:Flow->A8->Prop}{E:Value->A8->Prop}{rest:List Stmt}
structure Ows (K:List Addr)(ow:List (Addr×List D))(s:A8):Prop where
 own: ∀a ds,(a,ds)∈ow->a∉K/\ ∃vs n,s.heap.get? a=some (M8 vs n)/\RpL (hid (K++ow.map (·.1)) s.heap) ds vs
 nd:(ow.map (·.1)).Nodup
noncomputable def Fvs (K:List Addr)(fv:List (Str×Addr×D))(s:A8):Prop:= ∀p∈fv,∃v,s.heap.IsCell p.2.1 (some v)/\Rp (hid K s.heap) p.2.2 v
structure Cl (G:Gt)(w:E3)(l:Nat)(fx:Obs)(fv:List (Str×Addr×D))(fa:Addr)(ds:List D)(ow ow':List (Addr×List D))(d:D):Prop where
 h: ∀A K s vs,Rm A l->Ok G A (K++ow.map (·.1)) s->(∀p∈fx,s.heap.get? p.1=some p.2/\p.1≠82/\p.1≠89)->Ows K ow s->Fvs (K++ow.map (·.1)) fv s->RpL (hid (K++ow.map (·.1)) s.heap) ds vs->
  ∀(Q E:Value->A8->Prop),(∀v s',GoW (ow.map (·.1)) s s'->Ows K ow' s'->Rp (hid (K++ow.map (·.1)) s'.heap) d v->Q v s')->D0 (D1 pw w) A (call (.ref fa) vs) Q E s
theorem FrS.after {ow':List (Addr×List D)}(F:FrS G c H V s)(hw: ∀a∈H.own.map (·.1),OkW c a)(g:GoW (H.own.map (·.1)) s s')(he:ow'.map (·.1)=H.own.map (·.1))(o:Ows c.K ow' s'):FrS G c (H.owns ow') V s':=by
 have own0: ∀a,a∈H.own.map (·.1)-> ∃vs n,s.heap.get? a=some (M8 vs n):=λ a ha=>by
  obtain⟨⟨b,ds⟩,hp,rfl⟩:=C5.mp ha;obtain⟨o,vs,h1,⟨n,rfl⟩,_⟩:=F.own b ds hp;exact⟨vs,n,h1⟩
 have kn: ∀{a:Addr} {o:Obj},NoF o->(∀vs n,o≠M8 vs n)->s.heap.get? a=some o->s'.heap.get? a=some o:=λ{a o} n h e=>
  g.keep a o (F.tb.off e n).1 (F.tb.off e n).2 (λ hm=>by obtain⟨vs,n,e'⟩:=own0 a hm;rw[e] at e';cases e';exact h _ _ rfl) e
 have cell: ∀{a:Addr} {v:Option Value},s.heap.IsCell a v->s'.heap.IsCell a v:=λ{a v} ⟨o,h1,h2⟩=>
  ⟨o,kn (.inl λ vs e=>by rw[h2] at e;cases e) (λ vs n e=>by rw[e] at h2;cases h2) h1,h2⟩
 have ns: ∀{mm},s.heap.Ns c.env.locals mm->s'.heap.Ns c.env.locals mm:=λ{mm} ⟨o,es,ep,h1,h2,r⟩=>
  ⟨o,es,ep,kn (.inl λ vs e=>by rw[h2] at e;cases e) (λ vs n e=>by rw[e] at h2;cases h2) h1,h2,r⟩
 have hkk:hk c (H.owns ow') true=hk c H true:=by simp only[hk,if_true,he]
 have rp: ∀b o,Sq o->hid (hk c H true) s.heap b=some o->hid (hk c H true) s'.heap b=some o:=by
  intro b o hq e;rw[hid_some] at e ⊢;have:=F.tb.off e.2 (.seq hq);exact⟨e.1,g.keep b o this.1 this.2 (λ hm=>e.1 (D4 _ hm)) e.2⟩
 refine{ok:=F.ok,go:=⟨λ a o h1 h2 h3 e=>?_,λ t=>g.tab (F.go.tab t),A7 F.go.size g.size,λ i x e=>g.gens i x (F.go.gens i x e),λ i x e=>(g.bare i x e).elim (F.go.bare i x) .inr,g.os.trans F.go.os⟩,ns:=let ⟨m,h⟩:=F.ns;⟨m,ns h⟩,vars:=λ i x d h1 h2=>?_,own:=λ a ds h=>?_,olo:=λ p h=>?_,ond:=o.nd,fix:=λ a o h=>?_,gen:=λ p h=>⟨g.gens _ _ (F.gen p h).1,(F.gen p h).2⟩,cells:=λ x a h=>let ⟨v,h1⟩:=F.cells x a h;⟨v,cell h1⟩,hdA:=λ v e=>let ⟨b,o,vs,e1,e2,e3,e4,e5⟩:=F.hdA v e;⟨b,o,vs,e1,kn e5 (λ ws n q=>by rw[q] at e3;cases e3) e2,e3,e4,e5⟩,dk:=λ p hp=>let ⟨sl,e⟩:=F.dk p hp;⟨sl,g.keep _ _ (F.ok.dkq p hp).2.2.1 (F.ok.dkq p hp).2.2.2 (λ hm=>(hw _ hm).elim (λ h=>absurd (F.ok.dkq p hp).1 (D7.mpr h)) (F.ok.dkq p hp).2.1) e⟩}
 ·refine g.keep a o h1 h2 (λ hm=>?_) (F.go.keep a o h1 h2 h3 e)
  rcases hw a hm with q|q
  ·exact absurd (C6 e) (D7.mpr q)
  ·exact h3 q
 ·obtain⟨v,h3,h4⟩:=F.vars i x d h1 h2
  rw[hkk];refine⟨v,?_,zeo rp _ _ h4⟩
  cases h3 with
  |loc hk m hn hm=>exact .loc hk m (ns hn) hm
  |cel hk a hc hv=>exact .cel hk a hc (cell hv)
 ·obtain⟨_,vs,n,h1,h2⟩:=o.own a ds h
  refine⟨_,vs,h1,zho _ _,?_⟩;exact h2
 ·exact(o.own p.1 p.2 h).1
 ·obtain⟨h1,h2,h3,h4,h5⟩:=F.fix a o h
  refine⟨g.keep a o h2.1 h2.2 h5 h1,h2,h3,h4,?_⟩;rw[he];exact h5
theorem FrS.ows (F:FrS G c H V s):Ows c.K H.own s:=⟨λ a ds h=>by
 obtain⟨o,vs,h1,⟨n,rfl⟩,h2⟩:=F.own a ds h;exact⟨F.olo _ h,vs,n,h1,h2⟩,F.ond⟩
structure Fvo (c:Cx)(V:List (Option D))(fv:List (Str×Addr×D)):Prop where
 h: ∀p∈fv,∃j:Nat,c.nm[j]? =some p.1/\V[j]? =some (some p.2.2)/\c.kl[j]? =some true/\c.env.cells.lookup p.1=some p.2.1
theorem Fvo.fvs {fv:List (Str×Addr×D)}(x:Fvo c V fv)(F:FrS G c H V s):Fvs (hk c H true) fv s:=by
 intro p hp;obtain⟨j,h1,h2,h3,h4⟩:=x.h p hp;obtain⟨v,h5,h6⟩:=F.vars j _ _ h1 h2;refine⟨v,?_,h6⟩;rcases F.ok.kd j _ h1 with⟨q,_⟩|⟨_,q,_⟩
 ·rw[h3] at q;cases q
 cases h5 with
 |loc hk m hn hm=>rcases q with q|q<;>(rw[hk] at q;cases q)
 |cel hk a hc hv=>rw[h4] at hc;cases hc;exact hv
theorem Wx.exprCl {x:Str}{p ps ps':Pos}{args:List Expr}{l:Nat}{fx:Obs}{fv:List (Str×Addr×D)}{fa:Addr}{fd:K9}{ds:List D}{ow':List (Addr×List D)}(i:Nat)(hx:c.nm[i]? =some x)(hv:V[i]? =some (some (.ptr fa)))
 (ha:As G w c H V true args ds)(hc:Cl G w l fx fv fa ds H.own ow' .none)(hl:l<=c.lv+1){nb:Bool}(hh:nb=true->c.A.handled=none)(hfx: ∀p∈fx,p∈H.fix)(hfa:(fa,zjn fd)∈fx)(hfv:Fvo c V fv)(hw: ∀a∈H.own.map (·.1),OkW c a)(he:ow'.map (·.1)=H.own.map (·.1))
 (h:Wx G w c (H.owns ow') V rest P E):Wx G w c H V (.Expr (.Call (.Name x p) args [] ps) ps'::rest) P E:=by
 refine⟨λ s F=>?_⟩;refine E8 (zgc ?_ (by unfold zc4;rw[F.ok.fn];rfl) rfl)
 obtain⟨v0,h1,h2⟩:=F.vars i x _ hx hv;obtain rfl:=Rp.p0 h2;have q:=F.ok.dbg x (A6 hx);refine L0 (T7 (h1.load F.ok.fn q.2 ?_) q.1);refine R3 (o:=zjn fd) (fd:=fd) (N2 (ha.ns _) (ha.h _ s F _ _ λ vs s1 g1 r1=>⟨⟨((F.onto g1).fix fa _ (hfx _ hfa)).1,rfl⟩,?_⟩));rw[I2];have F1:=F.onto g1;refine hc.h c.A c.K s1 vs (F1.ok.rm.le hl) (F1.okS true) (λ p hp=>let ⟨q1,q2,_⟩:=F1.fix p.1 p.2 (hfx p hp);⟨q1,q2⟩) F1.ows (hfv.fvs F1) r1 _ _ λ v s2 g2 o2 r2=>?_;rw[r2.none_inv];exact h.h s2 (F1.after hw g2 he o2)
end
structure Kd where
 sc:Scope
 body:List Stmt
 ps:List Str
 lo:List Str
 fr:List Str
 gn:List (Str×Value)
noncomputable def Kd.nm (κ:Kd):List Str:=κ.ps++κ.lo++κ.fr
noncomputable def Kd.cx (κ:Kd)(A:H2)(env:Env)(b:A8)(K wr:List Addr)(lv:Nat):Cx:=
 {A:=A,env:=env,b:=b,K:=K,nm:=κ.nm,ns:=κ.ps.length+κ.lo.length,gn:=κ.gn,lv:=lv,kl:=κ.ps.map (λ z=>false)++κ.lo.map (λ z=>false)++κ.fr.map (λ z=>true),wr:=wr,dk:=[]}
noncomputable def Kd.v0 (κ:Kd)(ds:List D)(fv:List (Str×Addr×D)):List (Option D):=ds.map some++κ.lo.map (λ z=>none)++fv.map λ p=>some p.2.2
structure Kok (G:Gt)(κ:Kd):Prop where
 kind:κ.sc.kind= .function
 gen:κ.sc.isGenerator=false
 cor:κ.sc.isCoroutine=false
 snd:(κ.sc.names.map (·.1)).Nodup
 nocell: ∀x∈κ.sc.names,x.2≠ .cell
 nd:κ.nm.Nodup
 dbg: ∀x∈κ.nm,(x==("__debug__":Str))=false/\(x==("__classdict__":Str))=false
 loc: ∀x∈κ.ps++κ.lo,κ.sc.names.lookup x=some .local
 fre: ∀x∈κ.fr,κ.sc.names.lookup x=some .free
 gns: ∀p∈κ.gn,κ.sc.names.lookup p.1=some .globalImplicit/\(p.1==("__debug__":Str))=false/\(p∈G.gtab\/(p.1∈G.bnames/\p∈G.btab))
noncomputable def yhm (c:Cx)(ow':List (Addr×List D))(d:D)(f:Flow)(s':A8):Prop:=GoW c.wr c.b s'/\Ows c.K ow' s'/\Rp (hid (c.K++ow'.map (·.1)) s'.heap) d (match f with| .ret v=>v|_=> .none)
section
variable{G:Gt}{w:E3}
theorem Cl.intro {κ:Kd}(ok:Kok G κ){l:Nat}{fx:Obs}{fv:List (Str×Addr×D)}{fa c':Addr}{co:Obj}{name q:Str}{params:zu4}{cl:List (Str×Addr)}{ct pm:Value}{ds:List D}{ow ow':List (Addr×List D)}{d:D}
 (hl:2<=l)(hlen:ds.length=κ.ps.length)(hfa:(fa,zjn (zsj name q params κ.body κ.sc cl ct (.ref c') pm))∈fx)(hco:(c',co)∈fx)(hcr: ∀hp:P9,hp.get? c'=some co->hp.CodeRec (.ref c') q)
 (hfx: ∀p∈fx,(∀v,p.2.data≠ .cell v)/\(∀es ep,p.2.data≠ .dict es ep)/\ ¬Sq p.2)
 (hbind: ∀vals:List Value,vals.length=κ.ps.length->zay (zsj name q params κ.body κ.sc cl ct (.ref c') pm) ⟨vals,[]⟩=pure (κ.ps.zip vals))
 (hap:cl.Pairwise λ x y=>x.2≠y.2)(hcl: ∀x a,(x,a)∈cl->(x,P7)∈κ.sc.names)(hfr:fv.map (·.1)=κ.fr)(hfv: ∀p∈fv,cl.lookup p.1=some p.2.1)(hcells: ∀x a,cl.lookup x=some a-> ∃p∈fv,p.1=x)(he:ow'.map (·.1)=ow.map (·.1))
 (h: ∀A env b K lv,lv+2=l->(false=true->A.handled=none)->env.scope=κ.sc->env.cells=cl-> ∀(E:Value->A8->Prop),Wx G w (κ.cx A env b K (ow.map (·.1)) lv) ⟨ow,fx,[]⟩ (κ.v0 ds fv) κ.body (yhm (κ.cx A env b K (ow.map (·.1)) lv) ow' d) E):
 Cl G w l fx fv fa ds ow ow' d:=by
 refine⟨λ A K s vs hr gok hf ho hfvs hv Q E k=>?_⟩;have hvl:vs.length=κ.ps.length:=hv.length.trans hlen
 let fd:=zsj name q params κ.body κ.sc cl ct (.ref c') pm
 have hmemps: ∀x∈κ.ps.zip vs,κ.sc.names.lookup x.1=some .local:=λ x hx=>ok.loc x.1 (D3 _ (zm0 hx).1);refine zif (codeAny_call_def (fd:=fd) hr.room (hf _ hfa).1 rfl gok.gnd.nl (hcr _ (hf _ hco).1) rfl (zgt (hbind vs hvl)) ok.nocell hmemps (λ h₀ hns hk=>?_) ok.cor ok.gen ok.kind)
 let env:=callEnv fd s.heap.objs.size fa
 let c:Cx:=κ.cx (A.deeper env) env s K (ow.map (·.1)) (l-2)
 let s₁:A8:={s with heap:=h₀,toks:=s.toks+(κ.ps.zip vs).length}
 have hz:s.heap.objs.size<=h₀.objs.size:=K3 hns.lt;have hgo:Go s s₁:=Go.of hk hz rfl rfl;have hnm: ∀(i:Nat) x,κ.nm[i]? =some x->(i<κ.ps.length+κ.lo.length/\x∈κ.ps++κ.lo/\(κ.ps++κ.lo)[i]? =some x)\/(κ.ps.length+κ.lo.length<=i/\κ.fr[i-(κ.ps.length+κ.lo.length)]? =some x):=by
  intro i x hx;unfold Kd.nm at hx;rcases O3 i (κ.ps.length+κ.lo.length) with q'|q'
  ·rw[I3 (by simpa using q')] at hx
   exact .inl ⟨q',A6 hx,hx⟩
  ·rw[M0 (by simpa using q')] at hx
   exact .inr ⟨q',by simpa using hx⟩
 have hcok:COk G c:=by
  refine{rm:=?_,fn:=ok.kind,gl:=rfl,bi:=rfl,lo:=D2 _,nd:=ok.nd,dbg:=ok.dbg,apart:=hap,own:=λ i x a hi hx ha=>?_,sto:=λ i x hi hx=>?_,kd:=λ i x hx=>?_,gns:=λ p hp=>ok.gns p hp,gnd:=gok.gnd,tb:=gok.tb,kl:=λ a ha=>gok.kl a (D3 _ ha),wrq:=λ a ha=>?_,dkq:=λ p h=>(nomatch h)}
  ·exact⟨by show A.depth+1+(l-2+1)<=600;have:=hr.1;omega,by show A.units+3+20*(l-2+1)<=9000;have:=hr.2;omega⟩
  ·exfalso
   rcases hnm i x hx with⟨_,hm,_⟩|⟨hm,_⟩
   ·have e1:=ok.loc x hm
    have e2:=zcb ok.snd (hcl x a (mem_of_lookup ha));rw[e1] at e2;cases e2
   ·exact absurd hi (D7.mpr hm)
  ·rcases hnm i x hx with⟨_,hm,_⟩|⟨hm,_⟩
   ·exact .inl (ok.loc x hm)
   ·exact absurd hi (D7.mpr hm)
  ·have hkl:c.kl=κ.ps.map (λ z=>false)++κ.lo.map (λ z=>false)++κ.fr.map (λ z=>true):=rfl
   rcases hnm i x hx with⟨hi,hm,_⟩|⟨hi,hm⟩
   ·refine .inl ⟨?_,ok.loc x hm⟩
    rw[hkl,I3 (by simpa using hi),<-J2,B7]
    rw[B3 (by simpa using hi)];rfl
   ·refine .inr ⟨?_,.inr (ok.fre x (A6 hm)),?_⟩
    ·rw[hkl,M0 (by simpa using hi),B7]
     simp only[K1,B5];rw[hm];rfl
    ·have:x∈fv.map (·.1):=by rw[hfr];exact A6 hm
     obtain⟨p,hp,rfl⟩:=C5.mp this;exact⟨_,hfv p hp⟩
  ·obtain⟨⟨b,es⟩,hp,rfl⟩:=C5.mp ha
   obtain⟨_,vs',n,e,_⟩:=ho.own b es hp;exact⟨vs',n,e⟩
 have hkk:Internal.hk c ⟨ow,fx,[]⟩ true=K++ow.map (·.1):=rfl;have F:FrS G c ⟨ow,fx,[]⟩ (κ.v0 ds fv) s₁:=by
  refine{ok:=hcok,go:=hgo.toW,ns:=⟨_,hns⟩,vars:=λ i x d' hx hd=>?_,own:=λ a es h=>?_,olo:=λ p h=>(ho.own p.1 p.2 h).1,ond:=ho.nd,fix:=λ a o h=>?_,gen:=λ p h=>(nomatch h),cells:=λ x a h=>?_,hdA:=gok.hd.go hgo gok.tb,dk:=λ p h=>(nomatch h)}
  ·unfold Kd.v0 at hd
   rcases hnm i x hx with⟨hi,hm,hx'⟩|⟨hi,hm⟩
   ·rw[I3 (by simpa [hlen] using hi)] at hd
    rcases O3 i κ.ps.length with q'|q'
    ·rw[I3 (by simpa [hlen] using q'),B7] at hd
     rw[I3 q'] at hx'
     cases e:ds[i]? with
     |none=>rw[e] at hd;cases hd
     |some d₁=>
      rw[e] at hd;cases hd;obtain⟨v,h1,h2⟩:=hv.get e;refine⟨v,.loc (ok.loc x hm) _ hns ?_,h2.go hgo gok.tb⟩;have hz':(x,v)∈κ.ps.zip vs:=K4.mpr ⟨i,by rw[O8];exact⟨hx',h1⟩⟩
      have hnd:((κ.ps.zip vs).reverse.map (·.1)).Nodup:=by
       rw[zn9,zdh (by omega)]
       refine(List.reverse_perm _).nodup_iff.mpr ?_;have:=ok.nd;unfold Kd.nm at this;exact(zm1.mp (zm1.mp this).1).1
      exact zcb hnd (List.mem_reverse.mpr hz')
    ·rw[M0 (by simpa [hlen] using q'),B7] at hd
     cases e:κ.lo[i-(zt2 some ds).length]? with
     |none=>rw[e] at hd;cases hd
     |some y=>rw[e] at hd;cases hd
   ·rw[M0 (by simpa [hlen] using hi),B7] at hd
    simp only[K1,B5,hlen] at hd
    cases e:fv[i-(κ.ps.length+κ.lo.length)]? with
    |none=>rw[e] at hd;cases hd
    |some p=>
     rw[e] at hd;simp only[zak,zck] at hd;have hpm:=A6 e;have hpx:p.1=x:=by
      have:(fv.map (·.1))[i-(κ.ps.length+κ.lo.length)]? =some p.1:=by rw[B7,e];rfl
      rw[hfr,hm] at this;cases this;rfl
     obtain⟨v,h1,h2⟩:=hfvs p hpm;subst hpx;refine⟨v,.cel (.inr (ok.fre _ (A6 hm))) p.2.1 (hfv p hpm) (zfr.go h1 hgo gok.tb),?_⟩;rw[<-hd];exact h2.go hgo gok.tb
  ·obtain⟨_,vs',n,e,r⟩:=ho.own a es h
   exact⟨_,vs',hk _ _ e,zho _ _,r.go hgo gok.tb⟩
  ·obtain⟨e1,e2,e3⟩:=hf (a,o) h
   obtain⟨n1,n2,n3⟩:=hfx (a,o) h;refine⟨hk _ _ e1,⟨e2,e3⟩,n1,λ q'=>?_,λ hm=>?_⟩
   ·have:=C6 e1
    rw[show(a,o).1=s.heap.objs.size from q'] at this
    exact H8 _ this
   ·obtain⟨⟨b,es⟩,hp,rfl⟩:=C5.mp hm
    obtain⟨_,vs',n,e,_⟩:=ho.own b es hp;rw[show s.heap.get? b=some o from e1] at e;cases e
    exact n3 ⟨_,_,rfl⟩
  ·obtain⟨p,hp,rfl⟩:=hcells x a h
   have:=hfv p hp;rw[show cl.lookup p.1=some a from h] at this;cases this
   obtain⟨v,h1,_⟩:=hfvs p hp;exact⟨_,zfr.go h1 hgo gok.tb⟩
 have hw:=(h (A.deeper env) env s K (l-2) (by omega) (λ e=>(nomatch e)) rfl rfl λ z z=>False).h s₁ F
 refine E7 hw (λ f s' hp=>?_) λ e s' hp=>hp.elim;obtain⟨h1,h2,h3⟩:=hp;rw[he] at h3;exact k _ s' h1 h2 h3
end
section
variable{G:Gt}{w:E3}{c:Cx}{H:Hm}{V:List (Option D)}{s s':A8}
theorem Bf.lenL {l:List D}(hz:l.length<2^62):Bf G w (.builtin "len") [.lst l] (.int l.length):=by
 refine⟨λ A K s vs ok r=>⟨λ Q E k=>?_⟩⟩;obtain⟨v,rfl,rv⟩:=zc0 r;obtain⟨a,o,vs,rfl,ho,hL,hl⟩:=rv.lst_inv;rw[hid_some] at ho;have e:=hl.length;refine Calls.call_len_list (hL.isList ho.2) (by simp only[I1];omega) ?_
 have k':=k (.int (vs.toArray.size:Nat) (s.toks+1)) _ (R1 s (s.toks+1+1)) (by simp only[I1,e];exact .int')
 exact k'
theorem Bf.lenS {x:Str}(hz:(x.length:Int)<2^62):Bf G w (.builtin "len") [.str x] (.int x.length):=by
 refine⟨λ A K s vs ok r=>⟨λ Q E k=>?_⟩⟩;obtain⟨v,rfl,rv⟩:=zc0 r;obtain⟨t,rfl⟩:=rv.str_inv;have k':=k (.int x.length (s.toks+1)) _ (R1 s (s.toks+1+1)) .int';exact PyProof.Rows.len_str (by omega) k'
end
open Internal.Bf renaming lenL->zb1
section
variable{G:Gt}{w:E3}{c:Cx}{H:Hm}{V:List (Option D)}{s s':A8}
theorem Ev.callCl {x:Str}{p ps:Pos}{args:List Expr}{l:Nat}{fx:Obs}{fv:List (Str×Addr×D)}{fa:Addr}{fd:K9}{ds:List D}{d:D}(i:Nat)(hx:c.nm[i]? =some x)(hv:V[i]? =some (some (.ptr fa)))
 (ha:As G w c H V true args ds)(hc:Cl G w l fx fv fa ds [] [] d)(hl:l<=c.lv+1){nb:Bool}(hh:nb=true->c.A.handled=none)(hfx: ∀p∈fx,p∈H.fix)(hfa:(fa,zjn fd)∈fx)(hfv:Fvo c V fv)(ho:H.own=[]):
 Ev G w c H V true (.Call (.Name x p) args [] ps) d:=by
 refine .mk' λ s F Q E k=>?_;have hkk:hk c H true=c.K++([]:List (Addr×List D)).map (·.1):=by simp only[hk,if_true,ho]
 obtain⟨v0,h1,h2⟩:=F.vars i x _ hx hv;obtain rfl:=Rp.p0 h2;have q:=F.ok.dbg x (A6 hx);refine L0 (T7 (h1.load F.ok.fn q.2 ?_) q.1);refine R3 (o:=zjn fd) (fd:=fd) (N2 (ha.ns _) (ha.h _ s F _ _ λ vs s1 g1 r1=>⟨⟨((F.onto g1).fix fa _ (hfx _ hfa)).1,rfl⟩,?_⟩));rw[I2];have F1:=F.onto g1;have ok1:=F1.okS true;have fv1:=hfv.fvs F1;rw[hkk] at ok1 r1 fv1;refine hc.h c.A c.K s1 vs (F1.ok.rm.le hl) ok1 (λ p hp=>let ⟨q1,q2,_⟩:=F1.fix p.1 p.2 (hfx p hp);⟨q1,q2⟩) ⟨λ a ds h=>(nomatch h),U7⟩ fv1 r1 _ _ λ v s2 g2 o2 r2=>?_
 refine k v s2 (g1.trans (GoW.nil g2)) ?_;rw[hkk];exact r2
end
section
variable{G:Gt}{w:E3}{c:Cx}{H:Hm}{V:List (Option D)}{s s':A8}
theorem Iv.rev {t:Expr}{p ps:Pos}{e:Expr}{l:List D}{nb:Bool}(hh:nb=true->c.A.handled=none)(hf:Nv G w c (.Name "reversed" p) (.type "reversed"))(ha:As G w c H V true [e] [.lst l]):
 Iv G w c H V t (.Call (.Name "reversed" p) [e] [] ps) l.reverse:=by
 refine⟨λ s₀ F Q E kq=>?_⟩
 with_reducible refine L0 (hf.h H V s₀ F _ _ (O7 (ha.ns _) (N2 (ha.ns _) (ha.h _ s₀ F _ _ λ vs s g1 r1=>?_))))
 obtain⟨v,rfl,rv⟩:=zc0 r1;obtain⟨ax,ol,vs,rfl,ho,hL,hl⟩:=rv.lst_inv;rw[hid_some] at ho;obtain⟨fo,hf1,hf2⟩:=RpL.foot _ _ hl;have hI:=hL.isList ho.2;have el:=hl.length;have ok:=(F.onto g1).okS true;have hlt: ∀a o,s.heap.get? a=some o->a∉[s.heap.objs.size]:=λ a o e q=>by rw[B2] at q;exact H8 _ (q▸C6 e)
 have ent:(s.heap.push (revObj ax ((vs.toArray.size:Int)-1))).get? s.heap.objs.size=some (revObj ax ((vs.toArray.size:Int)-1)):=D8 _ rfl;refine call_reversed_list hI ?_;refine wpAny_pyIter_revIter ⟨_,ent,rfl,rfl⟩ ?_;refine kq _ _ [s.heap.objs.size] [] _ ((s.heap.objs.size,revObj ax ((vs.toArray.size:Int)-1))::(ax,ol)::fo) [] (g1.trans (Z0 s _))
  ((Itr.seq (K:=hk c H true) (b:=s.heap.objs.size) (gb:=s.gens.size) ((ax,ol)::fo) (λ k its=> ∃o,its=[(s.heap.objs.size,o)]/\o.cls= .type "list_reverseiterator"/\o.data= .fields #[.ref ax,I6 ((l.length:Int)-1-k)]) ?_ ?_ ?_ ?_ ?_ ?_ ?_).le g1.size g1.gle)
  ⟨rfl,[_],rfl,_,rfl,rfl,?_⟩ ?_ (λ p hp=>nomatch hp)
 ·intro a ha;rw[B2] at ha;exact Q0 ha.symm
 ·intro a ha hK;rw[B2] at ha;exact H8 _ (ha▸ok.kl a hK)
 ·intro p hp
  rcases B9.mp hp with q|q
  ·subst q;exact⟨hL.sq,ho.1,hlt _ _ ho.2⟩
  ·obtain⟨h1,h2⟩:=hf1 p q
   rw[hid_some] at h1;exact⟨h2,h1.1,hlt _ _ h1.2⟩
 ·rintro k its ⟨o,rfl,h1,h2⟩
  refine⟨rfl,λ p hp=>?_⟩;rw[B2] at hp;subst hp;exact⟨_,_,h1,by decide,h2⟩
 ·rintro k d its s1 hd ⟨o,rfl,h1,h2⟩ hits hob Q E kk
  have hkl:k<l.length:=by have:=(C7.mp hd).1;simpa using this
  rw[zi6 hkl] at hd;obtain⟨v,hv,rv⟩:=hl.get hd;have e1:=hits _ (H4 _);have e2:=hob _ A9;have hit:s1.heap.IsRevIter s.heap.objs.size ax ((l.length-1-k:Nat):Int):=⟨o,e1,h1,by rw[h2,<-rv0 hkl]⟩
  refine wpAny_pyNext_rev_item (items:=vs.toArray) hit (hL.isList e2) (by simpa using hv) λ h' hit' hs'=>⟨v,rfl,?_⟩
  obtain⟨o',q1,q2,q3⟩:=hit';refine zcs (T:= "list_reverseiterator") q1 q2 (by decide) ?_
  refine kk v _ [(_,o')] (Mv.same (tk:=s1.toks) hs') ⟨o',rfl,q2,?_⟩ (λ p hp=>by rw[B2] at hp;subst hp;exact q1) ⟨fo,λ p hp=> .inl (B1 _ hp),λ g' hg=>?_⟩
  ·rw[q3,rv0 hkl,yaw];rfl
  ·obtain⟨v',hv',rv'⟩:=(hf2 g' hg).get hd
   rw[hv] at hv';cases hv';exact rv'
 ·rintro its s1 ⟨o,rfl,h1,h2⟩ hits hob hhd Q E kk
  have e1:=hits _ (H4 _);have hit:s1.heap.IsRevIter s.heap.objs.size ax (-1):=⟨o,e1,h1,by rw[h2,show(l.length:Int)-1-(l.reverse.length:Nat)= -1 by rw[ze9];omega]⟩
  refine Q4 (zud hhd hit λ h' hs' hz=>?_);exact kk _ (Mv.ext (tk:=s1.toks) hs' hz)
 ·rintro k its s1 ⟨o,rfl,h1,h2⟩ hits Q E q
  exact wpAny_pyIter_revIter ⟨o,hits _ (H4 _),h1,h2⟩ q
 ·show(revObj ax ((vs.toArray.size:Int)-1)).data=_
  unfold revObj;rw[I1,el,show(l.length:Int)-1-((0:Nat):Int)=(l.length:Int)-1 by omega]
 ·intro p hp
  rcases B9.mp hp with q|q
  ·subst q;exact ent
  ·refine C3 _ ?_
   rcases B9.mp q with q|q
   ·subst q;exact ho.2
   ·have:=(hf1 p q).1;rw[hid_some] at this;exact this.2
end
noncomputable def stN (i:Nat):Stmt:=(pw.main.body[i]?).getD (.Pass ⟨0,0,0,0⟩)
noncomputable def ybj (st:Stmt)(mod:Str)(tk:Tok)(code:Addr)(dflt:Value):K9:=match st with
 | .FunctionDef name args body _ _ _ scope _ _ _=>{docDef name args body scope (.str mod tk) (.ref code) .none with defaults:=dflt}
 |_=>default
noncomputable def ybl:K9:=ybj (stN 9) "cpy313._pylong" 332 72 .none
noncomputable def ybk:K9:=ybj (stN 10) "cpy313._pylong" 332 79 .none
noncomputable def yfe:K9:=ybj (stN 11) "cpy313._pylong" 332 86 .none
noncomputable def yfj:K9:=ybj (stN 12) "cpy313._pylong" 332 93 .none
noncomputable def yfi:K9:=ybj (stN 13) "cpy313._pylong" 332 100 .none
noncomputable def ydg:K9:=ybj (stN 14) "cpy313._pylong" 332 107 .none
noncomputable def fdIec:K9:=ybj (stN 3) "cpy313.email.utils" 289 44 .none
noncomputable def ye5:K9:=ybj (stN 4) "cpy313.email.utils" 289 51 .none
noncomputable def yfk:K9:=ybj (stN 5) "cpy313.email.utils" 289 58 .none
noncomputable def yfa:K9:=ybj (stN 6) "cpy313.email.utils" 289 65 .none
noncomputable def ye9:K9:=ybj (stN 19) "cpy313.smtplib" 414 124 .none
noncomputable def yfh:K9:=ybj (stN 24) "cpy313.wsgiref.headers" 483 147 (.ref 141)
noncomputable def meN (i:Nat):Stmt:=match stN 25 with
 | .ClassDef _ _ _ body _ _ _ _ _ _ _=>(body[i]?).getD (.Pass ⟨0,0,0,0⟩)
 |_=> .Pass ⟨0,0,0,0⟩
noncomputable def ydz (st:Stmt)(code:Addr)(dflt:Value):K9:=match st with
 | .FunctionDef name args body _ _ _ scope _ _ _=>{docDef name args body scope (.str "cpy313.wsgiref.headers" 483) (.ref code) .none with defaults:=dflt,qualname:=("Headers.":Str)++name}
 |_=>default
noncomputable def yfd:K9:=ydz (meN 0) 162 (.ref 156)
noncomputable def zun:K9:=ydz (meN 1) 169 .none
noncomputable def yfg:K9:=ydz (meN 7) 207 .none
noncomputable def yff:K9:=ydz (meN 8) 215 (.ref 209)
noncomputable def yfc:K9:=ydz (meN 11) 232 .none
noncomputable def zz5:K9:=ydz (meN 16) 265 .none
noncomputable def yfl:K9:=ybj (stN 27) "law_ta0103_01" 746 279 .none
noncomputable def ye4:K9:=ybj (stN 28) "law_ta0103_01" 746 284 .none
noncomputable def ye6:K9:=ybj (stN 29) "law_ta0103_01" 746 289 .none
noncomputable def ye8:K9:=ybj (stN 30) "law_ta0103_01" 746 294 .none
noncomputable def yfb:K9:=ybj (stN 31) "law_ta0103_01" 746 299 .none
noncomputable def ye7:K9:=ybj (stN 32) "law_ta0103_01" 746 304 .none
noncomputable def fdLaw:K9:=ybj (stN 33) "law_ta0103_01" 746 309 .none
noncomputable def ygg (gt bt:List Str)(bn:List Str)(ps nm:List Str)(kl:List Bool)(sc:Scope)(gi bj:List Nat):Bool:=
 decide nm.Nodup&&decide (nm.take ps.length=ps)&&decide (kl.length=nm.length)&&(nm.all λ x=> !(x==("__debug__":Str))&& !(x==("__classdict__":Str)))&&
 ((nm.zip kl).all λ p=>decide (sc.names.lookup p.1=some (if p.2 then .cell else .local)))&&
 (gi.all λ j=>match gt[j]? with|some x=>decide (sc.names.lookup x=some .globalImplicit)&& !(x==("__debug__":Str))|none=>true)&&
 (bj.all λ j=>match bt[j]? with|some x=>decide (sc.names.lookup x=some .globalImplicit)&& !(x==("__debug__":Str))&&decide (x∈bn)|none=>true)
theorem Fok.of {G:Gt}{D:Fd}{gi bj:List Nat}{b:List Stmt}(hg:D.gn=gi.filterMap (λ j=>G.gtab[j]?)++bj.filterMap λ j=>G.btab[j]?)
 (h:ygg (G.gtab.map (·.1)) (G.btab.map (·.1)) G.bnames D.ps D.nm D.kl D.fd.scope gi bj=true)
 (mem:(D.f,D.fd)∈G.ftab)(cmem:(D.c,D.fd.qualname)∈G.ctab)(code:D.fd.code= .ref D.c)(body:D.fd.body= .stmts b)
 (flat:D.fd.closure=[]/\D.fd.globals=3/\D.fd.builtins=0/\D.fd.scope.kind= .function/\D.fd.scope.isGenerator=false/\D.fd.scope.isCoroutine=false)
 (bind: ∀vals:List Value,vals.length=D.ps.length->zay D.fd ⟨vals,[]⟩=pure (D.ps.zip vals)):Fok G D:=by
 unfold ygg at h;simp only[O2,decide_eq_true_eq] at h;obtain⟨⟨⟨⟨⟨⟨h1,h2⟩,h3⟩,h4⟩,h5⟩,h6⟩,h7⟩:=h;obtain⟨f1,f2,f3,f4,f5,f6⟩:=flat;refine{mem:=mem,cmem:=cmem,code:=code,body:=by rw[body];unfold Fd.body;rw[body],clo:=f1,gl:=f2,bi:=f3,kind:=f4,gen:=f5,cor:=f6,bind:=bind,pre:=λ i x hx=>?_,nd:=h1,nms:=λ x hx=>?_,kns:=λ i x hx=>?_,gns:=λ p hp=>?_}
 ·rw[<-h2,zkd] at hx
  split at hx
  ·exact hx
  ·cases hx
 ·have:=K5.mp h4 x hx
  simpa using this
 ·have hi:=(C7.mp hx).1
  have hb:D.kl[i]? =some D.kl[i]:=B3 (by omega)
  have hz:(x,D.kl[i])∈D.nm.zip D.kl:=by
   refine K4.mpr ⟨i,?_⟩;rw[O8];exact⟨hx,hb⟩
  have:=K5.mp h5 _ hz;simp only[decide_eq_true_eq] at this
  cases q:D.kl[i] with
  |false=>rw[q] at this;exact .inl ⟨by rw[hb,q],by simpa using this⟩
  |true=>rw[q] at this;exact .inr ⟨by rw[hb,q],by simpa using this⟩
 ·rw[hg] at hp
  rcases G1.mp hp with hp|hp
  ·obtain⟨j,hj,e⟩:=T5.mp hp
   have:=K5.mp h6 j hj;rw[B7,e] at this;simp only[zak,O2,decide_eq_true_eq,zgy] at this;exact⟨this.1,this.2,.inl (A6 e)⟩
  ·obtain⟨j,hj,e⟩:=T5.mp hp
   have:=K5.mp h7 j hj;rw[B7,e] at this;simp only[zak,O2,decide_eq_true_eq,zgy] at this;exact⟨this.1.1,this.1.2,.inr ⟨this.2,A6 e⟩⟩
open Internal.Fok renaming of->zgb
noncomputable def zet (l:List Int):List Value:=l.map I6
noncomputable abbrev zh8 (x:Str)(t:Tok)(fl:Int)(ft:Tok)(cd:Addr):Obj:={cls:= .type "re.Pattern",data:= .fields #[.str x t,.int fl ft,I6 0,.none,.none,.ref cd,I6 0]}
noncomputable def G0:Gt where
 gtab:=[("_DIV_LIMIT",.int 4000 334),("_div2n1n",.ref 73),("_div3n2n",.ref 80),("__builtins__",.ref 4),("_int2digits",.ref 87),("_digits2int",.ref 94),("_divmod_pos",.ref 101),("int_divmod",.ref 108),("_iter_escaped_chars",.ref 45),("_strip_quoted_realnames",.ref 52),("_check_parenthesis",.ref 59),("_pre_parse_validation",.ref 66),("_twin_re_1",.ref 113),("_twin_re_2",.ref 118),("CRLF",.str "\r\n" 474),("quotedata",.ref 125),("tspecials",.ref 130),("_name_disallowed_re",.ref 135),("_value_disallowed_re",.ref 140),("_formatparam",.ref 148),("Headers",.ref 269),("_law_cells",.ref 280),("_law_table",.ref 285),("_law_send",.ref 290),("_law_read",.ref 295),("_law_number",.ref 300),("_law_run",.ref 305)]
 bnames:=["divmod","len","reversed","ZeroDivisionError","enumerate","range","zip","max","min","sum","str","int","type","list","ValueError"]
 btab:=[("divmod",.builtin "divmod"),("len",.builtin "len"),("reversed",.type "reversed"),("ZeroDivisionError",.type "ZeroDivisionError"),("enumerate",.type "enumerate"),("range",.type "range"),("zip",.type "zip"),("max",.builtin "max"),("min",.builtin "min"),("sum",.builtin "sum"),("str",.type "str"),("int",.type "int"),("type",.type "type"),("list",.type "list"),("ValueError",.type "ValueError")]
 ftab:=[(73,ybl),(80,ybk),(87,yfe),(94,yfj),(101,yfi),(108,ydg),(45,fdIec),(52,ye5),(59,yfk),(66,yfa),(125,ye9),(148,yfh),(163,yfd),(170,zun),(208,yfg),(216,yff),(233,yfc),(266,zz5),(280,yfl),(285,ye4),(290,ye6),(295,ye8),(300,yfb),(305,ye7),(310,fdLaw)]
 ctab:=[(72,"_div2n1n"),(79,"_div3n2n"),(86,"_int2digits"),(93,"_digits2int"),(100,"_divmod_pos"),(107,"int_divmod"),(44,"_iter_escaped_chars"),(51,"_strip_quoted_realnames"),(58,"_check_parenthesis"),(65,"_pre_parse_validation"),(124,"quotedata"),(147,"_formatparam"),(162,"Headers.__init__"),(169,"Headers._convert_string_type"),(207,"Headers.get_all"),(215,"Headers.get"),(232,"Headers.items"),(265,"Headers.add_header"),(279,"_law_cells"),(284,"_law_table"),(289,"_law_send"),(294,"_law_read"),(299,"_law_number"),(304,"_law_run"),(309,"law")]
 otab:=[(141,R4 [.none,.int 1 579] 0),(141,R4 [.none,.int 1 579] 0),(156,R4 [.none] 0),(209,R4 [.none] 0),
  (112,R4 (zet [14,4,0,1,1,6,1,16,46,1]) 0),(117,R4 (zet [14,9,4,1,2,16,10,16,13,0,7,7,16,13,16,10,15,18,5,16,10,15,13,11,16,13,5,5,0,16,10,1,15,2,0,1]) 0),
  (134,R4 (zet [14,10,4,1,1,22,0,31,16,127,0,13,7,22,0,31,16,127,0,1]) 0),(139,R4 (zet [14,14,4,1,1,9,4294966783,0,0,2147483648,0,0,0,0,0,13,11,9,4294966783,0,0,2147483648,0,0,0,0,0,1]) 0),
  (113,zh8 "(?m)^\\." 417 40 430 112),(118,zh8 "(?:\\r\\n|\\n|\\r(?!\\n))" 433 32 472 117),(135,zh8 "[\\x00-\\x1F\\x7F]" 520 32 543 134),(140,zh8 "[\\x00-\\x08\\x0A-\\x1F\\x7F]" 546 32 577 139)]
 clst:=[(269,268,[("__init__",.ref 163),("_convert_string_type",.ref 170),("get_all",.ref 208),("get",.ref 216),("items",.ref 233),("add_header",.ref 266)],["__setattr__","__getattribute__","__getattr__","_headers","__new__"])]
noncomputable def F3n2n:Fd where
 f:=80
 c:=79
 fd:=ybk
 ps:=["a12","a3","b","b1","b2","n"]
 nm:=["a12","a3","b","b1","b2","n","q","r"]
 kl:=[false,false,false,false,false,false,false,false]
 gn:=[("_div2n1n",.ref 73)]
theorem ydv:Fok G0 F3n2n:=zgb (gi:=[1]) (bj:=[]) rfl (by decide+kernel) (A6 (i:=1) rfl) (A6 (i:=1) rfl) rfl rfl ⟨rfl,rfl,rfl,rfl,rfl,rfl⟩
 (yhk λ a b c d e f=>rfl)
noncomputable def F2n1n:Fd where
 f:=73
 c:=72
 fd:=ybl
 ps:=["a","b","n"]
 nm:=["a","b","n","pad","half_n","mask","b1","b2","q1","r","q2"]
 kl:=[false,false,false,false,false,false,false,false,false,false,false]
 gn:=[("_DIV_LIMIT",.int 4000 334),("_div3n2n",.ref 80),("divmod",.builtin "divmod")]
theorem zxy:Fok G0 F2n1n:=zgb (gi:=[0,2]) (bj:=[0]) rfl (by decide+kernel) (A6 (i:=0) rfl) (A6 (i:=0) rfl) rfl rfl ⟨rfl,rfl,rfl,rfl,rfl,rfl⟩
 (yd0 λ a b c=>rfl)
set_option maxHeartbeats 4000000
noncomputable def fragOf (h:P9):List Addr->Frag
 |[]=>[]
 |a::r=>match h.get? a with
  |some o=>(a,o)::fragOf h r
  |none=>fragOf h r
theorem zl9 (h:P9): ∀as:List Addr,(fragOf h as).In h
 |[],a,o,e=>by cases e
 |b::r,a,o,e=>by
  unfold fragOf at e;split at e
  ·rename_i h'
   rw[zal] at e;split at e
   ·rename_i q
    cases e;rw[beq_iff_eq.mp q];exact h'
   ·exact zl9 h r a o e
  ·exact zl9 h r a o e
noncomputable def yhg:List Addr:=3::268::G0.ctab.map (·.1)
noncomputable def yfq:ClassData:={name:= "Headers",bases:=[.type "object"],mro:=[.ref 269,.type "object"],ns:=268,qualname:= "Headers"}
noncomputable def zw3:Obj:={cls:= .type "type",dict:=none,data:= .cls yfq,slots:= #[none,none,some (.str "Headers" 589),some (.str "Headers" 597),some (.builtin "object.__new__"),some (.bool true)]}
noncomputable def hdObs:List (Addr×Obj):=G0.ftab.map (λ p=>(p.1,{cls:= .type "function",data:= .func p.2}))++(G0.otab++[(269,zw3),(82,zx2 #[]),(89,zx2 #[])])
noncomputable def mNs:List (Str×Value):=[("__init__",.ref 163),("_convert_string_type",.ref 170),("get_all",.ref 208),("get",.ref 216),("items",.ref 233),("add_header",.ref 266)]
noncomputable def nNs:List Str:=["__setattr__","__getattribute__","__getattr__","_headers","__new__"]
noncomputable abbrev Seen:=List (Option (Option Value))×List (Option (Option Value))×List Bool
noncomputable def ych (K:Frag):Seen:=(((("law":Str),N0 310)::G0.gtab).map (λ p=>nsIn K 3 p.1)++G0.bnames.map (nsIn K 3),mNs.map (λ p=>nsIn K 268 p.1)++nNs.map (nsIn K 268),
 codeHdIn K 86 82::codeHdIn K 93 89::nsOkIn K 268::G0.ctab.map λ p=>codeIn K (.ref p.1) p.2)
noncomputable def yci:Seen:=(((("law":Str),N0 310)::G0.gtab).map (λ p=>some (some p.2))++G0.bnames.map (λ z=>some none),mNs.map (λ p=>some (some p.2))++nNs.map (λ z=>some none),
 true::true::true::G0.ctab.map λ z=>true)
noncomputable def yF (s:A8):Seen×List (Option Obj):=(ych (fragOf s.heap yhg),hdObs.map λ p=>s.heap.get? p.1)
noncomputable def yA (_:E3):Seen×List (Option Obj):=(yci,hdObs.map λ p=>some p.2)
noncomputable def yP (_:E3)(h:P9):Prop:=(∃K:Frag,K.In h/\ych K=yci)/\ ∀p∈hdObs,h.get? p.1=some p.2
noncomputable abbrev qv:Program:=view pw [0,33]
noncomputable def ybd:List Str:=["_sre","_wall","_iter_escaped_chars","_strip_quoted_realnames","_check_parenthesis","_pre_parse_validation","_DIV_LIMIT","_div2n1n","_div3n2n","_int2digits","_digits2int","_divmod_pos","int_divmod",
 "_twin_re_1","_twin_re_2","CRLF","quotedata","tspecials","_name_disallowed_re","_value_disallowed_re","_formatparam","Headers","_law_cells","_law_table","_law_send","_law_read","_law_number","_law_run"]
abbrev rowL:=zcu.row
theorem zyp:LeftO pw qv ybd (λ s=>recOk (RowW.records rowL.toRowW) s) yF yA 3700:=λ w=>by kernel_rfl
section
variable{G:Gt}{w:E3}{c:Cx}{H:Hm}{V:List (Option D)}{s s':A8}
section SStr
variable{x y:Str}
theorem Bi.addS (hz:x.length+y.length<=H5):Bi G w .Add (.str x) (.str y) (.str (x++y)):=by
 refine⟨λ A K s v1 v2 ok r1 r2=>⟨λ Q E k=>?_⟩⟩;obtain⟨t,rfl⟩:=r1.str_inv;obtain⟨u,rfl⟩:=r2.str_inv;exact zpc (λ t' tk=>k (.str (x++y) t') _ (R1 s tk) .str') hz
theorem Bi.mulS {n:Int}(h:MulOk x n):Bi G w .Mult (.str x) (.int n) (.str (zbn x n)):=by
 refine⟨λ A K s v1 v2 ok r1 r2=>⟨λ Q E k=>?_⟩⟩;obtain⟨t,rfl⟩:=r1.str_inv;obtain⟨u,rfl⟩:=r2.int_inv;exact SB.mul h λ t' tk=>k (.str (zbn x n) t') _ (R1 s tk) .str'
theorem Cm.eqS:Cm G w .Eq (.str x) (.str y) (.bool (x==y)):=by
 refine⟨λ A K s v1 v2 ok r1 r2=>⟨λ Q E k=>?_⟩⟩;obtain⟨t,rfl⟩:=r1.str_inv;obtain⟨u,rfl⟩:=r2.str_inv;exact zhm (k _ s (M4 s) .bool')
theorem Cm.neS:Cm G w .NotEq (.str x) (.str y) (.bool (x != y)):=by
 refine⟨λ A K s v1 v2 ok r1 r2=>⟨λ Q E k=>?_⟩⟩;obtain⟨t,rfl⟩:=r1.str_inv;obtain⟨u,rfl⟩:=r2.str_inv;exact PyProof.Rows.ne_str (k _ s (M4 s) .bool')
theorem Cm.inS:Cm G w .In (.str y) (.str x) (.bool !(L4 x y 0 x.length 1).isEmpty):=by
 refine⟨λ A K s v1 v2 ok r1 r2=>⟨λ Q E k=>?_⟩⟩;obtain⟨t,rfl⟩:=r1.str_inv;obtain⟨u,rfl⟩:=r2.str_inv;exact PyProof.Rows.in_str (k _ s (M4 s) .bool')
theorem Cm.notInS:Cm G w .NotIn (.str y) (.str x) (.bool (L4 x y 0 x.length 1).isEmpty):=by
 refine⟨λ A K s v1 v2 ok r1 r2=>⟨λ Q E k=>?_⟩⟩;obtain⟨t,rfl⟩:=r1.str_inv;obtain⟨u,rfl⟩:=r2.str_inv;exact PyProof.Rows.notIn_str (by have:=k (.bool (L4 x y 0 x.length 1).isEmpty) s (M4 s) .bool';simpa using this)
theorem Gi.str {i:Int}{ch:Nat}(h0:0<=i)(hz:i<2^62)(h:x.cps[i.toNat]? =some ch):Gi G w (.str x) (.int i) (.str ⟨#[ch]⟩):=by
 refine⟨λ A K s v1 v2 ok r1 r2=>?_⟩;obtain⟨t,rfl⟩:=r1.str_inv;obtain⟨u,rfl⟩:=r2.int_inv;refine⟨⟨"str",_,zf6.lookup,zbt s x t⟩,⟨λ Q E k=>?_⟩⟩;refine PyProof.Rows.getItem_str (c:=ch) (by simp;omega) ?_ (k (.str ⟨#[ch]⟩ s.toks) _ (R1 s _) .str')
 have hl:=(J4.mp h).1;have:seqIndex? i x.length=some i.toNat:=by
  unfold seqIndex?;have hl':i<(x.length:Int):=by show i<((x.cps.size:Nat):Int);omega
  simp[h0,hl'];omega
 rw[this];exact h
end SStr
structure Pt (G:Gt)(w:E3)(c:Cx)(H:Hm)(V:List (Option D))(o:Option Expr)(v:Option Int):Prop where
 h: ∀s,FrS G c H V s-> ∀(Q E:Value->A8->Prop),(∀l s',Go s s'->l.map (·.1)=v->Q (partValue l) s')->D0 (D1 pw w) c.A (evalPart o c.env) Q E s
theorem Pt.none:Pt G w c H V none none:=⟨λ s F Q E k=>C4 (k Option.none s (M4 s) rfl)⟩
theorem Pt.some {e:Expr}{i:Int}(h:Ev G w c H V true e (.int i)):Pt G w c H V (some e) (some i):=⟨λ s F Q E k=>h.r F λ v s' g r=>by
 obtain⟨t,rfl⟩:=r.int_inv;exact k (Option.some (i,t)) s' g rfl⟩
theorem Ev.sliceS {f:Bool}{value:Expr}{lower upper:Option Expr}{p pos:Pos}{x:Str}{lo hi:Option Int}(h:Ev G w c H V f value (.str x))(hl:Pt G w c H V lower lo)(hu:Pt G w c H V upper hi)(hz:x.length<=H5)
 (ht: ∀o r,zmv value o r=pure ():=by intro _ _;rfl):Ev G w c H V f (.Subscript value (.Slice lower upper none p) pos) (.str (T9 x lo hi)):=by
 refine .mk' λ s F Q E k=>?_;refine wpAny_Subscript_str_slice (h.r F λ v s1 g1 r1=>hl.h s1 (F.onto g1) _ _ λ l s2 g2 e1=>hu.h s2 ((F.onto g1).onto g2) _ _ λ u s3 g3 e2=>?_) ht;obtain⟨t,rfl⟩:=r1.str_inv;refine⟨x,t,l,u,rfl,rfl,rfl,?_⟩;subst e1 e2;refine zug ⟨A7 (zjw x _ _) hz,λ t' tk=>?_⟩;exact k (.str (T9 x (l.map (·.1)) (u.map (·.1))) t') _ (((g1.trans g2).trans g3).trans (zmn s3 _ tk)) .str'
theorem RpL.drop {g:Addr->Option Obj}: ∀{l:List D} {vs:List Value} (n:Nat),RpL g l vs->RpL g (l.drop n) (vs.drop n)
 |l,vs,0,h=>h
 |[],vs,n+1,h=>by obtain rfl:=h.i0;exact Z8
 |d::r,vs,n+1,h=>by
  obtain⟨v,us,rfl,_,h2⟩:=zgw h;exact RpL.drop n h2
theorem RpL.take {g:Addr->Option Obj}: ∀{l:List D} {vs:List Value} (n:Nat),RpL g l vs->RpL g (l.take n) (vs.take n)
 |l,vs,0,h=>by simpa using Z8
 |[],vs,n+1,h=>by obtain rfl:=h.i0;exact Z8
 |d::r,vs,n+1,h=>by
  obtain⟨v,us,rfl,h1,h2⟩:=zgw h;exact U4 h1 (RpL.take n h2)
noncomputable def zy8 (lo hi:Option Int)(l:List D):List D:=match lo,hi with
 |none,none=>l
 |some a,none=>l.drop a.toNat
 |none,some b=>l.take b.toNat
 |some a,some b=>(l.take b.toNat).drop a.toNat
theorem zs4 {A:H2}{env:Env}{s:A8}{E:Value->A8->Prop}{value:Expr}{lower upper:Option Expr}{p pos:Pos}{T id:String}{Q:Value->A8->Prop}
 (hl:Z3 (.type T) "__getitem__"=pure (some (.builtin id)))
 (h:D0 (D1 pw w) A (M3 value env) (λ o s₁=>D0 (D1 pw w) A (M3 (.Slice lower upper none p) env) (λ i s₂=>s₂.TypeIs o T/\D0 (D1 pw w) A (getItem o i) Q E s₂) E s₁) E s):
 D0 (D1 pw w) A (M3 (.Subscript value (.Slice lower upper none p) pos) env) Q E s:=by
 rw[zmx];refine B0 (E7 h (λ o s₁ h₁=>B0 (J8 (E7 h₁ (λ i s₂ h₂=>B0 (K7 ?_)) λ z z x=>x)))
  λ z z x=>x)
 have fin:D0 (D1 pw w) A (operate [i,o] (getItem o i)) (λ r s₃=>D0 (D1 pw w) A (zmv value o r >>= λ z=>pure r) Q E s₃) E s₂:=
  zk9 (E7 h₂.2 (λ r s₃ h₃=>B0 (zft (C4 h₃))) λ z z x=>x)
 first
  |(refine B0 ?_
    rw[ze3 h₂.1.not_modules];refine B0 (Y0 h₂.1 hl ?_)
    first
     |exact C4 (B0 fin)
     |exact B0 (C4 (B0 fin))
     |exact B0 fin)
  |(refine B0 (Y0 h₂.1 hl ?_)
    first
     |exact B0 (C4 (B0 fin))
     |exact B0 fin)
theorem Nl.slice {f:Bool}{value:Expr}{lower upper:Option Expr}{p pos:Pos}{l:List D}{lo hi:Option Int}(h:Ev G w c H V f value (.lst l))(hl:Pt G w c H V lower lo)(hu:Pt G w c H V upper hi)(hz:l.length<=H5)
 (hok:(∀a,lo=some a->0<=a)/\(∀b,hi=some b->0<=b)/\(lo=none\/hi=none)):Nl G w c H V f (.Subscript value (.Slice lower upper none p) pos) (zy8 lo hi l):=by
 refine⟨λ s F Q E k=>?_⟩;refine zs4 list_getitem_lookup (h.r F λ v s1 g1 r1=>wpAny_Slice (hl.h s1 (F.onto g1) _ _ λ lv s2 g2 e1=>hu.h s2 ((F.onto g1).onto g2) _ _ λ uv s3 g3 e2=>?_));rw[zz7];refine C4 ?_;obtain⟨a,o,vs,rfl,ho,hL,hr⟩:=(r1.go (g2.trans g3) (F.onto g1).tb).lst_inv;have ho':=ho;rw[hid_some] at ho';have hI:=hL.isList ho'.2;have el:=hr.length;refine⟨(hI.push _).typeIs,?_⟩;have part: ∀q:Option (Int×Tok),IsPart (partValue q) (q.map (·.1)):=λ q=>by
  cases q with
  |none=>exact .none
  |some p=>exact .int p.1 p.2
 subst e1 e2;refine wpAny_getItem_list_slice (hI.push _) (Heap.IsSliceOf.new ..) (part lv) (part uv) .none (by simp) ?_ (by rw[I1,el];exact hz)
 have F3:=((F.onto g1).onto g2).onto g3;have g4:=Z0 s3 {cls:= .type "slice",data:= .fields #[partValue lv,partValue uv,.none]};have hpick: ∃us,slicePick vs.toArray (lv.map (·.1)) (uv.map (·.1)) none=us.toArray/\RpL (hid (hk c H f) s3.heap) (zy8 (lv.map (·.1)) (uv.map (·.1)) l) us:=by
  cases lv with
  |none=>cases uv with
         |none=>exact⟨vs,slicePick_all _,hr⟩
         |some q=>
          obtain⟨b,hb⟩:=K2 (hok.2.1 q.1 rfl);refine⟨vs.take b,?_,?_⟩
          ·show slicePick vs.toArray none (some q.1) none=_
           rw[hb,slicePick_upto']
          ·show RpL _ (l.take q.1.toNat) _
           rw[hb];exact hr.take b
  |some q=>cases uv with
           |none=>
            obtain⟨b,hb⟩:=K2 (hok.1 q.1 rfl);refine⟨vs.drop b,?_,?_⟩
            ·show slicePick vs.toArray (some q.1) none none=_
             rw[hb,slicePick_from']
            ·show RpL _ (l.drop q.1.toNat) _
             rw[hb];exact hr.drop b
           |some q'=>rcases hok.2.2 with q|q<;>cases q
 obtain⟨us,eus,rus⟩:=hpick;refine k (s3.heap.push _).objs.size _ us 0 (((g1.trans g2).trans g3).trans (g4.trans (Z0 _ _))) ?_ ?_ ?_
 ·exact A7 (((g1.trans g2).trans g3).trans g4).size (D2 _)
 ·rw[eus];exact D8 _ rfl
 ·refine za4 (zjl ?_ λ b o e=>C3 _ (C3 _ e)) _ _ rus
  rw[G8];exact L6 _
theorem zrv {g:Addr->Option Obj}: ∀{xs:List Str} {vs:List Value},RpL g (xs.map D.str) vs-> ∃l:List (Str×Tok),vs=zih l/\l.map (·.1)=xs
 |[],vs,h=>by obtain rfl:=RpL.i0 h;exact⟨[],rfl,rfl⟩
 |x::r,vs,h=>by
  obtain⟨v,us,rfl,h1,h2⟩:=zgw h;obtain⟨t,rfl⟩:=h1.str_inv;obtain⟨l,rfl,rfl⟩:=zrv h2;exact⟨(x,t)::l,rfl,rfl⟩
theorem ycd {g:Addr->Option Obj}: ∀(l:List (Str×Tok)),RpL g ((l.map (·.1)).map D.str) (zih l)
 |[]=>Z8
 |(x,t)::r=>U4 .str' (ycd r)
theorem Me.join {sep:Str}{xs:List Str}(hl:R2 (xs.toArray.foldl (λ a p=>a+p.length+sep.length) 0)=false)(hf:(L9 sep xs).length<=H5):Me G w "str" "str.join" (.str sep) [.lst (xs.map D.str)] (.str (L9 sep xs)):=by
 refine⟨tyStr,λ A K s v0 vs ok r0 rs=>⟨λ Q E k=>?_⟩⟩;obtain⟨t,rfl⟩:=r0.str_inv;obtain⟨v,rfl,r1⟩:=zc0 rs;obtain⟨a,o,vs,rfl,ho,hL,hr⟩:=r1.lst_inv;rw[hid_some] at ho;obtain⟨l,rfl,rfl⟩:=zrv hr;refine zel U2 (zbt s sep t) zrh (zq0 _ _) (meets_str_join_list sep t a l hl) ⟨hL.isList ho.2,?_⟩;rw[<-zhv] at k hf
 cases l with
 |nil=>exact⟨hf,k (.str _ s.toks) _ (R1 s _) .str'⟩
 |cons p l=>
  cases l with
  |nil=>exact k (.str p.1 p.2) s (M4 s) .str'
  |cons b r=>exact⟨hf,k (.str _ s.toks) _ (R1 s _) .str'⟩
theorem Me.lower {x:Str}(hz:R2 (P1 x).length=false)(hf:(P1 x).length<=H5):Me G w "str" "str.lower" (.str x) [] (.str (P1 x)):=by
 refine⟨tyStr,λ A K s v0 vs ok r0 rs=>⟨λ Q E k=>?_⟩⟩;obtain⟨t,rfl⟩:=r0.str_inv;obtain rfl:=rs.i0;exact call_gives za8 (zbt s x t) PySem.F.entry_str_lower (PySem.F.args_str_lower_1 _) (gives_str_lower x t hz) ⟨hf,k (.str _ s.toks) _ (R1 s _) .str'⟩
end
open Internal.Bi renaming addS->zau
open Internal.Nl renaming slice->zmk
section
variable{G:Gt}{w:E3}{c:Cx}{H:Hm}{V:List (Option D)}{s s':A8}
structure Bh (G:Gt)(w:E3)(f:Value)(ds:List D)(d:D):Prop where
 h: ∀A K s vs,A.handled=none->Ok G A K s->RpL (hid K s.heap) ds vs->Gv w A K s (call f vs) d
theorem Ev.callH {b:Bool}{args:List Expr}{ps p:Pos}{x:Str}{id:String}{ds:List D}{d:D}(hh:c.A.handled=none)(hf:Nv G w c (.Name x p) (.builtin id))(ha:As G w c H V b args ds)(hn:Bh G w (.builtin id) ds d):
 Ev G w c H V b (.Call (.Name x p) args [] ps) d:=by
 refine .mk' λ s F Q E k=>?_
 with_reducible refine L0 (hf.h H V s F _ _ (O0 (ha.ns _) (N2 (ha.ns _) (ha.h _ s F _ _ λ vs s1 g1 r1=>?_))))
 rw[I2];exact(hn.h c.A _ s1 vs hh ((F.onto g1).okS b) r1).h _ _ λ v s2 g2 r2=>k v s2 (g1.trans g2) r2
theorem Bh.max2 {a b:Int}:Bh G w (.builtin "max") [.int a,.int b] (.int (if b>a then b else a)):=by
 refine⟨λ A K s vs hh ok r=>⟨λ Q E k=>?_⟩⟩;obtain⟨v1,v2,rfl,r1,r2⟩:=zkp r;obtain⟨t,rfl⟩:=r1.int_inv;obtain⟨u,rfl⟩:=r2.int_inv;refine Q4 (max_two_ints hh λ h' tk hk hz=>?_);exact k _ _ (Go.pushes hk hz) (by split<;>exact .int')
theorem Bh.min2 {a b:Int}:Bh G w (.builtin "min") [.int a,.int b] (.int (if b<a then b else a)):=by
 refine⟨λ A K s vs hh ok r=>⟨λ Q E k=>?_⟩⟩;obtain⟨v1,v2,rfl,r1,r2⟩:=zkp r;obtain⟨t,rfl⟩:=r1.int_inv;obtain⟨u,rfl⟩:=r2.int_inv;refine Q4 (min_two_ints hh λ h' tk hk hz=>?_);exact k _ _ (Go.pushes hk hz) (by split<;>exact .int')
noncomputable abbrev izD (ns:List Int):List D:=ns.map D.int
theorem zwj {g:Addr->Option Obj}{ns:List Int}: ∀{vs:List Value},RpL g (izD ns) vs-> ∃l:List (Int×Tok),vs.toArray=intItems l.toArray/\l.map (·.1)=ns/\vs.length=l.length:=by
 have e0: ∀l:List (Int×Tok),intItems l.toArray=(l.map λ p=>Value.int p.1 p.2).toArray:=λ l=>zn8 ..
 induction ns with
 |nil=>intro vs h;obtain rfl:=RpL.i0 h;exact⟨[],(e0 []).symm,rfl,rfl⟩
 |cons x r ih=>
  intro vs h;obtain⟨v,us,rfl,h1,h2⟩:=zgw h;obtain⟨t,rfl⟩:=h1.int_inv;obtain⟨l,e,rfl,el⟩:=ih h2;rw[e0] at e;obtain rfl:us=l.map λ p=>Value.int p.1 p.2:=congrArg Array.toList e;exact⟨(x,t)::l,(e0 ((x,t)::l)).symm,rfl,congrArg (· +1) el⟩
theorem zs8 (l:List (Int×Tok))(i:Nat):numAt l.toArray i=(l.map (·.1)).getD i 0:=by
 unfold numAt;simp[C8]
noncomputable def zrs:List Int->Int
 |[]=>0
 |[x]=>x
 |x::r=>if zrs r>x then zrs r else x
theorem zly: ∀(l:List Int) (x:Int),x∈l->x<=zrs l
 |[],x,h=>by cases h
 |[y],x,h=>by simp at h;subst h;exact V2 _
 |y::z::r,x,h=>by
  have ih:=zly (z::r);show x<=if zrs (z::r)>y then zrs (z::r) else y;rcases B9.mp h with q|q
  ·subst q;split<;>omega
  ·have:=ih x q;split<;>omega
theorem zja: ∀(l:List Int),l≠[]->zrs l∈l
 |[],h=>absurd rfl h
 |[y],h=>A9
 |y::z::r,h=>by
  have ih:=zja (z::r) (List.cons_ne_nil _ _);show(if zrs (z::r)>y then zrs (z::r) else y)∈y::z::r;split
  ·exact B1 _ ih
  ·exact A9
theorem Bh.maxL {ns:List Int}(hne:ns≠[]):Bh G w (.builtin "max") [.lst (izD ns)] (.int (zrs ns)):=by
 refine⟨λ A K s vs hh ok r=>⟨λ Q E k=>?_⟩⟩;obtain⟨v,rfl,rv⟩:=zc0 r;obtain⟨a,o,vs,rfl,ho,hL,hl⟩:=rv.lst_inv;rw[hid_some] at ho;obtain⟨l,e,hns,_⟩:=zwj hl;have hI:=hL.isList ho.2;rw[e] at hI;have hlen:0<l.length:=by
  rcases zbp l.length with q|q
  ·have:l=[]:=zce.mp q
   subst this;exact absurd hns.symm hne
  ·exact q
 refine Q4 (max_intList hh hI (by simpa using hlen) λ v h' tk hv hk hz=>?_)
 obtain⟨t,rfl⟩:=intItems_at hv;obtain⟨h1,h2⟩:=argBest_gt (numAt l.toArray) (l.toArray.size-1);refine k _ _ (Go.pushes hk hz) ?_;have hz':l.toArray.size=l.length:=by simp
 have e1:numAt l.toArray (argBest (λ i j=>decide (numAt l.toArray i>numAt l.toArray j)) (l.toArray.size-1))=zrs ns:=by
  generalize argBest (λ i j=>decide (numAt l.toArray i>numAt l.toArray j)) (l.toArray.size-1)=b at h1 h2;apply Int.le_antisymm
  ·refine zly ns _ ?_
   rw[zs8,<-hns];exact getD_mem (by rw[B5];omega)
  ·obtain⟨j,hj,ej⟩:=mem_getD (zja ns hne)
   rw[<-ej];have:=h2 j (by rw[<-hns,B5] at hj;omega)
   rwa [zs8,hns] at this
 rw[e1];exact .int'
theorem Bh.sum {ns:List Int}:Bh G w (.builtin "sum") [.lst (izD ns)] (.int ns.sum):=by
 refine⟨λ A K s vs hh ok r=>⟨λ Q E k=>?_⟩⟩;obtain⟨v,rfl,rv⟩:=zc0 r;obtain⟨a,o,vs,rfl,ho,hL,hl⟩:=rv.lst_inv;rw[hid_some] at ho;obtain⟨l,e,hns,_⟩:=zwj hl;have hI:=hL.isList ho.2;rw[e] at hI;refine Q4 (sum_intListG hh hI λ h' tk t' hk hz=>?_);refine k _ _ (Go.pushes hk hz) ?_;have:preSum (numAt l.toArray) l.toArray.size=ns.sum:=by
  rw[preSum_eq,<-hns,S6 (by simp)]
 rw[this];exact .int'
theorem Bf.strI {a:Int}(ha:a.natAbs.log2<1920):Bf G w (.type "str") [.int a] (.str (toString a)):=by
 refine⟨λ A K s vs ok r=>⟨λ Q E k=>?_⟩⟩;obtain⟨v,rfl,rv⟩:=zc0 r;obtain⟨t,rfl⟩:=rv.int_inv;exact P.str_of_int ha (k _ _ (R1 s _) .str')
end
open Internal.Ev renaming callH->ze4
section
open PySem.MeetsSeq PySem.SeqAt
section
variable{G:Gt}{w:E3}{c:Cx}{H:Hm}{V:List (Option D)}{s s':A8}
theorem Bf.intS {n:Int}(h0:0<=n)(h1:n<10^10):Bf G w (.type "int") [.str (toString n)] (.int n):=by
 refine⟨λ A K s vs ok r=>⟨λ Q E k=>?_⟩⟩;obtain⟨v,rfl,rv⟩:=zc0 r;obtain⟨t,rfl⟩:=rv.str_inv;exact KIN.call_num h0 h1 (k _ _ (R1 s _) .int')
mutual
noncomputable def Pl:Nat->D->Bool
 |_,.int _|_,.str _=>true
 |n+1,.tup l=>PlL n l
 |n+1,.lst l=>PlL n l
 |_,_=>false
noncomputable def PlL:Nat->List D->Bool
 |_,[]=>true
 |n,d::r=>Pl n d&&PlL n r
end
theorem ygi (m:Nat):(G2 m).all (λ z=>true)=true:=K5.mpr λ z z=>rfl
theorem IsL.isTuple' {h:P9}{a:Addr}{vs:List Value}{n:Nat}(e:h.get? a=some (R4 vs n)):h.IsTuple a vs.toArray:=⟨_,e,rfl,n,rfl⟩
theorem zox {g:Addr->Option Obj}{n:Nat}(ih: ∀(A:H2) (d:D) (v1 v2:Value),A.units+n<yai->Pl n d=true->Rp g d v1->Rp g d v2->EqAt A s v1 v2 true){A:H2}(hu:A.units+n<yai)(l:List D): ∀(vs us:List Value),PlL n l=true->RpL g l vs->RpL g l us->
 ∀(j:Nat) (h1:j<vs.length) (h2:j<us.length),EqAt A s vs[j] us[j] true:=by
 induction l with
 |nil=>intro vs us hp r1 r2 j h1 h2;obtain rfl:=r1.i0;cases h1
 |cons d r il=>
  intro vs us hp r1 r2 j h1 h2;have hp:=Bool.and_eq_true_iff.mp hp;obtain⟨v,vs',rfl,a1,a2⟩:=zgw r1;obtain⟨u,us',rfl,b1,b2⟩:=zgw r2
  cases j with
  |zero=>exact ih A d v u hu hp.1 a1 b1
  |succ j=>exact il vs' us' hp.2 a2 b2 j (zix h1) (zix h2)
theorem yfo {g:Addr->Option Obj}(hg: ∀a o,g a=some o->s.heap.get? a=some o){n:Nat}(ih: ∀m,n=m+1-> ∀(A:H2) (d:D) (v1 v2:Value),A.units+m<yai->Pl m d=true->Rp g d v1->Rp g d v2->EqAt A s v1 v2 true)(A:H2)(d:D)(v1 v2:Value)(hu:A.units+n<yai)(hp:Pl n d=true)(r1:Rp g d v1)(r2:Rp g d v2):EqAt A s v1 v2 true:=by
 cases d with
 |int i=>
  obtain⟨t,rfl⟩:=r1.int_inv;obtain⟨u,rfl⟩:=r2.int_inv;have:=EqAt.int_int (A:=A) (s:=s) i t i u;rwa [beq_self_eq_true] at this
 |str i=>
  obtain⟨t,rfl⟩:=r1.str_inv;obtain⟨u,rfl⟩:=r2.str_inv;have:=EqAt.str_str (A:=A) (s:=s) i t i u;rwa [beq_self_eq_true] at this
 |tup l=>
  cases n with
  |zero=>exact Y4 hp
  |succ n=>
   have hu':A.in1.units+n<yai:=by show A.units+1+n<yai;rw[W7,Q9 1];exact hu
   obtain⟨a,m,vs,rfl,ho,hl⟩:=r1.tup_inv;obtain⟨b,m',us,rfl,ho',hl'⟩:=r2.tup_inv;by_cases hab:a=b
   ·subst hab;exact EqAt.same _
   have ez:vs.length=us.length:=hl.length.trans hl'.length.symm;have:=RcAt.tuples (A:=A) (s:=s) (e:=λ z=>true) (IsL.isTuple' (hg _ _ ho)) (IsL.isTuple' (hg _ _ ho')) (C2 (J9 _ _) hu) (zox (ih n rfl) hu' l vs us hp hl hl');refine EqAt.of_refs hab ?_;rw[show vs.toArray.size=us.toArray.size from ez,ygi,zlv,beq_self_eq_true] at this
   exact this
 |lst l=>
  cases n with
  |zero=>exact Y4 hp
  |succ n=>
   have hu':A.in1.units+n<yai:=by show A.units+1+n<yai;rw[W7,Q9 1];exact hu
   obtain⟨a,o,vs,rfl,ho,hL,hl⟩:=r1.lst_inv;obtain⟨b,o',us,rfl,ho',hL',hl'⟩:=r2.lst_inv;by_cases hab:a=b
   ·subst hab;exact EqAt.same _
   have ez:vs.length=us.length:=hl.length.trans hl'.length.symm;have:=RcAt.lists (A:=A) (s:=s) (e:=λ z=>true) (hL.isList (hg _ _ ho)) (hL'.isList (hg _ _ ho')) ez (C2 (J9 _ _) hu) (zox (ih n rfl) hu' l vs us hp hl hl');refine EqAt.of_refs hab ?_;rwa [ygi] at this
 |none=>cases n<;>exact Y4 hp
 |bool b=>cases n<;>exact Y4 hp
 |ptr b=>cases n<;>exact Y4 hp
theorem ybm {g:Addr->Option Obj}(hg: ∀a o,g a=some o->s.heap.get? a=some o)(n:Nat): ∀(A:H2) (d:D) (v1 v2:Value),A.units+n<yai->Pl n d=true->Rp g d v1->Rp g d v2->EqAt A s v1 v2 true:=
 Nat.rec (yfo hg λ m e=>nomatch e) (λ n ih=>yfo hg λ m e=>N3 e▸ih) n
theorem Cm.neSelfL {l:List D}(hp:PlL 8 l=true):Cm G w .NotEq (.lst l) (.lst l) (.bool false):=by
 refine⟨λ A K s v1 v2 ok r1 r2=>⟨λ Q E k=>?_⟩⟩;obtain⟨a,o,vs,rfl,ho,hL,hl⟩:=r1.lst_inv;obtain⟨b,o',us,rfl,ho',hL',hl'⟩:=r2.lst_inv;have hg: ∀a o,hid K s.heap a=some o->s.heap.get? a=some o:=λ a o e=>(hid_some.mp e).2;have ez:vs.toArray.size=us.toArray.size:=hl.length.trans hl'.length.symm;have hu:A.units+9<yai:=C2 (A7 (Q2 (by decide:9<=20) _) ok.rm.2) (by decide:9000<9900)
 have:=RcNeAt.lists (A:=A) (s:=s) (e:=λ z=>true) (hL.isList (hg _ _ ho)) (hL'.isList (hg _ _ ho')) ez (C2 (J9 _ _) hu)
  (zox (ybm hg 8) hu l vs us hp hl hl')
 refine this _ _ _ _ (k _ s (M4 s) ?_);rw[ygi];rfl
theorem Cm.neSelfT {l:List D}(hp:PlL 8 l=true):Cm G w .NotEq (.tup l) (.tup l) (.bool false):=by
 refine⟨λ A K s v1 v2 ok r1 r2=>⟨λ Q E k=>?_⟩⟩;obtain⟨a,m,vs,rfl,ho,hl⟩:=r1.tup_inv;obtain⟨b,m',us,rfl,ho',hl'⟩:=r2.tup_inv;have hg: ∀a o,hid K s.heap a=some o->s.heap.get? a=some o:=λ a o e=>(hid_some.mp e).2;have ez:vs.toArray.size=us.toArray.size:=hl.length.trans hl'.length.symm;have hu:A.units+9<yai:=C2 (A7 (Q2 (by decide:9<=20) _) ok.rm.2) (by decide:9000<9900)
 have:=RcNeAt.tuples (A:=A) (s:=s) (e:=λ z=>true) (IsL.isTuple' (hg _ _ ho)) (IsL.isTuple' (hg _ _ ho')) (C2 (J9 _ _) hu)
  (zox (ybm hg 8) hu l vs us hp hl hl')
 refine this _ _ _ _ (k _ s (M4 s) ?_);rw[ez,ygi,zlv,beq_self_eq_true];rfl
theorem Cm.noneIn {ns:List Int}:Cm G w .In .none (.lst (izD ns)) (.bool false):=by
 refine⟨λ A K s v1 v2 ok r1 r2=>⟨λ Q E k=>?_⟩⟩;obtain rfl:=r1.none_inv;obtain⟨a,o,vs,rfl,ho,hL,hl⟩:=r2.lst_inv;have hg:=(hid_some.mp ho).2;refine in_listAt (λ j=>false) (hL.isList hg) (λ y hy=>?_) (k _ s (M4 s) (congrArg zem (Array.any_eq_false.mpr λ j j h=>Y4 h)));obtain⟨i,hi⟩:=K4.mp (List.mem_toArray.mp hy);obtain⟨d,hd,r⟩:=hl.getV hi;rw[B7] at hd
 cases q:ns[i]? with
 |none=>rw[q] at hd;cases hd
 |some z=>
  rw[q] at hd;cases hd;obtain⟨t,rfl⟩:=r.int_inv;exact EqAt.int_none z t
end
end
open Internal.Cm renaming neSelfL->zkf
theorem range_getD (l:List D):(G2 l.length).map (λ k=>l.getD k .none)=l:=by
 apply T3;intro i;rw[B7];rcases O3 i l.length with h|h
 ·rw[N6 h,B3 h]
  simp[C8,h]
 ·rw[H9 (by simpa using h),H9 h];rfl
theorem zo1 (l:List D)(P:D->Bool)(f:D->D):zln (λ k=>P (l.getD k .none)) (λ k=>f (l.getD k .none)) l.length=(l.filter P).map f:=by
 have h:=range_getD l;unfold zln
 conv=>rhs;rw[<-h]
 rw[zfc,E6];generalize G2 l.length=rg
 induction rg with
 |nil=>rfl
 |cons a r ih=>
  have ih':List.filterMap (λ k=>if P (l.getD k .none)=true then some (f (l.getD k .none)) else none) r=zt2 (λ k=>f (l.getD k .none)) (List.filter (λ k=>P (l.getD k .none)) r):=ih;show List.filterMap (λ k=>if P (l.getD k .none)=true then some (f (l.getD k .none)) else none) (a::r)=zt2 (λ k=>f (l.getD k .none)) (List.filter (λ k=>P (l.getD k .none)) (a::r));by_cases q:P (l.getD a .none)=true
  ·rw[zk5,zcf,if_pos q,if_pos q,E5,ih']
  ·rw[zk5,zcf,if_neg q,if_neg q,ih']
section
variable{G:Gt}{w:E3}{c:Cx}{H:Hm}{V:List (Option D)}{s s':A8}
variable{sc:Scope}{lo:List Str}{kx:List Bool}{fr:List Nat}{gn:List (Str×Value)}
variable{P:Flow->A8->Prop}{E:Value->A8->Prop}{rest:List Stmt}
noncomputable def Bd (G:Gt)(w:E3)(c:Cx)(H:Hm)(V:List (Option D))(sc:Scope)(lo:List Str)(kx:List Bool)(fr:List Nat)(gn:List (Str×Value))(elt:Expr)(ifs:List Expr)(l:List D)(p:D->Bool)(f:D->D):Prop:=
 ∀L b d,d∈l-> ∀D acc fx gs,Tl G w (cc c sc L lo kx fr gn b) ⟨(D,acc)::H.own,fx,gs⟩ ((cV lo fr V).set 0 (some d)) ifs (p d)/\
  (p d=true->Ev G w (cc c sc L lo kx fr gn b) ⟨(D,acc)::H.own,fx,gs⟩ ((cV lo fr V).set 0 (some d)) true elt (f d))
noncomputable def BdX (G:Gt)(w:E3)(c:Cx)(H:Hm)(V:List (Option D))(sc:Scope)(lo:List Str)(kx:List Bool)(fr:List Nat)(gn:List (Str×Value))(elt:Expr)(ifs:List Expr)(l:List D)(p:D->Bool)(f:D->D):Prop:=
 ∀L b d,d∈l-> ∀D acc fx gs,(∀q∈H.fix,q∈fx)->Tl G w (cc c sc L lo kx fr gn b) ⟨(D,acc)::H.own,fx,gs⟩ ((cV lo fr V).set 0 (some d)) ifs (p d)/\
  (p d=true->Ev G w (cc c sc L lo kx fr gn b) ⟨(D,acc)::H.own,fx,gs⟩ ((cV lo fr V).set 0 (some d)) true elt (f d))
theorem Bd.x {elt:Expr}{ifs:List Expr}{l:List D}{p:D->Bool}{f:D->D}(h:Bd G w c H V sc lo kx fr gn elt ifs l p f):BdX G w c H V sc lo kx fr gn elt ifs l p f:=λ L b d hd D acc fx gs z=>h L b d hd D acc fx gs
theorem BdX.old {elt:Expr}{ifs:List Expr}{l:List D}{p:D->Bool}{f:D->D}(h:BdX G w c H V sc lo kx fr gn elt ifs l p f): ∀c',Cof c sc lo kx fr gn c'-> ∀k d,l[k]? =some d-> ∀D acc fx gs,(∀q∈H.fix,q∈fx)->Tl G w c' ⟨(D,acc)::H.own,fx,gs⟩ ((cV lo fr V).set 0 (some d)) ifs ((λ k=>p (l.getD k .none)) k)/\
 ((λ k=>p (l.getD k .none)) k=true->Ev G w c' ⟨(D,acc)::H.own,fx,gs⟩ ((cV lo fr V).set 0 (some d)) true elt ((λ k=>f (l.getD k .none)) k)):=by
 rintro c' ⟨L,b,rfl⟩ k d hd Da acc fx gs hq;have e:l.getD k .none=d:=by rw[C8,hd];rfl
 show Tl _ _ _ _ _ _ (p (l.getD k .none))/\(p (l.getD k .none)=true->Ev _ _ _ _ _ _ _ (f (l.getD k .none)));rw[e];exact h L b d (A6 hd) Da acc fx gs hq
theorem Bd.old {elt:Expr}{ifs:List Expr}{l:List D}{p:D->Bool}{f:D->D}(h:Bd G w c H V sc lo kx fr gn elt ifs l p f): ∀c',Cof c sc lo kx fr gn c'-> ∀k d,l[k]? =some d-> ∀D acc fx gs,(∀q∈H.fix,q∈fx)->Tl G w c' ⟨(D,acc)::H.own,fx,gs⟩ ((cV lo fr V).set 0 (some d)) ifs ((λ k=>p (l.getD k .none)) k)/\
 ((λ k=>p (l.getD k .none)) k=true->Ev G w c' ⟨(D,acc)::H.own,fx,gs⟩ ((cV lo fr V).set 0 (some d)) true elt ((λ k=>f (l.getD k .none)) k)):=h.x.old
theorem Wx.asgX {x y:Str}{px py pos ps:Pos}{elt iter:Expr}{ifs:List Expr}{l:List D}(p:D->Bool)(f:D->D)(i:Nat)(hi:i<c.ns)(hy:c.nm[i]? =some y)(S:Sco c sc lo kx fr gn)(iv:Iv G w c H V (.Name x px) iter l)(hx:lo[0]? =some x)(hz:l.length<=H5)
 (body:BdX G w c H V sc lo kx fr gn elt ifs l p f)(hsw:U6 (.ListComp elt [⟨.Name x px,iter,ifs,0⟩] sc pos) (some (.Name y py)) ps.line c.env=pure true)
 (h:Wx G w c H (V.set i (some (.lst ((l.filter p).map f)))) rest P E)
 (hs: ∀v,J0 iter c.env v=pure v:=by intro _;rfl):Wx G w c H V (.Assign [.Name y py] (.ListComp elt [⟨.Name x px,iter,ifs,0⟩] sc pos) ps::rest) P E:=by
 rw[<-zo1] at h;exact Wx.asgC _ _ i hi hy S iv hx hz body.old hsw h hs
theorem Nl.compD {x:Str}{px pos:Pos}{elt iter:Expr}{ifs:List Expr}{l:List D}(p:D->Bool)(f:D->D)(S:Sco c sc lo kx fr gn)(iv:Iv G w c H V (.Name x px) iter l)(hx:lo[0]? =some x)(hz:l.length<=H5)
 (body:Bd G w c H V sc lo kx fr gn elt ifs l p f)(hs: ∀v,J0 iter c.env v=pure v:=by intro _;rfl):Nl G w c H V true (.ListComp elt [⟨.Name x px,iter,ifs,0⟩] sc pos) ((l.filter p).map f):=by
 rw[<-zo1];exact Nl.comp _ _ S iv hx hz body.old hs
theorem Wx.asgD {x y:Str}{px py pos ps:Pos}{elt iter:Expr}{ifs:List Expr}{l:List D}(p:D->Bool)(f:D->D)(i:Nat)(hi:i<c.ns)(hy:c.nm[i]? =some y)(S:Sco c sc lo kx fr gn)(iv:Iv G w c H V (.Name x px) iter l)(hx:lo[0]? =some x)(hz:l.length<=H5)
 (body:Bd G w c H V sc lo kx fr gn elt ifs l p f)(hsw:U6 (.ListComp elt [⟨.Name x px,iter,ifs,0⟩] sc pos) (some (.Name y py)) ps.line c.env=pure true)
 (h:Wx G w c H (V.set i (some (.lst ((l.filter p).map f)))) rest P E)
 (hs: ∀v,J0 iter c.env v=pure v:=by intro _;rfl):Wx G w c H V (.Assign [.Name y py] (.ListComp elt [⟨.Name x px,iter,ifs,0⟩] sc pos) ps::rest) P E:=by
 rw[<-zo1] at h;exact Wx.asgC _ _ i hi hy S iv hx hz body.old hsw h hs
theorem Wx.asgE {x y:Str}{px py pos ps:Pos}{elt iter:Expr}{ifs:List Expr}{l out:List D}(p:D->Bool)(f:D->D)(i:Nat)(hi:i<c.ns)(hy:c.nm[i]? =some y)(S:Sco c sc lo kx fr gn)(iv:Iv G w c H V (.Name x px) iter l)(hx:lo[0]? =some x)(hz:l.length<=H5)
 (body:Bd G w c H V sc lo kx fr gn elt ifs l p f)(hsw:U6 (.ListComp elt [⟨.Name x px,iter,ifs,0⟩] sc pos) (some (.Name y py)) ps.line c.env=pure true)
 (e:(l.filter p).map f=out)(h:Wx G w c H (V.set i (some (.lst out))) rest P E)
 (hs: ∀v,J0 iter c.env v=pure v:=by intro _;rfl):Wx G w c H V (.Assign [.Name y py] (.ListComp elt [⟨.Name x px,iter,ifs,0⟩] sc pos) ps::rest) P E:=by
 exact Wx.asgD p f i hi hy S iv hx hz body hsw (e▸h) hs
theorem Wx.ownD {x y:Str}{px py pos ps:Pos}{elt iter:Expr}{ifs:List Expr}{l:List D}(p:D->Bool)(f:D->D)(i:Nat)(hi:i<c.ns)(hy:c.nm[i]? =some y)(S:Sco c sc lo kx fr gn)(iv:Iv G w c H V (.Name x px) iter l)(hx:lo[0]? =some x)(hz:l.length<=H5)
 (body:Bd G w c H V sc lo kx fr gn elt ifs l p f)(hsw:U6 (.ListComp elt [⟨.Name x px,iter,ifs,0⟩] sc pos) (some (.Name y py)) ps.line c.env=pure true)
 (h: ∀a,OkW c a->Wx G w c (H.owns ((a,(l.filter p).map f)::H.own)) (V.set i (some (.ptr a))) rest P E)
 (hs: ∀v,J0 iter c.env v=pure v:=by intro _;rfl):Wx G w c H V (.Assign [.Name y py] (.ListComp elt [⟨.Name x px,iter,ifs,0⟩] sc pos) ps::rest) P E:=by
 refine Wx.ownC (λ k=>p (l.getD k .none)) (λ k=>f (l.getD k .none)) i hi hy S iv hx hz body.old hsw (λ a ha=>?_) hs;rw[zo1];exact h a ha
theorem Q5 {α:Type}(l:List α):l.filter (λ z=>true)=l:=List.filter_eq_self.mpr λ z z=>rfl
end
open Internal.Nl renaming compD->za9
section
open PySem.Sre PySem.Builtin.Re
theorem zhh (n k:Nat): ∀m:M,m.runFor (n+k)=(m.runFor n).runFor k:=by
 induction n with
 |zero=>intro m;rw[zac];rfl
 |succ n ih=>
  intro m;rw[Nat.succ_add];show(if m.outcome.isSome then m else(m.step).runFor (n+k))=(if m.outcome.isSome then m else(m.step).runFor n).runFor k;split
  ·rename_i h
   cases k with
   |zero=>rfl
   |succ k=>show m=if m.outcome.isSome then m else _;rw[if_pos h]
  ·exact ih _
theorem zfy {m:M}(h:m.outcome.isSome=true)(n:Nat):m.runFor n=m:=by
 cases n with
 |zero=>rfl
 |succ n=>show(if m.outcome.isSome then m else _)=m;rw[if_pos h]
theorem zns {w:E3}{A:H2}{E:Value->A8->Prop}{Q:M->A8->Prop}{s:A8}{m':M}(ho:m'.outcome.isSome=true)(q:Q m' s):
 ∀(n t:Nat) (m:M),n<t->m.runFor (4*n)=m'->D0 (D1 pw w) A (reDrive t m) Q E s:=by
 intro n
 induction n with
 |zero=>
  intro t m ht hm;obtain⟨t,rfl⟩: ∃t',t=t'+1:=⟨t-1,by omega⟩
  have hm':m=m':=hm;subst hm';show D0 _ _ (if(m.runFor reTurnSteps).outcome.isSome=true then pure (m.runFor reTurnSteps) else _) _ _ _;rw[zfy ho,if_pos ho];exact C4 q
 |succ n ih=>
  intro t m ht hm;obtain⟨t,rfl⟩: ∃t',t=t'+1:=⟨t-1,by omega⟩
  rw[show 4*(n+1)=4+4*n by omega,zhh] at hm
  show D0 _ _ (if(m.runFor 4).outcome.isSome=true then pure (m.runFor 4) else _) _ _ _;by_cases h4:(m.runFor 4).outcome.isSome=true
  ·rw[if_pos h4]
   rw[zfy h4] at hm;rw[hm];exact C4 q
  ·rw[if_neg h4]
   exact B0 (zid (ih t _ (by omega) hm))
noncomputable def yib (m m':M)(n:Nat):Prop:=m.runFor n=m'/\m'.outcome.isSome=true
theorem zp3 {w:E3}{A:H2}{E:Value->A8->Prop}{Q:PUnit->A8->Prop}{s:A8}(m:M)(q:Q zew s): ∀l:List Nat,
 D0 (D1 pw w) A (zzw l zew λ i z=>if m.seen.has i=true then(do rule (Sre.names.getD i "");pure (zaf zew)) else(pure (zaf zew):Sem (ForInStep PUnit))) Q E s:=by
 intro l
 induction l with
 |nil=>exact C4 q
 |cons a r ih=>
  rw[zbv];by_cases h:m.seen.has a=true
  ·rw[if_pos h]
   exact B0 (B0 (zid (C4 ih)))
  ·rw[if_neg h]
   exact B0 (C4 ih)
theorem zon {w:E3}{A:H2}{E:Value->A8->Prop}{Q:Option M->A8->Prop}{s:A8}{m m':M}{n:Nat}(h:m.runFor (4*n)=m')(hn:n<2^64)(ho:m'.outcome=some .matched)(q:Q (some m') s):D0 (D1 pw w) A (reRunToEnd m) Q E s:=by
 unfold reRunToEnd;refine B0 (zns (by rw[ho];rfl) ?_ n _ m hn h)
 refine B0 (zp3 m' ?_ _);rw[ho];exact C4 q
theorem zp6 {w:E3}{A:H2}{E:Value->A8->Prop}{Q:Option M->A8->Prop}{s:A8}{m m':M}{n:Nat}(h:m.runFor (4*n)=m')(hn:n<2^64)(ho:m'.outcome=some .failed)(q:Q none s):D0 (D1 pw w) A (reRunToEnd m) Q E s:=by
 unfold reRunToEnd;refine B0 (zns (by rw[ho];rfl) ?_ n _ m hn h)
 refine B0 (zp3 m' ?_ _);rw[ho];exact C4 q
noncomputable abbrev FrT:=Wait×Nat×Nat×Bool
structure FrOk (f:zxl)(t:FrT):Prop where
 wait:f.wait=t.1
 pc:f.pc=t.2.1
 pos:f.pos=t.2.2.1
 om:f.outermost=t.2.2.2
 lm:f.kept.lastmark= -1
 wh:f.kept.whole=false
 mks:f.kept.marks= #[]
inductive FrsOk:List zxl->List FrT->Prop
 |nil:FrsOk [] []
 |cons {f t r q}:FrOk f t->FrsOk r q->FrsOk (f::r) (t::q)
theorem FrsOk.len {l:List zxl}{q:List FrT}(h:FrsOk l q):l.length=q.length:=by
 induction h with
 |nil=>rfl
 |cons _ _ ih=>simp[ih]
structure At (code text:Array Nat)(lim ls:Nat)(m:M)(st pc pos:Nat)(fr:List FrT)(om:Bool)(ans:Option Bool):Prop where
 code:m.code=code
 text:m.text=text
 lim:m.lim=lim
 ls:m.lastStart=ls
 st:m.start=st
 pc:m.pc=pc
 pos:m.pos=pos
 fr:FrsOk m.frames fr
 om:m.outermost=om
 ans:m.answer=ans
 oc:m.outcome=none
 ma:m.mustAdvance=false
 wt:m.wholeText=false
 inn:m.inner=none
 mks:m.marks= #[]
 lm:m.lastmark= -1
 wg:m.weight<=m.frames.length
section
variable{code text:Array Nat}{lim ls:Nat}{m:M}{st pc pos:Nat}{fr:List FrT}{om:Bool}
theorem zry {n:Nat}(h:m.outcome=none):m.runFor (n+1)=m.step.runFor n:=by
 show(if m.outcome.isSome then m else _)=_;rw[h];rfl
theorem At.word (a:At code text lim ls m st pc pos fr om none)(k:Nat):m.word k=code.getD (pc+k) 0:=by
 unfold M.word;rw[a.code,a.pc]
theorem At.stepE {a:Option Bool}(h:At code text lim ls m st pc pos fr om none)(hpc:pc<code.size):m.step=m.exec:=by
 unfold M.step;rw[h.oc,h.ans];simp only[zi2,V7,if_false];rw[if_pos (by rw[h.pc,h.code];exact hpc)]
theorem At.say {a:Option Bool}(h:At code text lim ls m st pc pos fr om a)(y:Bool):At code text lim ls (m.say y) st pc pos fr om (some y):={h with ans:=rfl}
theorem At.char {c:Nat}{yes:Bool}{op:Op}(h:At code text lim ls m st pc pos fr om none)(hpc:pc<code.size)(hop:ops[code.getD pc 0]? =some op)(hopk:op= .LITERAL\/op= .IN)(hl:pos<lim)(hc:text.getD pos 0=c)
 (hacc: ∀seen,∃seen',accepts code pc c seen= .ok (yes,seen')):
 (yes=true->At code text lim ls m.step st (pc+itemWidth code pc) (pos+1) fr om none)/\(yes=false->At code text lim ls m.step st pc pos fr om (some false)):=by
 rw[h.stepE (a:=none) hpc];unfold M.exec;have hw:m.word 0=code.getD pc 0:=h.word 0;rw[hw,hop];obtain⟨seen',hs⟩:=hacc (m.seen.add (code.getD pc 0));have hp: ¬(m.pos>=m.lim):=by rw[h.pos,h.lim];omega
 have hs':accepts m.code m.pc (m.text.getD m.pos 0) (m.seen.add (code.getD pc 0))= .ok (yes,seen'):=by rw[h.code,h.pc,h.text,h.pos,hc];exact hs
 rcases hopk with rfl|rfl<;>
 ·dsimp only
  rw[if_neg hp,hs']
  cases yes with
  |true=>exact⟨λ z=>{code:=h.code,text:=h.text,lim:=h.lim,ls:=h.ls,st:=h.st,pc:=(by show m.pc+itemWidth m.code m.pc=_;rw[h.pc,h.code]),pos:=(by show m.pos+1=_;rw[h.pos]),fr:=h.fr,om:=h.om,ans:=h.ans,oc:=h.oc,ma:=h.ma,wt:=h.wt,inn:=h.inn,mks:=h.mks,lm:=h.lm,wg:=h.wg},λ e=>(by cases e)⟩
  |false=>exact⟨λ e=>(by cases e),λ z=>{code:=h.code,text:=h.text,lim:=h.lim,ls:=h.ls,st:=h.st,pc:=h.pc,pos:=h.pos,fr:=h.fr,om:=h.om,ans:=rfl,oc:=h.oc,ma:=h.ma,wt:=h.wt,inn:=h.inn,mks:=h.mks,lm:=h.lm,wg:=h.wg}⟩
theorem At.noChar {op:Op}(h:At code text lim ls m st pc pos fr om none)(hpc:pc<code.size)(hop:ops[code.getD pc 0]? =some op)(hopk:op= .LITERAL\/op= .IN)(hl:lim<=pos):At code text lim ls m.step st pc pos fr om (some false):=by
 rw[h.stepE (a:=none) hpc];unfold M.exec;have hw:m.word 0=code.getD pc 0:=h.word 0;rw[hw,hop];have hp:m.pos>=m.lim:=by rw[h.pos,h.lim];omega
 rcases hopk with rfl|rfl<;>
 ·dsimp only
  rw[if_pos hp];exact{code:=h.code,text:=h.text,lim:=h.lim,ls:=h.ls,st:=h.st,pc:=h.pc,pos:=h.pos,fr:=h.fr,om:=h.om,ans:=rfl,oc:=h.oc,ma:=h.ma,wt:=h.wt,inn:=h.inn,mks:=h.mks,lm:=h.lm,wg:=h.wg}
theorem At.success (h:At code text lim ls m st pc pos fr om none)(hpc:pc<code.size)(hop:ops[code.getD pc 0]? =some .SUCCESS):At code text lim ls m.step st pc pos fr om (some true)/\m.step.handed=pos:=by
 rw[h.stepE (a:=none) hpc];unfold M.exec;have hw:m.word 0=code.getD pc 0:=h.word 0;rw[hw,hop]
 dsimp only
 have hc:(m.outermost&&(m.wholeText&&m.pos != m.lim||m.mustAdvance&&m.pos==m.start))=false:=by rw[h.wt,h.ma];simp
 rw[if_neg (by rw[hc];exact N4)]
 exact⟨{code:=h.code,text:=h.text,lim:=h.lim,ls:=h.ls,st:=h.st,pc:=h.pc,pos:=h.pos,fr:=h.fr,om:=h.om,ans:=rfl,oc:=h.oc,ma:=h.ma,wt:=h.wt,inn:=h.inn,mks:=h.mks,lm:=h.lm,wg:=h.wg},h.pos⟩
theorem At.jump (h:At code text lim ls m st pc pos fr om none)(hpc:pc<code.size)(hop:ops[code.getD pc 0]? =some .JUMP):At code text lim ls m.step st (pc+1+code.getD (pc+1) 0) pos fr om none:=by
 rw[h.stepE (a:=none) hpc];unfold M.exec;have hw:m.word 0=code.getD pc 0:=h.word 0;rw[hw,hop];have hw1:m.word 1=code.getD (pc+1) 0:=h.word 1;exact{code:=h.code,text:=h.text,lim:=h.lim,ls:=h.ls,st:=h.st,pc:=by show m.pc+1+m.word 1=_;rw[h.pc,hw1],pos:=h.pos,fr:=h.fr,om:=h.om,ans:=h.ans,oc:=h.oc,ma:=h.ma,wt:=h.wt,inn:=h.inn,mks:=h.mks,lm:=h.lm,wg:=h.wg}
theorem At.attempt {a:Option Bool}{f:zxl}{t:FrT}{target «from»:Nat}{b:Bool}(h:At code text lim ls m st pc pos fr om a)(ha:a=none)(hf:FrOk f t)(hz:fr.length<=100):At code text lim ls (m.attempt f target «from» b) st target «from» (t::fr) b none:=by
 subst ha;unfold M.attempt;have: ¬(m.weight+1+f.kept.marks.size>16777216):=by rw[hf.mks];have:=h.wg;rw[h.fr.len] at this;simp;omega
 rw[if_neg this];exact{code:=h.code,text:=h.text,lim:=h.lim,ls:=h.ls,st:=h.st,pc:=rfl,pos:=rfl,fr:= .cons hf h.fr,om:=rfl,ans:=h.ans,oc:=h.oc,ma:=h.ma,wt:=h.wt,inn:=h.inn,mks:=h.mks,lm:=h.lm,wg:=by show m.weight+1+f.kept.marks.size<=(f::m.frames).length;rw[hf.mks];have:=h.wg;simp;omega}
theorem At.altn {a:Option Bool}{alt:Nat}{k:Sre.Kept}(h:At code text lim ls m st pc pos fr om a)(ha:a=none)(hk:k.lastmark= -1/\k.whole=false/\k.marks= #[])(hz:fr.length<=100)(hne:code.getD alt 0≠0):
 At code text lim ls (m.alternative alt k) st (alt+1) pos ((.nextBranch,alt,pos,om)::fr) om none:=by
 unfold M.alternative;rw[h.code,if_neg (by simpa using hne)]
 have:=h.attempt (f:={m.frame .nextBranch with pc:=alt,kept:=k}) (t:=(.nextBranch,alt,pos,om)) (target:=alt+1) («from»:=m.pos) (b:=m.outermost) ha ⟨rfl,rfl,h.pos,h.om,hk.1,hk.2.1,hk.2.2⟩ hz
 rw[h.pos,h.om] at this;rw[h.pos,h.om];exact this
theorem At.branch (h:At code text lim ls m st pc pos fr om none)(hpc:pc<code.size)(hop:ops[code.getD pc 0]? =some .BRANCH)(hz:fr.length<=100)(hne:code.getD (pc+1) 0≠0):
 At code text lim ls m.step st (pc+1+1) pos ((.nextBranch,pc+1,pos,om)::fr) om none:=by
 rw[h.stepE (a:=none) hpc];unfold M.exec;have hw:m.word 0=code.getD pc 0:=h.word 0;rw[hw,hop];have h':At code text lim ls {m with seen:=m.seen.add (code.getD pc 0)} st pc pos fr om none:={h with};have key: ∀q,m.pc=q->At code text lim ls (M.alternative {m with seen:=m.seen.add (code.getD pc 0)} (m.pc+1) (M.keep {m with seen:=m.seen.add (code.getD pc 0)} (M.inner {m with seen:=m.seen.add (code.getD pc 0)}).isSome)) st (q+1+1) pos ((.nextBranch,q+1,pos,om)::fr) om none:=by
  rintro q rfl;exact h'.altn (alt:=m.pc+1) rfl ⟨h.lm,by show m.inner.isSome=false;rw[h.inn];rfl,by unfold M.keep;rw[show(M.inner {m with seen:=m.seen.add (code.getD pc 0)})=none from h.inn];rfl⟩ hz (by rw[h.pc];exact hne)
 exact key pc h.pc
theorem At.atLine (h:At code text lim ls m st pc pos fr om none)(hpc:pc<code.size)(hop:ops[code.getD pc 0]? =some .AT)(hw1:code.getD (pc+1) 0=1):
 At code text lim ls m.step st (if(pos==0||text.getD (pos-1) 0==10) then pc+2 else pc) pos fr om (if(pos==0||text.getD (pos-1) 0==10) then none else some false):=by
 rw[h.stepE (a:=none) hpc];unfold M.exec;have hw:m.word 0=code.getD pc 0:=h.word 0;rw[hw,hop];have hw1':m.word 1=1:=by rw[h.word 1,hw1]
 have e:M.isAt {m with seen:=m.seen.add (code.getD pc 0)} (M.word {m with seen:=m.seen.add (code.getD pc 0)} 1)= .ok (pos==0||text.getD (pos-1) 0==10):=by
  rw[show M.word {m with seen:=m.seen.add (code.getD pc 0)} 1=m.word 1 from rfl,hw1']
  show zod (m.pos==0||m.text.getD (m.pos-1) 0==10)=_;rw[h.pos,h.text]
 dsimp only
 rw[e]
 cases (pos==0||text.getD (pos-1) 0==10) with
 |true=>exact{code:=h.code,text:=h.text,lim:=h.lim,ls:=h.ls,st:=h.st,pc:=by show m.pc+2=_;rw[h.pc];rfl,pos:=h.pos,fr:=h.fr,om:=h.om,ans:=h.ans,oc:=h.oc,ma:=h.ma,wt:=h.wt,inn:=h.inn,mks:=h.mks,lm:=h.lm,wg:=h.wg}
 |false=>exact{code:=h.code,text:=h.text,lim:=h.lim,ls:=h.ls,st:=h.st,pc:=h.pc,pos:=h.pos,fr:=h.fr,om:=h.om,ans:=rfl,oc:=h.oc,ma:=h.ma,wt:=h.wt,inn:=h.inn,mks:=h.mks,lm:=h.lm,wg:=h.wg}
end
section
variable{code text:Array Nat}{lim ls:Nat}{m:M}{st pc pos:Nat}{fr:List FrT}{om:Bool}
theorem At.pop {t:FrT}{y:Bool}(h:At code text lim ls m st pc pos (t::fr) om (some y)): ∃f m1,m.step=M.resume m1 f y/\FrOk f t/\At code text lim ls m1 st t.2.1 t.2.2.1 fr t.2.2.2 none/\m1.handed=m.handed:=by
 have hf:=h.fr
 cases e:m.frames with
 |nil=>rw[e] at hf;cases hf
 |cons f rest=>
  rw[e] at hf
  cases hf with
  |cons h1 h2=>
   refine⟨f,{m with answer:=none,frames:=rest,weight:=m.weight-(1+f.kept.marks.size),pc:=f.pc,pos:=f.pos,outermost:=f.outermost},?_,h1,?_,rfl⟩
   ·unfold M.step
    rw[h.oc,h.ans,e];simp only[zi2,V7,if_false]
   ·exact{code:=h.code,text:=h.text,lim:=h.lim,ls:=h.ls,st:=h.st,pc:=h1.pc,pos:=h1.pos,fr:=h2,om:=h1.om,ans:=rfl,oc:=h.oc,ma:=h.ma,wt:=h.wt,inn:=h.inn,mks:=h.mks,lm:=h.lm,wg:=by show m.weight-(1+f.kept.marks.size)<=rest.length;have:=h.wg;rw[e,S7] at this;exact zuz (A7 this (Q2 (J9 1 _) _))}
theorem At.back {a:Option Bool}{k:Sre.Kept}(h:At code text lim ls m st pc pos fr om a)(hk:k.lastmark= -1/\k.whole=false/\k.marks= #[]):At code text lim ls (m.putBack k) st pc pos fr om a:=by
 unfold M.putBack;rw[hk.2.1];exact{code:=h.code,text:=h.text,lim:=h.lim,ls:=h.ls,st:=h.st,pc:=h.pc,pos:=h.pos,fr:=h.fr,om:=h.om,ans:=h.ans,oc:=h.oc,ma:=h.ma,wt:=h.wt,inn:=h.inn,mks:=h.mks,lm:=hk.1,wg:=h.wg}
theorem At.yesStart {a b:Nat}{o:Bool}(h:At code text lim ls m st pc pos ((.nextStart,a,b,o)::fr) om (some true)):At code text lim ls m.step st a b fr o (some true)/\m.step.handed=m.handed:=by
 obtain⟨f,m1,e,hf,h1,hh⟩:=h.pop;rw[e];unfold M.resume;rw[hf.wait];exact⟨h1.say true,hh⟩
theorem At.yesBranch {a b:Nat}{o:Bool}(h:At code text lim ls m st pc pos ((.nextBranch,a,b,o)::fr) om (some true)):At code text lim ls m.step st a b fr o (some true)/\m.step.handed=m.handed:=by
 obtain⟨f,m1,e,hf,h1,hh⟩:=h.pop;rw[e];unfold M.resume;rw[hf.wait];exact⟨h1.say true,hh⟩
theorem At.noBranch {a b:Nat}{o:Bool}(h:At code text lim ls m st pc pos ((.nextBranch,a,b,o)::fr) om (some false))(hz:fr.length<=100)(hne:code.getD (a+code.getD a 0) 0≠0):
 At code text lim ls m.step st (a+code.getD a 0+1) b ((.nextBranch,a+code.getD a 0,b,o)::fr) o none:=by
 obtain⟨f,m1,e,hf,h1,hh⟩:=h.pop;rw[e];unfold M.resume;rw[hf.wait];have hb:=h1.back (k:=f.kept) ⟨hf.lm,hf.wh,hf.mks⟩;show At code text lim ls (M.alternative (m1.putBack f.kept) (f.pc+m1.code.getD f.pc 0) f.kept) _ _ _ _ _ _;rw[hf.pc,h1.code];exact hb.altn rfl ⟨hf.lm,hf.wh,hf.mks⟩ hz hne
theorem At.noLook {a b:Nat}{o:Bool}(h:At code text lim ls m st pc pos ((.lookNot,a,b,o)::fr) om (some false)):At code text lim ls m.step st (a+1+code.getD (a+1) 0) b fr o none:=by
 obtain⟨f,m1,e,hf,h1,hh⟩:=h.pop;rw[e];unfold M.resume;rw[hf.wait];have hb:=h1.back (k:=f.kept) ⟨hf.lm,hf.wh,hf.mks⟩;have hw:m1.word 1=code.getD (a+1) 0:=h1.word 1;exact{code:=hb.code,text:=hb.text,lim:=hb.lim,ls:=hb.ls,st:=hb.st,pc:=by show m1.pc+1+m1.word 1=_;rw[h1.pc,hw],pos:=hb.pos,fr:=hb.fr,om:=hb.om,ans:=hb.ans,oc:=hb.oc,ma:=hb.ma,wt:=hb.wt,inn:=hb.inn,mks:=hb.mks,lm:=hb.lm,wg:=hb.wg}
theorem At.yesLook {a b:Nat}{o:Bool}(h:At code text lim ls m st pc pos ((.lookNot,a,b,o)::fr) om (some true)):At code text lim ls m.step st a b fr o (some false):=by
 obtain⟨f,m1,e,hf,h1,hh⟩:=h.pop;rw[e];unfold M.resume;rw[hf.wait];exact h1.say false
theorem At.assertNot (h:At code text lim ls m st pc pos fr om none)(hpc:pc<code.size)(hop:ops[code.getD pc 0]? =some .ASSERT_NOT)(hz:fr.length<=100)(hw2:code.getD (pc+2) 0=0):
 At code text lim ls m.step st (pc+3) pos ((.lookNot,pc,pos,om)::fr) false none:=by
 rw[h.stepE (a:=none) hpc];unfold M.exec;have hw:m.word 0=code.getD pc 0:=h.word 0;rw[hw,hop];have hw2':m.word 2=0:=by rw[h.word 2,hw2]
 have e2:M.word {m with seen:=m.seen.add (code.getD pc 0)} 2=0:=hw2'
 dsimp only
 rw[e2,if_neg (zq3 _)];have h':At code text lim ls {m with seen:=m.seen.add (code.getD pc 0)} st pc pos fr om none:={h with};have key: ∀q p o,m.pc=q->m.pos=p->m.outermost=o->At code text lim ls (M.attempt {m with seen:=m.seen.add (code.getD pc 0)} {M.frame {m with seen:=m.seen.add (code.getD pc 0)} .lookNot with kept:=M.keep {m with seen:=m.seen.add (code.getD pc 0)} (true&&(M.inner {m with seen:=m.seen.add (code.getD pc 0)}).isSome)} (m.pc+3) (m.pos-0) false) st (q+3) p ((.lookNot,q,p,o)::fr) false none:=by
  rintro q p o rfl rfl rfl;exact h'.attempt rfl ⟨rfl,rfl,rfl,rfl,h.lm,by show(true&&m.inner.isSome)=false;rw[h.inn];rfl,by unfold M.keep;rw[show(M.inner {m with seen:=m.seen.add (code.getD pc 0)})=none from h.inn];rfl⟩ hz
 exact key pc pos om h.pc h.pos h.om
theorem At.end_ {y:Bool}(h:At code text lim ls m st pc pos [] om (some y)):m.step.outcome=some (if y then .matched else .failed)/\m.step.start=st/\m.step.handed=m.handed/\m.step.lastmark= -1/\m.step.marks= #[]:=by
 have hf:=h.fr
 cases e:m.frames with
 |cons f rest=>rw[e] at hf;cases hf
 |nil=>
  have this:m.step={m with outcome:=some (if y then .matched else .failed)}:=by
   unfold M.step;rw[h.oc,h.ans,e];rfl
  rw[this];exact⟨rfl,h.st,rfl,h.lm,h.mks⟩
theorem At.tryAt {s:Nat}{o:Bool}(h:At code text lim ls m st pc pos [] om none):At code text lim ls (m.attemptAt s o) s pc s [(.nextStart,pc,s,o)] o none:=by
 unfold M.attemptAt;have h':At code text lim ls {m with start:=s,pos:=s,lastmark:= -1,lastindex:= -1} s pc s [] om none:={code:=h.code,text:=h.text,lim:=h.lim,ls:=h.ls,st:=rfl,pc:=h.pc,pos:=rfl,fr:=h.fr,om:=h.om,ans:=h.ans,oc:=h.oc,ma:=h.ma,wt:=h.wt,inn:=h.inn,mks:=h.mks,lm:=rfl,wg:=h.wg};have key: ∀q,m.pc=q->At code text lim ls (M.attempt {m with start:=s,pos:=s,lastmark:= -1,lastindex:= -1} {wait:= .nextStart,pc:=m.pc,pos:=s,outermost:=o} m.pc s o) s q s [(.nextStart,q,s,o)] o none:=by
  rintro q rfl;exact h'.attempt rfl ⟨rfl,rfl,rfl,rfl,rfl,rfl,rfl⟩ (by simp)
 exact key pc h.pc
theorem At.noStart {a b:Nat}{o:Bool}(h:At code text lim ls m st pc pos [(.nextStart,a,b,o)] om (some false)): ∃m1,m.step=(if b<ls then m1.attemptFrom (b+1) false else m1.say false)/\At code text lim ls m1 st a b [] o none:=by
 obtain⟨f,m1,e,hf,h1,hh⟩:=h.pop;have hp:f.pos=b:=hf.pos;have hr:M.resume m1 f false=(if b<ls then M.attemptFrom {m1 with mustAdvance:=false} (b+1) false else m1.say false):=by
  unfold M.resume;rw[hf.wait,hp,h1.ls];rfl
 rw[e,hr];by_cases hb:b<ls
 ·exact⟨{m1 with mustAdvance:=false},by rw[if_pos hb,if_pos hb],{code:=h1.code,text:=h1.text,lim:=h1.lim,ls:=h1.ls,st:=h1.st,pc:=h1.pc,pos:=h1.pos,fr:=h1.fr,om:=h1.om,ans:=h1.ans,oc:=h1.oc,ma:=rfl,wt:=h1.wt,inn:=h1.inn,mks:=h1.mks,lm:=h1.lm,wg:=h1.wg}⟩
 ·exact⟨m1,by rw[if_neg hb,if_neg hb],h1⟩
end
noncomputable def RunsTo (m:M)(B:Nat)(P:M->Prop):Prop:= ∃k,k<=B/\P (m.runFor k)
theorem RunsTo.here {m:M}{B:Nat}{P:M->Prop}(h:P m):RunsTo m B P:=⟨0,Q7 _,h⟩
theorem RunsTo.step {m:M}{B:Nat}{P:M->Prop}(ho:m.outcome=none)(h:RunsTo m.step B P):RunsTo m (B+1) P:=by
 obtain⟨k,hk,hp⟩:=h;exact⟨k+1,by omega,by rw[zry ho];exact hp⟩
theorem RunsTo.trans {m:M}{B C:Nat}{P Q:M->Prop}(h:RunsTo m B P)(g: ∀m',P m'->RunsTo m' C Q):RunsTo m (B+C) Q:=by
 obtain⟨k,hk,hp⟩:=h;obtain⟨j,hj,hq⟩:=g _ hp;exact⟨k+j,by omega,by rw[zhh];exact hq⟩
theorem RunsTo.mono {m:M}{B C:Nat}{P:M->Prop}(h:RunsTo m B P)(hb:B<=C):RunsTo m C P:=by
 obtain⟨k,hk,hp⟩:=h;exact⟨k,by omega,hp⟩
section
variable{code text:Array Nat}{lim ls:Nat}
noncomputable def Told (code text:Array Nat)(lim ls body:Nat)(om:Bool)(s:Nat)(r:Option Nat)(m':M):Prop:=
 ∃pc pos o,match r with
  |some e=>At code text lim ls m' s pc pos [(.nextStart,body,s,om)] o (some true)/\m'.handed=e
  |none=>At code text lim ls m' s pc pos [(.nextStart,body,s,om)] o (some false)
structure Prog (code text:Array Nat)(lim body K:Nat)(Mt:Nat->Option Nat):Prop where
 one: ∀s om m,s<=lim->At code text lim lim m s body s [(.nextStart,body,s,om)] om none->RunsTo m K (Told code text lim lim body om s (Mt s))
 far: ∀q,lim<=q->Mt q=none
 «from»: ∀s first m st pos o,s<=lim->At code text lim lim m st body pos [] o none->
  (∃s',s<=s'/\s'<=lim/\(∀q,s<=q->q<s'->Mt q=none)/\At code text lim lim (m.attemptFrom s first) s' body s' [(.nextStart,body,s',first)] first none)
  \/((∀q,s<=q->Mt q=none)/\At code text lim lim (m.attemptFrom s first) st body pos [] o (some false))
noncomputable def Srch (lim:Nat)(Mt:Nat->Option Nat)(s:Nat)(m':M):Prop:=
 (∃b e,s<=b/\b<=lim/\Mt b=some e/\(∀q,s<=q->q<b->Mt q=none)/\m'.outcome=some .matched/\m'.start=b/\m'.handed=e/\m'.lastmark= -1/\m'.marks= #[])
 \/((∀q,s<=q->Mt q=none)/\m'.outcome=some .failed)
theorem Srch.mono {lim:Nat}{Mt:Nat->Option Nat}{s s':Nat}{m':M}(h:Srch lim Mt s' m')(hs:s<=s')(hn: ∀q,s<=q->q<s'->Mt q=none):Srch lim Mt s m':=by
 rcases h with⟨b,e,h1,h2,h3,h4,h5⟩|⟨h1,h2⟩
 ·refine zkb ⟨b,e,by omega,h2,h3,?_,h5⟩
  intro q hq1 hq2;by_cases hq:q<s'
  ·exact hn q hq1 hq
  ·exact h4 q (by omega) hq2
 ·refine zri ⟨?_,h2⟩
  intro q hq1;by_cases hq:q<s'
  ·exact hn q hq1 hq
  ·exact h1 q (by omega)
theorem zjo {m:M}{Mt:Nat->Option Nat}{s st pc pos:Nat}{o:Bool}{B:Nat}(h:At code text lim ls m st pc pos [] o (some false))(hn: ∀q,s<=q->Mt q=none)(hB:1<=B):RunsTo m B (Srch lim Mt s):=by
 refine(RunsTo.step h.oc (B:=0) (RunsTo.here ?_)).mono hB;exact zri ⟨hn,h.end_.1⟩
theorem Prog.drive {body K:Nat}{Mt:Nat->Option Nat}(p:Prog code text lim body K Mt): ∀(n s:Nat) (om:Bool) (m:M),lim-s<=n->s<=lim->At code text lim lim m s body s [(.nextStart,body,s,om)] om none->
 RunsTo m ((n+1)*(K+2)) (Srch lim Mt s):=by
 intro n
 induction n with
 |zero=>
  intro s om m hn hs h;refine((p.one s om m hs h).trans (C:=2) ?_).mono (by simp)
  intro m' ⟨pc,pos,o,ht⟩;have hls:=zdl.mp (Nat.le_zero.mp hn);have hf:Mt s=none:=p.far s hls;rw[hf] at ht;obtain⟨m1,e,h1⟩:=ht.noStart;refine RunsTo.step ht.oc ?_;rw[e,if_neg (D7.mpr hls)];exact zjo (h1.say false) (λ q hq=>p.far q (A7 hls hq)) (D2 1)
 |succ n ih=>
  intro s om m hn hs h;have hB:(n+1+1)*(K+2)=K+(2+(n+1)*(K+2)):=by rw[zgg (n+1)];omega
  rw[hB];refine(p.one s om m hs h).trans ?_;intro m' ⟨pc,pos,o,ht⟩
  cases hM:Mt s with
  |some e=>
   rw[hM] at ht;obtain⟨ht,hh⟩:=ht;refine RunsTo.mono (B:=2) ?_ (by omega)
   have y:=ht.yesStart;refine RunsTo.step ht.oc (RunsTo.step y.1.oc (RunsTo.here ?_));have z:=y.1.end_;exact zkb ⟨s,e,D2 _,hs,hM,λ q h1 h2=>absurd (C2 h1 h2) (H8 s),z.1,z.2.1,by rw[z.2.2.1,y.2,hh],z.2.2.2.1,z.2.2.2.2⟩
  |none=>
   rw[hM] at ht;obtain⟨m1,e,h1⟩:=ht.noStart;refine RunsTo.mono (B:=(1+(n+1)*(K+2))+1) (RunsTo.step ht.oc ?_) (by omega)
   rw[e];by_cases hl:s<lim
   ·rw[if_pos hl]
    rcases p.from (s+1) false m1 s s om (by omega) h1 with⟨s',g1,g2,g3,g4⟩|⟨g1,g2⟩
    ·obtain⟨k,hk,hq⟩:=ih s' false _ (yha hn g1) g2 g4
     exact⟨k,A7 hk (J6 ..),hq.mono (zdw g1) λ q hq1 hq2=>by
      by_cases hqs:q=s
      ·rw[hqs];exact hM
      ·exact g3 q (zad hq1 (U8 hqs)) hq2⟩
    ·exact zjo g2 (λ q hq=>by
      by_cases hqs:q=s
      ·rw[hqs];exact hM
      ·exact g1 q (zad hq (U8 hqs))) (by omega)
   ·rw[if_neg hl]
    exact zjo (h1.say false) (λ q hq=>p.far q (A7 (D7.mp hl) hq)) (by omega)
theorem Prog.search {body K:Nat}{Mt:Nat->Option Nat}(p:Prog code text lim body K Mt){pos:Nat}(hp:pos<=lim)(hb:(header code).2=body)(h0:body≠0)(hl:(header code).1=1):
 RunsTo (zc9 code text 0 pos lim false) ((lim+1)*(K+2)+1) (Srch lim Mt pos):=by
 have hat: ∀(s:zka),At code text lim lim {code,text,lim,start:=pos,pc:=(header code).2,pos,handed:=pos,marks:=R9 (2*0) none,mustAdvance:=false,seen:=s,lastStart:=lim} pos body pos [] true none:=λ s=>
  {code:=rfl,text:=rfl,lim:=rfl,ls:=rfl,st:=rfl,pc:=hb,pos:=rfl,fr:= .nil,om:=rfl,ans:=rfl,oc:=rfl,ma:=rfl,wt:=rfl,inn:=rfl,mks:=rfl,lm:=rfl,wg:=Q7 _}
 have hat0: ∀(s:zka) (y:Bool),At code text lim 0 (M.say {code,text,lim,start:=pos,pc:=(header code).2,pos,handed:=pos,marks:=R9 (2*0) none,mustAdvance:=false,seen:=s} y) pos body pos [] true (some y):=λ s y=>
  {code:=rfl,text:=rfl,lim:=rfl,ls:=rfl,st:=rfl,pc:=hb,pos:=rfl,fr:= .nil,om:=rfl,ans:=rfl,oc:=rfl,ma:=rfl,wt:=rfl,inn:=rfl,mks:=rfl,lm:=rfl,wg:=Q7 _}
 have hss:zc9 code text 0 pos lim false=(if pos>lim||lim-pos<(header code).1 then M.say {code,text,lim,start:=pos,pc:=(header code).2,pos,handed:=pos,marks:=R9 (2*0) none,mustAdvance:=false,seen:=if(header code).2==0 then{} else({}:zka).add 14} false else M.attemptFrom {code,text,lim,start:=pos,pc:=(header code).2,pos,handed:=pos,marks:=R9 (2*0) none,mustAdvance:=false,seen:=if(header code).2==0 then{} else({}:zka).add 14,lastStart:=if(header code).1>1&& !((header code).2 != 0&&code.getD 2 0 &&& 5 != 0) then max pos (lim-((header code).1-1)) else lim} pos true):=rfl;rw[hss,hl];by_cases hc:lim-pos<1
 ·rw[if_pos (by simp[hc])]
  exact zjo (hat0 _ false) (λ q hq=>p.far q (A7 (zdl.mp (zpe.mp hc)) hq)) (by omega)
 ·rw[if_neg (by simp;omega)]
  rw[show(if(1:Nat)>1&& !((header code).2 != 0&&code.getD 2 0 &&& 5 != 0) then max pos (lim-(1-1)) else lim)=lim from rfl]
  rcases p.from pos true _ pos pos true hp (hat _) with⟨s',g1,g2,g3,g4⟩|⟨g1,g2⟩
  ·obtain⟨k,hk,hq⟩:=p.drive (lim-s') s' true _ (D2 _) g2 g4
   have:(lim-s'+1)*(K+2)<=(lim+1)*(K+2):=I0 _ (zbj (ze6 ..));exact⟨k,A7 hk (G5 this),hq.mono g1 g3⟩
  ·exact zjo g2 g1 (by omega)
end
section
variable{code text:Array Nat}{lim ls:Nat}{m:M}{st pc pos:Nat}{fr:List FrT}{om:Bool}
theorem At.lastBranch {a b:Nat}{o:Bool}(h:At code text lim ls m st pc pos ((.nextBranch,a,b,o)::fr) om (some false))(hne:code.getD (a+code.getD a 0) 0=0):
 At code text lim ls m.step st a b fr o (some false):=by
 obtain⟨f,m1,e,hf,h1,hh⟩:=h.pop;rw[e];unfold M.resume;rw[hf.wait];have hb:=h1.back (k:=f.kept) ⟨hf.lm,hf.wh,hf.mks⟩;show At code text lim ls (M.alternative (m1.putBack f.kept) (f.pc+m1.code.getD f.pc 0) f.kept) _ _ _ _ _ _;rw[hf.pc,h1.code];unfold M.alternative;rw[hb.code,if_pos (by simpa using hne)]
 exact hb.say false
theorem At.noFirst (h:At code text lim ls m st pc pos [] om none)(hf: ¬(code.getD 2 0=4))(s:Nat)(first:Bool):m.attemptFrom s first=m.attemptAt s first:=by
 unfold M.attemptFrom;have:m.hasFirstSet=false:=by
  unfold M.hasFirstSet;rw[h.code];have:(code.getD 2 0==4)=false:=by simpa using hf
  rw[this,Bool.and_false]
 rw[this];rfl
theorem Told.yes {body s e:Nat}{r:Option Nat}{m':M}{o:Bool}(hr:r=some e)(h:At code text lim ls m' s pc pos [(.nextStart,body,s,om)] o (some true)/\m'.handed=e):Told code text lim ls body om s r m':=by
 subst hr;exact⟨_,_,_,h⟩
theorem Told.no {body s:Nat}{r:Option Nat}{m':M}{o:Bool}(hr:r=none)(h:At code text lim ls m' s pc pos [(.nextStart,body,s,om)] o (some false)):Told code text lim ls body om s r m':=by
 subst hr;exact⟨_,_,_,h⟩
theorem zsm {F:Nat->Bool}(hc:m.code=code)(ht:m.text=text)(hl:m.lim=lim)(hF: ∀c seen,∃seen',inSet code c code.size 5 true seen= .ok (F c,seen')): ∀(n s:Nat) (seen:zka),lim+1-s=n->s<=lim->
 ∃seen',(∃s',s<=s'/\s'<lim/\(∀q,s<=q->q<s'->F (text.getD q 0)=false)/\M.admitted m n s seen= .ok (some s',seen'))\/((∀q,s<=q->q<lim->F (text.getD q 0)=false)/\M.admitted m n s seen= .ok (none,seen')):=by
 intro n
 induction n with
 |zero=>intro s seen hn hs;exact absurd hn (zxn (zha hs))
 |succ n ih=>
  intro s seen hn hs;rw[show M.admitted m (n+1) s seen=(if s>=m.lim then .ok (none,seen) else match inSet m.code (m.text.getD s 0) m.code.size 5 true seen with
   | .ok (true,seen)=> .ok (some s,seen)
   | .ok (false,seen)=>M.admitted m n (s+1) seen
   | .error why=> .error why) from rfl]
  rw[hl];by_cases h:s>=lim
  ·rw[if_pos h]
   exact⟨seen,zri ⟨λ q h1 h2=>absurd (C2 (A7 h h1) h2) (H8 _),rfl⟩⟩
  ·rw[if_neg h,hc,ht]
   obtain⟨seen1,e⟩:=hF (text.getD s 0) seen;rw[e]
   cases hb:F (text.getD s 0) with
   |true=>exact⟨seen1,zkb ⟨s,D2 _,Nat.not_le.mp h,λ q h1 h2=>absurd (C2 h1 h2) (H8 s),rfl⟩⟩
   |false=>
    obtain⟨seen2,hh⟩:=ih (s+1) seen1 (yea hn) (Nat.not_le.mp h);refine⟨seen2,?_⟩;rcases hh with⟨s',h1,h2,h3,h4⟩|⟨h1,h2⟩
    ·exact zkb ⟨s',zdw h1,h2,λ q hq1 hq2=>by
      by_cases hq:q=s
      ·rw[hq];exact hb
      ·exact h3 q (zad hq1 (U8 hq)) hq2,h4⟩
    ·exact zri ⟨λ q hq1 hq2=>by
      by_cases hq:q=s
      ·rw[hq];exact hb
      ·exact h1 q (zad hq1 (U8 hq)) hq2,h2⟩
theorem zth {F:Nat->Bool}{Mt:Nat->Option Nat}{body:Nat}(hi:ops[code.getD 0 0]? =some .INFO)(h4:code.getD 2 0=4)(hF: ∀c seen,∃seen',inSet code c code.size 5 true seen= .ok (F c,seen'))
 (hM: ∀q,Mt q≠none->q<lim/\F (text.getD q 0)=true)(s:Nat)(first:Bool)(m:M)(st pos:Nat)(o:Bool)(hs:s<=lim)(h:At code text lim lim m st body pos [] o none):
 (∃s',s<=s'/\s'<=lim/\(∀q,s<=q->q<s'->Mt q=none)/\At code text lim lim (m.attemptFrom s first) s' body s' [(.nextStart,body,s',first)] first none)
 \/((∀q,s<=q->Mt q=none)/\At code text lim lim (m.attemptFrom s first) st body pos [] o (some false)):=by
 have hfs:m.hasFirstSet=true:=by unfold M.hasFirstSet;rw[h.code,hi,h4];rfl
 have hno: ∀q,F (text.getD q 0)=false->Mt q=none:=λ q hq=>by
  cases e:Mt q with
  |none=>rfl
  |some x=>have:=(hM q (by rw[e];exact λ z=>by cases z)).2;rw[hq] at this;cases this
 have hfar: ∀q,lim<=q->Mt q=none:=λ q hq=>by
  cases e:Mt q with
  |none=>rfl
  |some x=>have:=(hM q (by rw[e];exact λ z=>by cases z)).1;exact absurd this (D7.mpr hq)
 obtain⟨seen',hh⟩:=zsm (m:=m) h.code h.text h.lim hF (lim+1-s) s m.seen rfl hs;unfold M.attemptFrom;rw[hfs];rw[show(if(!true)=true then m.attemptAt s first else _)=_ from if_neg (by simp)]
 have e0:M.admitted m (m.lim+1-s) s m.seen=M.admitted m (lim+1-s) s m.seen:=by rw[h.lim]
 rw[e0];rcases hh with⟨s',h1,h2,h3,h4⟩|⟨h1,h2⟩
 ·refine zkb ⟨s',h1,K3 h2,λ q a b=>hno q (h3 q a b),?_⟩
  rw[h4];have h':At code text lim lim {m with mustAdvance:=false,seen:=seen'} st body pos [] o none:={code:=h.code,text:=h.text,lim:=h.lim,ls:=h.ls,st:=h.st,pc:=h.pc,pos:=h.pos,fr:=h.fr,om:=h.om,ans:=h.ans,oc:=h.oc,ma:=rfl,wt:=h.wt,inn:=h.inn,mks:=h.mks,lm:=h.lm,wg:=h.wg};exact h'.tryAt
 ·refine zri ⟨λ q a=>?_,?_⟩
  ·by_cases hq:q<lim
   ·exact hno q (h1 q a hq)
   ·exact hfar q (D7.mp hq)
  ·rw[h2]
   have h':At code text lim lim {m with seen:=seen'} st body pos [] o none:={h with};exact h'.say false
theorem zwt {Mt:Nat->Option Nat}{body:Nat}(h4: ¬code.getD 2 0=4)(s:Nat)(first:Bool)(m:M)(st pos:Nat)(o:Bool)(hs:s<=lim)(h:At code text lim lim m st body pos [] o none):
 (∃s',s<=s'/\s'<=lim/\(∀q,s<=q->q<s'->Mt q=none)/\At code text lim lim (m.attemptFrom s first) s' body s' [(.nextStart,body,s',first)] first none)
 \/((∀q,s<=q->Mt q=none)/\At code text lim lim (m.attemptFrom s first) st body pos [] o (some false)):=by
 refine zkb ⟨s,D2 _,hs,λ q a b=>absurd (C2 a b) (H8 s),?_⟩;rw[h.noFirst h4];exact h.tryAt
theorem zvy {F:Nat->Bool}{body:Nat}(hi:ops[code.getD 0 0]? =some .INFO)(h4:code.getD 2 0=4)(hF: ∀c seen,∃seen',inSet code c code.size 5 true seen= .ok (F c,seen'))
 (hop:ops[code.getD body 0]? =some .IN)(hF2: ∀c seen,∃seen',inSet code c code.size (body+2) true seen= .ok (F c,seen'))
 (hs1:ops[code.getD (body+itemWidth code body) 0]? =some .SUCCESS)(hz:body<code.size)(hz1:body+itemWidth code body<code.size):
 Prog code text lim body 2 (λ q=>if q<lim/\F (text.getD q 0)=true then some (q+1) else none) where
 one:=by
  intro s om m hs h;by_cases hl:s<lim
  ·have hc:=h.char (c:=text.getD s 0) (yes:=F (text.getD s 0)) hz hop (zri rfl) hl rfl (λ seen=>by
    obtain⟨seen',e⟩:=hF2 (text.getD s 0) seen;exact⟨seen',by unfold accepts;rw[hop];exact e⟩)
   cases hb:F (text.getD s 0) with
   |true=>
    have h1:=hc.1 hb;have h2:=h1.success hz1 hs1;refine RunsTo.step h.oc (RunsTo.step h1.oc (RunsTo.here ?_));exact Told.yes (if_pos ⟨hl,rfl⟩) (h2)
   |false=>
    refine RunsTo.step h.oc (RunsTo.here ?_);exact Told.no (if_neg (λ z=>by cases z.2)) (hc.2 hb)
  ·refine RunsTo.step h.oc (RunsTo.here ?_)
   exact Told.no (if_neg (λ z=>hl z.1)) (h.noChar hz hop (zri rfl) (D7.mp hl))
 far:=λ q hq=>if_neg (λ z=>D7.mpr hq z.1)
 «from»:=zth hi h4 hF (λ q hq=>by
  by_cases hc:q<lim/\F (text.getD q 0)=true
  ·exact hc
  ·exact absurd (if_neg hc) hq)
end
noncomputable def nameP:Array Nat:= #[14,10,4,1,1,22,0,31,16,127,0,13,7,22,0,31,16,127,0,1]
noncomputable def valP:Array Nat:= #[14,14,4,1,1,9,4294966783,0,0,2147483648,0,0,0,0,0,13,11,9,4294966783,0,0,2147483648,0,0,0,0,0,1]
noncomputable def lineP:Array Nat:= #[14,9,4,1,2,16,10,16,13,0,7,7,16,13,16,10,15,18,5,16,10,15,13,11,16,13,5,5,0,16,10,1,15,2,0,1]
noncomputable def yhi:Array Nat:= #[14,4,0,1,1,6,1,16,46,1]
noncomputable def zr5 (c:Nat):Bool:=(decide (0<=c)&&decide (c<=31))||c==127
noncomputable def zx1 (c:Nat):Bool:=decide (c<256)&&(valP.getD (6+c / 32) 0).testBit (c % 32)
theorem zv6 (i:Nat)(hi:i=5\/i=13)(c:Nat)(seen:zka): ∃seen',inSet nameP c nameP.size i true seen= .ok (zr5 c,seen'):=by
 have key: ∃s1 s2 s3,inSet nameP c nameP.size i true seen=(if(decide (0<=c)&&decide (c<=31))=true then .ok (true,s1) else if(c==127)=true then .ok (true,s2) else .ok (!true,s3)):=by
  rcases hi with rfl|rfl
  ·exact⟨_,_,_,rfl⟩
  ·exact⟨_,_,_,rfl⟩
 obtain⟨s1,s2,s3,e⟩:=key;rw[e];unfold zr5;by_cases h1:(decide (0<=c)&&decide (c<=31))=true
 ·rw[if_pos h1,h1];exact⟨s1,rfl⟩
 ·rw[if_neg h1]
  rw[zh4] at h1;rw[h1];by_cases h2:(c==127)=true
  ·rw[if_pos h2,h2];exact⟨s2,rfl⟩
  ·rw[if_neg h2];rw[zh4] at h2;rw[h2];exact⟨s3,rfl⟩
theorem ya1 (i:Nat)(hi:i=5\/i=17)(c:Nat)(seen:zka): ∃seen',inSet valP c valP.size i true seen= .ok (zx1 c,seen'):=by
 have key: ∃s1 s3,inSet valP c valP.size i true seen=(if(decide (c<256)&&(valP.getD (i+(1+c / 32)) 0).testBit (c % 32))=true then .ok (true,s1) else .ok (!true,s3)):=by
  rcases hi with rfl|rfl
  ·exact⟨_,_,rfl⟩
  ·exact⟨_,_,rfl⟩
 have e2:(decide (c<256)&&(valP.getD (i+(1+c / 32)) 0).testBit (c % 32))=zx1 c:=by
  unfold zx1;by_cases hc:c<256
  ·have:c / 32<8:=by omega
   rcases hi with rfl|rfl
   ·rw[show 5+(1+c / 32)=6+c / 32 by omega]
   ·have: ∀k,k<8->valP.getD (17+(1+k)) 0=valP.getD (6+k) 0:=by decide
    rw[this _ (by omega)]
  ·simp[hc]
 obtain⟨s1,s3,e⟩:=key;rw[e,e2]
 cases h1:zx1 c with
 |true=>exact⟨s1,rfl⟩
 |false=>exact⟨s3,rfl⟩
theorem zta (text:Array Nat)(lim:Nat):Prog nameP text lim 11 2 (λ q=>if q<lim/\zr5 (text.getD q 0)=true then some (q+1) else none):=
 zvy rfl rfl (zv6 5 (zkb rfl)) rfl (zv6 13 (zri rfl)) rfl (by decide) (by decide)
theorem zvf (text:Array Nat)(lim:Nat):Prog valP text lim 15 2 (λ q=>if q<lim/\zx1 (text.getD q 0)=true then some (q+1) else none):=
 zvy rfl rfl (ya1 5 (zkb rfl)) rfl (ya1 17 (zri rfl)) rfl (by decide) (by decide)
noncomputable def ygh (text:Array Nat)(lim q:Nat):Option Nat:=if q<lim/\(q==0||text.getD (q-1) 0==10)=true/\text.getD q 0=46 then some (q+1) else none
theorem zr6 {code:Array Nat}{pc c k:Nat}(hop:ops[code.getD pc 0]? =some .LITERAL)(hk:code.getD (pc+1) 0=k): ∀seen,∃seen',accepts code pc c seen= .ok (c==k,seen'):=by
 intro seen;exact⟨seen,by unfold accepts;rw[hop,hk]⟩
theorem ydk (text:Array Nat)(lim:Nat):Prog yhi text lim 5 3 (ygh text lim) where
 one:=by
  intro s om m hs h;have h1:=h.atLine (by decide) rfl rfl
  cases hb:(s==0||text.getD (s-1) 0==10) with
  |false=>
   rw[hb] at h1;refine RunsTo.step h.oc (RunsTo.here ?_);exact Told.no (if_neg (λ z=>by rw[hb] at z;cases z.2.1)) (h1)
  |true=>
   rw[hb] at h1;have h1:At yhi text lim lim m.step s 7 s [(.nextStart,5,s,om)] om none:=h1;by_cases hl:s<lim
   ·have h2:=h1.char (c:=text.getD s 0) (yes:=text.getD s 0==46) (by decide) rfl (zkb rfl) hl rfl (zr6 rfl rfl)
    cases hd:text.getD s 0==46 with
    |true=>
     have h3:=h2.1 hd;have h4:=h3.success (by decide) rfl
     refine RunsTo.step h.oc (RunsTo.step h1.oc (RunsTo.step h3.oc (RunsTo.here ?_)));exact Told.yes (if_pos ⟨hl,hb,by simpa using hd⟩) (h4)
    |false=>
     refine RunsTo.step h.oc (RunsTo.step h1.oc (RunsTo.here ?_));exact Told.no (if_neg (λ z=>by rw[z.2.2] at hd;cases hd)) (h2.2 hd)
   ·refine RunsTo.step h.oc (RunsTo.step h1.oc (RunsTo.here ?_))
    exact Told.no (if_neg (λ z=>hl z.1)) (h1.noChar (by decide) rfl (zkb rfl) (D7.mp hl))
 far:=λ q hq=>if_neg (λ z=>D7.mpr hq z.1)
 «from»:=zwt (by decide)
noncomputable def ycu (c:Nat):Bool:=c==10||c==13
theorem yct (c:Nat)(seen:zka): ∃seen',inSet lineP c lineP.size 5 true seen= .ok (ycu c,seen'):=by
 have key: ∃s1 s2 s3,inSet lineP c lineP.size 5 true seen=(if(c==10)=true then .ok (true,s1) else if(c==13)=true then .ok (true,s2) else .ok (!true,s3)):=⟨_,_,_,rfl⟩;obtain⟨s1,s2,s3,e⟩:=key;rw[e];unfold ycu;by_cases h1:(c==10)=true
 ·rw[if_pos h1,h1];exact⟨s1,rfl⟩
 ·rw[if_neg h1]
  rw[zh4] at h1;rw[h1];by_cases h2:(c==13)=true
  ·rw[if_pos h2,h2];exact⟨s2,rfl⟩
  ·rw[if_neg h2];rw[zh4] at h2;rw[h2];exact⟨s3,rfl⟩
noncomputable def zjh (text:Array Nat)(lim q:Nat):Option Nat:=
 if q<lim then(if text.getD q 0=13 then(if q+1<lim/\text.getD (q+1) 0=10 then some (q+2) else some (q+1)) else if text.getD q 0=10 then some (q+1) else none) else none
section
variable{text:Array Nat}{lim s p:Nat}{m:M}{st:Nat}{fr:List FrT}{om:Bool}
theorem zzr {code:Array Nat}{lim ls pc pos k:Nat}(h:At code text lim ls m st pc pos fr om none)(hpc:pc<code.size)(hop:ops[code.getD pc 0]? =some .LITERAL)(hk:code.getD (pc+1) 0=k)(hl:pos<lim)(ht:text.getD pos 0=k):
 At code text lim ls m.step st (pc+2) (pos+1) fr om none:=by
 have h2:=h.char (c:=text.getD pos 0) (yes:=text.getD pos 0==k) hpc hop (zkb rfl) hl rfl (zr6 hop hk);have:=h2.1 (by simpa using ht)
 unfold itemWidth at this;rw[hop] at this;exact this
theorem zp8 {code:Array Nat}{lim ls pc pos k:Nat}(h:At code text lim ls m st pc pos fr om none)(hpc:pc<code.size)(hop:ops[code.getD pc 0]? =some .LITERAL)(hk:code.getD (pc+1) 0=k)(ht: ¬(pos<lim/\text.getD pos 0=k)):
 At code text lim ls m.step st pc pos fr om (some false):=by
 by_cases hl:pos<lim
 ·have h2:=h.char (c:=text.getD pos 0) (yes:=text.getD pos 0==k) hpc hop (zkb rfl) hl rfl (zr6 hop hk)
  exact h2.2 (by simpa using λ z=>ht ⟨hl,z⟩)
 ·exact h.noChar hpc hop (zkb rfl) (by omega)
theorem zoq {a:Nat}{m:M}(h:At lineP text lim lim m s 35 p [(.nextBranch,a,s,om),(.nextStart,10,s,om)] om none)(hr:zjh text lim s=some p):RunsTo m 3 (Told lineP text lim lim 10 om s (zjh text lim s)):=by
 have h1:=h.success (by decide) rfl
 refine RunsTo.step h.oc (RunsTo.step h1.1.oc (RunsTo.here ?_));have h2:=h1.1.yesBranch;exact Told.yes hr ⟨h2.1,by rw[h2.2,h1.2]⟩
theorem ygu {m:M}(hs:s<=lim)(h:At lineP text lim lim m s 24 s [(.nextBranch,23,s,om),(.nextStart,10,s,om)] om none)(h2: ¬(s<lim/\text.getD s 0=10))(h1: ¬(s<lim/\text.getD s 0=13/\s+1<lim/\text.getD (s+1) 0=10)):
 RunsTo m 9 (Told lineP text lim lim 10 om s (zjh text lim s)):=by
 by_cases hc:s<lim/\text.getD s 0=13
 ·have g1:=zzr h (by decide) rfl rfl hc.1 hc.2
  have g2:=g1.assertNot (by decide) rfl (by simp) rfl
  have g3:=zp8 g2 (by decide) rfl rfl (k:=10) (λ z=>h1 ⟨hc.1,hc.2,z⟩)
  have g4:=g3.noLook;have g5:=g4.jump (by decide) rfl
  refine RunsTo.mono (RunsTo.step h.oc (RunsTo.step g1.oc (RunsTo.step g2.oc (RunsTo.step g3.oc (RunsTo.step g4.oc (zoq g5 ?_)))))) (by omega)
  unfold zjh;rw[if_pos hc.1,if_pos hc.2,if_neg (λ z=>h1 ⟨hc.1,hc.2,z⟩)]
 ·have g1:=zp8 h (by decide) rfl rfl hc
  have g2:=g1.lastBranch rfl;refine RunsTo.mono (RunsTo.step h.oc (RunsTo.step g1.oc (RunsTo.here (B:=0) ?_))) (by omega)
  refine Told.no ?_ g2;unfold zjh;by_cases hl:s<lim
  ·rw[if_pos hl,if_neg (λ z=>hc ⟨hl,z⟩),if_neg (λ z=>h2 ⟨hl,z⟩)]
  ·rw[if_neg hl]
theorem ycv {m:M}(hs:s<=lim)(h:At lineP text lim lim m s 19 s [(.nextBranch,18,s,om),(.nextStart,10,s,om)] om none)(h1: ¬(s<lim/\text.getD s 0=13/\s+1<lim/\text.getD (s+1) 0=10)):
 RunsTo m 11 (Told lineP text lim lim 10 om s (zjh text lim s)):=by
 by_cases hc:s<lim/\text.getD s 0=10
 ·have g1:=zzr h (by decide) rfl rfl hc.1 hc.2
  have g2:=g1.jump (by decide) rfl
  refine RunsTo.mono (RunsTo.step h.oc (RunsTo.step g1.oc (zoq g2 ?_))) (by omega)
  unfold zjh;rw[if_pos hc.1,if_neg (by rw[hc.2];decide),if_pos hc.2]
 ·have g1:=zp8 h (by decide) rfl rfl hc
  have g2:=g1.noBranch (by simp) (by decide)
  exact RunsTo.step h.oc (RunsTo.step g1.oc (ygu hs g2 hc h1))
theorem zzj (text:Array Nat)(lim:Nat):Prog lineP text lim 10 20 (zjh text lim) where
 one:=by
  intro s om m hs h;have g0:=h.branch (by decide) rfl (by simp) (by decide)
  refine RunsTo.mono (B:=16) (RunsTo.step h.oc ?_) (by omega)
  have h2: ∀m,At lineP text lim lim m s 11 s [(.nextBranch,11,s,om),(.nextStart,10,s,om)] om (some false)-> ¬(s<lim/\text.getD s 0=13/\s+1<lim/\text.getD (s+1) 0=10)->RunsTo m 12 (Told lineP text lim lim 10 om s (zjh text lim s)):=by
   intro m h hn;have g2:=h.noBranch (by simp) (by decide)
   exact RunsTo.step h.oc (ycv hs g2 hn)
  by_cases hc:s<lim/\text.getD s 0=13
  ·have g1:=zzr g0 (by decide) rfl rfl hc.1 hc.2
   by_cases hd:s+1<lim/\text.getD (s+1) 0=10
   ·have g2:=zzr g1 (by decide) rfl rfl hd.1 hd.2
    have g3:=g2.jump (by decide) rfl
    refine RunsTo.mono (RunsTo.step g0.oc (RunsTo.step g1.oc (RunsTo.step g2.oc (zoq g3 ?_)))) (by omega)
    unfold zjh;rw[if_pos hc.1,if_pos hc.2,if_pos hd]
   ·have g2:=zp8 g1 (by decide) rfl rfl hd
    have g3:=g2.noBranch (by simp) (by decide)
    refine RunsTo.mono (RunsTo.step g0.oc (RunsTo.step g1.oc (RunsTo.step g2.oc (ycv hs g3 (λ z=>hd z.2.2))))) (by omega)
  ·have g1:=zp8 g0 (by decide) rfl rfl hc
   have g3:=g1.noBranch (by simp) (by decide)
   refine RunsTo.mono (RunsTo.step g0.oc (RunsTo.step g1.oc (ycv hs g3 (λ z=>hc ⟨z.1,z.2.1⟩)))) (by omega)
 far:=λ q hq=>if_neg (by omega)
 «from»:=zth rfl rfl yct (λ q hq=>by
  unfold zjh at hq;by_cases hl:q<lim
  ·rw[if_pos hl] at hq
   refine⟨hl,?_⟩;unfold ycu;by_cases h1:text.getD q 0=13
   ·rw[h1];rfl
   ·rw[if_neg h1] at hq
    by_cases h2:text.getD q 0=10
    ·rw[h2];rfl
    ·rw[if_neg h2] at hq;exact absurd rfl hq
  ·rw[if_neg hl] at hq;exact absurd rfl hq)
end
theorem zza:PlainAttrs "re.Pattern":=
 ⟨⟨"object.__getattribute__",by rw[R0,L3];kernel_rfl,by decide+kernel⟩,by rw[R0,L3];kernel_rfl⟩
theorem slot_re_sub:Slot "re.Pattern" "sub" "re.Pattern.sub":=
 .of (owner:= "re.Pattern") (n:= "sub") (by rw[R0,L3];kernel_rfl) (by decide+kernel) (by decide+kernel) (by decide+kernel)
  (by first|exact .inl (by decide+kernel)|exact .inr (by decide+kernel)) (by rw[isSubtype_type];kernel_rfl)
theorem ze1:Slot "re.Pattern" "search" "re.Pattern.search":=
 .of (owner:= "re.Pattern") (n:= "search") (by rw[R0,L3];kernel_rfl) (by decide+kernel) (by decide+kernel) (by decide+kernel)
  (by first|exact .inl (by decide+kernel)|exact .inr (by decide+kernel)) (by rw[isSubtype_type];kernel_rfl)
theorem zlw:typeOf (.builtin "re.Pattern.sub")=pure (.type "method_descriptor"):=by show builtinType _=_;rw[builtinType_eq_fast];kernel_rfl
theorem zh7:typeOf (.builtin "re.Pattern.search")=pure (.type "method_descriptor"):=by show builtinType _=_;rw[builtinType_eq_fast];kernel_rfl
theorem zqo:yaa table "re.Pattern.sub"=some zcp.«re.Pattern.sub»:=zhq (by kernel_rfl)
theorem zma:yaa table "re.Pattern.search"=some zcp.«re.Pattern.search»:=zhq (by kernel_rfl)
theorem zjp:yaa table "re.Pattern.sub.loop"=some zcp.«re.Pattern.sub.loop»:=zhq (by kernel_rfl)
theorem zdq:plainId "re.Pattern.sub.loop"=true:=by decide+kernel
theorem zsl (a b c:Value):argsOk "re.Pattern.sub" ⟨[a,b,c],[]⟩:=by
 unfold argsOk;kernel_rfl
theorem znh (a b:Value):argsOk "re.Pattern.search" ⟨[a,b],[]⟩:=by
 unfold argsOk;kernel_rfl
end
section
variable{w:E3}{A:H2}{R:GenEnd}{Y:Protocol}{n:Nat}{s₀:A8}{fs:List Frame}{s:A8}{env:Env}{c:Code}
variable{K:Flow->Sem Fin}{H:Value->Sem Fin}{gd:Bool->Bool}{lv:List Value->List Value}
theorem zd4 {α β:Type}{m:Sem α}{k:α->Sem β}{K:β->Sem Fin}{H:Value->Sem Fin}
 (h:D0 (D1 pw w) (A.over c fs) m (λ a s'=>Seg (D1 pw w) A R Y n s₀ c ((k a).wrap K H gd lv) fs s') (λ z z=>False) s):Seg (D1 pw w) A R Y n s₀ c ((m >>= k).wrap K H gd lv) fs s:=
 seg_bind_wrap (E7 h (λ z z x=>x) λ z z x=>x.elim)
theorem zom {st:Stmt}{rest:List Stmt}
 (h:D0 (D1 pw w) (A.over c fs) (exec st env) (λ f s'=>f= .next/\Seg (D1 pw w) A R Y n s₀ c ((X5 rest env).wrap K H gd lv) fs s') (λ z z=>False) s):
 Seg (D1 pw w) A R Y n s₀ c ((X5 (st::rest) env).wrap K H gd lv) fs s:=by
 refine zmu (seg_wrap (E7 h (λ f s' h'=>?_) λ z z x=>x.elim));obtain⟨rfl,h'⟩:=h';exact h'
theorem zy2 {test:Expr}{body orelse rest:List Stmt}{pos:Pos}
 (h:D0 (D1 pw w) (A.over c fs) (isTrue test env (M3 test env)) (λ b s'=>Seg (D1 pw w) A R Y n s₀ c ((X5 (if b then body else orelse) env).wrap (λ f=>match f with|zlu=>(X5 rest env).wrap K H gd lv|f=>K f) H gd lv) fs s') (λ z z=>False) s):
 Seg (D1 pw w) A R Y n s₀ c ((X5 (.If test body orelse pos::rest) env).wrap K H gd lv) fs s:=by
 refine zmu ?_;rw[exec_If];refine zd4 (K7 ?_);refine zd4 (E7 h (λ b s' h'=>?_) λ z z x=>x)
 cases b with
 |true=>exact h'
 |false=>exact h'
theorem yeb {target iter:Expr}{body rest:List Stmt}{pos:Pos}
 (h:D0 (D1 pw w) (A.over c fs) (M3 iter env) (λ x s1=>D0 (D1 pw w) (A.over c fs) (zj8 x) (λ it s2=> ∀p,
   Seg (D1 pw w) A R Y n s₀ (.forLoop target it body [] env) ((D1 pw w).den (.forLoop target it body [] env))
    (.ret (λ r=>((match r with| .ok f=>(.pure f:Sem Flow)| .error e=> .raise e).onRaise λ(x:Value)=>do
      if(<-field x 1)==M7 then unsupported "frame.own-activation:exception-without-traceback"
      setFlight x env.frame).wrap (λ f=>match f with|zlu=>(X5 rest env).wrap K H gd lv|f=>K f) H gd lv) none (gd false) (lv []) c p []::fs) s2) (λ z z=>False) s1) (λ z z=>False) s)
 (hs: ∀x,J0 iter env x=pure x):
 Seg (D1 pw w) A R Y n s₀ c ((X5 (.For target iter body [] pos::rest) env).wrap K H gd lv) fs s:=by
 refine zmu ?_;rw[exec_For];refine zd4 (K7 ?_);refine zd4 (E7 h (λ x s1 h1=>?_) λ z z x=>x);refine zd4 (zbe (hs x) ?_);refine zd4 (K7 ?_);refine zd4 (J8 (E7 h1 (λ it s2 h2=>?_) λ z z x=>x));exact seg_call h2
theorem znq {target:Expr}{it:Value}{body:List Stmt}
 (h:D0 (D1 pw w) (A.over (.forLoop target it body [] env) fs) (zbh it) (λ r s1=>match r with
   |none=> ∀c',Seg (D1 pw w) A R Y n s₀ c' (leafOf (.ok .next)) fs s1
   |some v=>D0 (D1 pw w) (A.over (.forLoop target it body [] env) fs) (U3 target it v) (λ z s2=>D0 (D1 pw w) (A.over (.forLoop target it body [] env) fs) (M9 target env v) (λ z s3=>
    Seg (D1 pw w) A R Y n s₀ (.forLoop target it body [] env) ((X5 body env).wrap (λ f=>match f with
     |zlu|Flow.cont=>ybs (Fin.again (.forLoop target it body [] env))
     |Flow.brk=>ybs (Fin.done zlu)
     |zph v=>ybs (Fin.done (zph v))) (λ e=>(do zdr e env;zlb e:Sem Unit).bind λ z=> .raise e) id id) fs s3) (λ z z=>False) s2) (λ z z=>False) s1) (λ z z=>False) s):
 Seg (D1 pw w) A R Y n s₀ (.forLoop target it body [] env) ((D1 pw w).den (.forLoop target it body [] env)) fs s:=by
 show Seg _ A R Y n s₀ _ ((forTurn target it body [] env).onRaise (λ x=>do zdr x env;zlb x)) fs s
 unfold forTurn;rw[Sem.onRaise_eq_wrap];refine zd4 (K7 ?_);refine zd4 (wpAny_onRaise (E7 h (λ r s1 h1=>?_) λ z z x=>x.elim))
 cases r with
 |none=>
  refine seg_again (c':= .block [] env) rfl ?_;exact h1 _
 |some v=>
  refine zd4 (E7 h1 (λ z s2 h2=>?_) λ z z x=>x);refine zd4 (E7 h2 (λ z s3 h3=>?_) λ z z x=>x);rw[Sem.bind_eq_wrap',Sem.wrap_wrap];exact Eq.mpr (congrArg (λ t=>Seg (D1 pw w) A R Y n s₀ (.forLoop target it body [] env) t fs s3) (Sem.wrap_congr (X5 body env) id id (λ f=>by cases f<;>rfl) (λ e=>rfl))) h3
end
noncomputable def zhp (L:Addr):Env:=newEnv fdIec.scope L fdIec.globals fdIec.closure (fdIec.qualname++ ".<locals>.") (some 45) fdIec.code none fdIec.builtins
theorem zwp (L:Addr):(zhp L).kindOf "addr"=some .local:=by show fdIec.scope.names.lookup _=_;decide+kernel
theorem zqd (L:Addr):(zhp L).kindOf "pos"=some .local:=by show fdIec.scope.names.lookup _=_;decide+kernel
theorem ztd (L:Addr):(zhp L).kindOf "escape"=some .local:=by show fdIec.scope.names.lookup _=_;decide+kernel
theorem zwo (L:Addr):(zhp L).kindOf "ch"=some .local:=by show fdIec.scope.names.lookup _=_;decide+kernel
theorem yc1 (L:Addr):(zhp L).kindOf "enumerate"=some .globalImplicit:=by show fdIec.scope.names.lookup _=_;decide+kernel
theorem zqe (L:Addr):(zhp L).scope.kind= .function:=by show fdIec.scope.kind=_;decide+kernel
theorem yc3 (L:Addr):(zhp L).locals=L:=rfl
noncomputable def zej:Nat->Bool->List Nat->List (Int×Str)
 |i,b,[]=>if b then[((i:Int)-1,⟨#[92]⟩)] else[]
 |i,true,c::r=>((i:Int),⟨#[92,c]⟩)::zej (i+1) false r
 |i,false,c::r=>if c=92 then zej (i+1) true r else((i:Int),⟨#[c]⟩)::zej (i+1) false r
theorem yfm (i c:Nat)(r:List Nat):zej i true (c::r)=((i:Int),⟨#[92,c]⟩)::zej (i+1) false r:=rfl
theorem zk2 (i c:Nat)(r:List Nat):zej i false (c::r)=if c=92 then zej (i+1) true r else((i:Int),⟨#[c]⟩)::zej (i+1) false r:=rfl
structure Gk (L bz:Nat)(s₀ s:A8):Prop where
 eq: ∃h' tk,s={s₀ with heap:=h',toks:=tk}
 keep: ∀a o,a≠L->(a<bz\/ ¬Loose o)->s₀.heap.get? a=some o->s.heap.get? a=some o
 size:s₀.heap.objs.size<=s.heap.objs.size
theorem Gk.refl (L bz:Nat)(s:A8):Gk L bz s s:=⟨⟨_,_,rfl⟩,λ z z z z e=>e,D2 _⟩
theorem Gk.step {L bz:Nat}{s₀ s:A8}(x:Gk L bz s₀ s){h':P9}{tk:Nat}(hk: ∀a o,a≠L->(a<bz\/ ¬Loose o)->s.heap.get? a=some o->h'.get? a=some o)(hz:s.heap.objs.size<=h'.objs.size):
 Gk L bz s₀ {s with heap:=h',toks:=tk}:=by
 obtain⟨⟨h1,t1,rfl⟩,k1,z1⟩:=x;exact⟨⟨_,_,rfl⟩,λ a o h1 h2 e=>hk a o h1 h2 (k1 a o h1 h2 e),A7 z1 hz⟩
theorem Gk.same {L bz:Nat}{s₀ s:A8}(x:Gk L bz s₀ s){h':P9}{tk:Nat}(hs:P2 L s.heap h'):Gk L bz s₀ {s with heap:=h',toks:=tk}:=
 x.step (λ a o h1 z e=>(hs.2 a h1).trans e) (Q0 hs.1.symm)
structure LI (L e it:Addr)(T:String)(x:Str)(t:Tok)(i:Nat)(b:Bool)(pv:Int)(h:P9):Prop where
 ns: ∃m tp,h.Ns L m/\m "escape"=some (.bool b)/\m "pos"=some (.int pv tp)
 en: ∃old,IsEnum h e it i old
 si:h.IsStrIter it T x t i
theorem LI.at {L e it:Addr}{T:String}{x:Str}{t:Tok}{i:Nat}{b:Bool}{pv:Int}{h h':P9}(q:LI L e it T x t i b pv h)(k: ∀a o,(a=L\/a=e\/a=it)->h.get? a=some o->h'.get? a=some o):LI L e it T x t i b pv h':=
 ⟨q.ns.imp λ m h=>h.imp λ tp h=>⟨h.1.imp λ o h=>h.imp λ es h=>h.imp λ ep h=>⟨k _ _ (.inl rfl) h.1,h.2⟩,h.2⟩,q.en.imp λ old h=>k _ _ (.inr (.inl rfl)) h,q.si.imp λ o h=>⟨k _ _ (.inr (.inr rfl)) h.1,h.2⟩⟩
noncomputable def Gv1 (s₀ s:A8)(d:Int×Str)(v:Value):Prop:= ∃T tp ty,v= .ref T/\s.heap.get? T=some (R4 [.int d.1 tp,.str d.2 ty] 0)/\s₀.heap.objs.size<=T
noncomputable def Gob (L bz:Nat)(ob:Obs)(s:A8):Prop:=(∀p∈ob,s.heap.get? p.1=some p.2/\bz<=p.1/\NoF p.2/\(∀v,p.2.data≠ .cell v)/\ ¬Sq p.2)/\L∈ob.map (·.1)
noncomputable def Yg (L bz:Nat)(items:List (Int×Str)):Protocol:=λ m s₀ v s₁ kap=>
 (∃d,items[items.length-1-m]? =some d/\Gv1 s₀ s₁ d v)/\Gk L bz s₀ s₁/\ ∃ob:Obs,Gob L bz ob s₁/\ ∀s'':A8,(∀p∈ob,s''.heap.get? p.1=some p.2)->kap (.send .none) s''
noncomputable def Rg (L bz:Nat):GenEnd:=λ n s₀ r s₁=>r= .ok (.ret .none)/\(n=0/\Gk L bz s₀ s₁)
section
variable{w:E3}{A:H2}{n:Nat}{s₀:A8}{fs:List Frame}{s:A8}{c:Code}{L bz:Nat}{items:List (Int×Str)}
variable{K:Flow->Sem Fin}{H:Value->Sem Fin}{lv:List Value->List Value}
theorem zol {e:Expr}{yp pos:Pos}{rest:List Stmt}{d:Int×Str}(hd:items[items.length-1-n]? =some d)(hfs:splitAtGen fs=none)(hfg:fs.any Frame.guarded=false)
 (h:D0 (D1 pw w) (A.over c fs) (M3 e (zhp L)) (λ v s'=>Gv1 s₀ s' d v/\Gk L bz s₀ s'/\ ∃ob:Obs,Gob L bz ob s'/\
   ∀s'':A8,(∀p∈ob,s''.heap.get? p.1=some p.2)->Seg (D1 pw w) A (Rg L bz) (Yg L bz items) n s'' c ((X5 rest (zhp L)).wrap K H id lv) fs s'') (λ z z=>False) s):
 Seg (D1 pw w) A (Rg L bz) (Yg L bz items) (n+1) s₀ c ((X5 (.Expr (.Yield (some e) yp) pos::rest) (zhp L)).wrap K H id lv) fs s:=by
 refine zmu (seg_Expr_Yield hfs rfl hfg (E7 h (λ v s' h'=>?_) λ z z x=>x.elim) (by show fdIec.scope.isCoroutine=false;decide+kernel) (by unfold zc4;rw[zqe];rfl))
 intro kap hkap;obtain⟨h1,h2,ob,h3,h4⟩:=h';exact⟨⟨d,hd,h1⟩,h2,ob,h3,λ s'' hs=>hkap .none s'' (h4 s'' hs)⟩
theorem zzv {A:H2}{x:Str}{p:Pos}{v:Value}{m:Str->Option Value}{Q E:Value->A8->Prop}(hk:(zhp L).kindOf x=some .local)(hn:s.heap.Ns L m)(hm:m x=some v)(q:Q v s)(hd:(x==("__debug__":Str))=false:=by decide):
 D0 (D1 pw w) A (M3 (.Name x p) (zhp L)) Q E s:=T7 (zyi (zqe L) hk hn hm q) hd
theorem yc6 {A:H2}{e1 e2:Expr}{k:Nat}{p:Pos}{a:Int}{y:Str}{Q E:Value->A8->Prop}
 (h:D0 (D1 pw w) A (M3 e1 (zhp L)) (λ v1 s1=> ∃t1,v1= .int a t1/\D0 (D1 pw w) A (M3 e2 (zhp L)) (λ v2 s2=> ∃t2,v2= .str y t2/\
   Q (.ref s2.heap.objs.size) {s2 with heap:=s2.heap.push (R4 [.int a t1,.str y t2] 0)}) E s1) E s)
 (hs:J7 [e1,e2] (zhp L)=[(false,M3 e1 (zhp L)),(false,M3 e2 (zhp L))]:=by rfl):D0 (D1 pw w) A (M3 (.Tuple [e1,e2] k p) (zhp L)) Q E s:=by
 refine zt8 ?_;rw[hs];show D0 _ _ (zcn [(false,_),(false,_)]) _ _ _;refine K6 (E7 h (λ v1 s1 h1=>?_) λ z z x=>x);obtain⟨t1,rfl,h1⟩:=h1;refine K6 (E7 h1 (λ v2 s2 h2=>?_) λ z z x=>x);obtain⟨t2,rfl,h2⟩:=h2;exact S9 ⟨by show 2<=H5;decide,h2⟩
end
theorem Gk.turn {L e it bz:Nat}{T:String}{x:Str}{t:Tok}{i:Nat}{b:Bool}{pv:Int}{s₀ s:A8}(g:Gk L bz s₀ s)(q:LI L e it T x t i b pv s.heap)(hT:T= "str_iterator"\/T= "str_ascii_iterator")(hbe:bz<=e)(hbi:bz<=it){h':P9}{tk:Nat}
 (hk: ∀a o,a≠L->a≠e->a≠it->s.heap.get? a=some o->h'.get? a=some o)(hz:s.heap.objs.size<=h'.objs.size):Gk L bz s₀ {s with heap:=h',toks:=tk}:=by
 refine g.step (λ a o h1 h2 ea=>hk a o h1 (λ qe=>?_) (λ qi=>?_) ea) hz
 ·subst qe
  obtain⟨old,he⟩:=q.en;have he':=ea.symm.trans he;cases he';rcases h2 with h2|h2
  ·omega
  ·exact h2 ⟨⟨_,rfl⟩,.inl rfl⟩
 ·subst qi
  obtain⟨oi,hi,hc,hd⟩:=q.si;rw[ea] at hi;cases hi;rcases h2 with h2|h2
  ·omega
  ·exact h2 ⟨⟨_,hd⟩,by rcases hT with h|h<;>rw[hc,h]<;>simp⟩
section
variable(a1 a2 a3 a4 a5 a6 a7 a8 a9 a10 a11 a12 a13 a14 a15 a16 a17 a18 a19 a20 a21 a22 a23 a24 b1 b2 b3 b4 b5 b6 b7 b8 b9:Pos)
noncomputable abbrev yc8:List Stmt:=[.If (.Name "escape" a1) [.Expr (.Yield (some (.Tuple [.Name "pos" a2,.BinOp (.Constant (.str "\\") 0 a3) .Add (.Name "ch" a4) a5] 0 a6)) a7) a8,.Assign [.Name "escape" a9] (.Constant (.bool false) 0 a10) a11]
 [.If (.Compare (.Name "ch" a12) [.Eq] [.Constant (.str "\\") 0 a13] a14) [.Assign [.Name "escape" a15] (.Constant (.bool true) 0 a16) a17] [.Expr (.Yield (some (.Tuple [.Name "pos" a18,.Name "ch" a19] 0 a20)) a21) a22] a23] a24]
noncomputable abbrev yey:Expr:= .Tuple [.Name "pos" b1,.Name "ch" b2] 0 b3
noncomputable abbrev yez:List Stmt:=[.If (.Name "escape" b4) [.Expr (.Yield (some (.Tuple [.Name "pos" b5,.Constant (.str "\\") 0 b6] 0 b7)) b8) b9] [] a24]
end
noncomputable abbrev gK:Flow->Sem Fin:=λ f=>ybs (Fin.done (zph (match f with|zph v=>v|_=>M7)))
section
variable{w:E3}{A:H2}{L e it bz:Nat}{items:List (Int×Str)}{T:String}{x:Str}{t:Tok}
variable{a1 a2 a3 a4 a5 a6 a7 a8 a9 a10 a11 a12 a13 a14 a15 a16 a17 a18 a19 a20 a21 a22 a23 a24 b1 b2 b3 b4 b5 b6 b7 b8 b9:Pos}
theorem LI.ob {i:Nat}{b:Bool}{pv:Int}{s:A8}(q:LI L e it T x t i b pv s.heap)(hT:T= "str_iterator"\/T= "str_ascii_iterator")(hbL:bz<=L)(hbe:bz<=e)(hbi:bz<=it):
 ∃ob:Obs,Gob L bz ob s/\ob.map (·.1)=[L,e,it]:=by
 obtain⟨m,tp,⟨oL,es,ep,hL,hLd,_⟩,_⟩:=q.ns;obtain⟨old,he⟩:=q.en;obtain⟨oi,hi,hc,hd⟩:=q.si;refine⟨[(L,oL),(e,{cls:= .type "enumerate",dict:=none,data:= .fields #[.none,.bool false,.ref it,I6 i,.none,old],slots:= #[]}),(it,oi)],⟨λ p hp=>?_,A9⟩,rfl⟩;simp only[B9,D6,or_false] at hp;rcases hp with rfl|rfl|rfl
 ·exact⟨hL,hbL,.inl λ vs q=>(by rw[hLd] at q;cases q),λ v q=>(by rw[hLd] at q;cases q),λ q=>by obtain⟨_,_,q⟩:=q;rw[hLd] at q;cases q⟩
 ·exact⟨he,hbe,.inr ⟨by simp,by simp⟩,λ v q=>(by cases q),λ q=>by obtain⟨_,_,q⟩:=q;cases q⟩
 ·exact⟨hi,hbi,.inr (by rw[hc];rcases hT with h|h<;>(rw[h];exact⟨by simp,by simp⟩)),λ v q=>(by rw[hd] at q;cases q),λ q=>by obtain⟨_,_,q⟩:=q;rw[hd] at q;cases q⟩
theorem LI.resumed {i:Nat}{b:Bool}{pv:Int}{s s'':A8}{ob:Obs}(q:LI L e it T x t i b pv s.heap)(ho:Gob L bz ob s)(hm:ob.map (·.1)=[L,e,it])(hs: ∀p∈ob,s''.heap.get? p.1=some p.2):LI L e it T x t i b pv s''.heap:=
 q.at λ a o ha ea=>by
  have:a∈ob.map (·.1):=by rw[hm];simpa using ha
  obtain⟨p,hp,rfl⟩:=C5.mp this;rw[(ho.1 p hp).1] at ea;cases ea;exact hs p hp
theorem yhx {i:Nat}{ch:Nat}{r:List Nat}(h:x.cps.toList.drop i=ch::r):x.cps[i]? =some ch/\i<x.cps.size/\x.cps.toList.drop (i+1)=r:=by
 have h1:x.cps.toList[i]? =some ch:=by
  have:=congrArg (λ l=>l[0]?) h;simpa using this
 refine⟨by simpa using h1,by have:=(C7.mp h1).1;simpa using this,?_⟩
 have:=congrArg (λ l=>l.drop 1) h;simpa [zag,Q9] using this
theorem yew {A':H2}{i:Nat}{b:Bool}{pv:Int}{ch:Nat}{s:A8}{Q:Unit->A8->Prop}(hh:A'.handled=none)(hT:T= "str_iterator"\/T= "str_ascii_iterator")
 (hD: ∀A'':H2,A''.handled=none->Draws pw w A'' it [it] x.cps.size (λ i v=> ∃c u,x.cps[i]? =some c/\v= .str ⟨#[c]⟩ u) (λ i h=>h.IsStrIter it T x t i))
 (hLe:L≠e)(hLi:L≠it)(hei:e≠it)(q:LI L e it T x t i b pv s.heap)(hc:x.cps[i]? =some ch)(hlt:i<x.cps.size)
 (k: ∀m tk u h' tk',h'.Ns L m->m "escape"=some (.bool b)->m "pos"=some (.int i tk)->m "ch"=some (.str ⟨#[ch]⟩ u)->LI L e it T x t (i+1) b i h'->
   (∀a o,a≠L->a≠e->a≠it->s.heap.get? a=some o->h'.get? a=some o)->s.heap.objs.size<=h'.objs.size->Q () {s with heap:=h',toks:=tk'}):
 D0 (D1 pw w) A' (zbh (.ref e)) (λ r s1=> ∃v,r=some v/\D0 (D1 pw w) A' (U3 (yey b1 b2 b3) (.ref e) v) (λ z s2=>D0 (D1 pw w) A' (M9 (yey b1 b2 b3) (zhp L) v) Q (λ z z=>False) s2) (λ z z=>False) s1) (λ z z=>False) s:=by
 obtain⟨m,tp,hn,hme,hmp⟩:=q.ns;obtain⟨old,he⟩:=q.en;have heS:e<s.heap.objs.size:=C6 he;have hLS:L<s.heap.objs.size:=hn.lt;have hiS:it<s.heap.objs.size:=by obtain⟨oi,hi,_⟩:=q.si;exact C6 hi
 refine wpAny_pyNext_enum_itemD (hD _ hh) he q.si hlt hei (by simpa using hei) λ v h1 tk hP heo hst ht hz hk=>⟨_,rfl,?_⟩
 obtain⟨c',u,hc',rfl⟩:=hP;rw[hc] at hc';cases hc';refine wpAny_letOwnedTupleGo_enum heo λ h2 he2 hs2=>?_
 replace hs2:P2 e h1 h2:=hs2
 have ht2:h2.IsTuple s.heap.objs.size #[.int i tk,.str ⟨#[ch]⟩ u]:=⟨_,(hs2.2 _ (za1 heS)).trans ht,rfl,_,rfl⟩;have z2:h2.objs.size=s.heap.objs.size+1:=hs2.1.trans hz;refine Q4 (wpAny_assign_Tuple hh ht2 rfl rfl λ h3 hx3=>?_);show D0 (D1 pw w) A' (zcd [M9 (.Name "pos" b1) (zhp L),M9 (.Name "ch" b2) (zhp L)] [.int i tk,.str ⟨#[ch]⟩ u]) _ _ _;have up3: ∀a o,a≠e->a≠it->s.heap.get? a=some o->h3.get? a=some o:=λ a o x1 x2 ea=>
  hx3 a o (by show a≠h2.objs.size;rw[z2];exact za0 (zg9 (C6 ea))) ((hs2.2 a x1).trans (hk a o x1 x2 ea))
 have n3:h3.Ns L m:=hn.at' λ o eo=>up3 L o hLe hLi eo;refine zcy (zig (Z6 (zqd L) n3 (λ h4 hn4 hs4=>?_) (by rw[zqe];rfl)))
 refine zig (Z6 (zwo L) hn4 (λ h5 hn5 hs5=>?_) (by rw[zqe];rfl))
 replace hs4:P2 L h3 h4:=hs4
 replace hs5:P2 L h4 h5:=hs5
 replace hn5:h5.Ns L _:=hn5
 intro hz5;have hz5':h2.objs.size<=h5.objs.size:=hz5;have up5: ∀a o,a≠L->h3.get? a=some o->h5.get? a=some o:=λ a o x1 ea=>(hs5.2 a x1).trans ((hs4.2 a x1).trans ea);have se:s.heap.objs.size≠e:=za1 heS;have eE:IsEnum h5 e it ((i:Int)+1) (.str ⟨#[ch]⟩ u):=up5 e _ hLe.symm (hx3 e _ (by show e≠h2.objs.size;omega) he2)
 refine k _ tk u h5 _ hn5 ?_ ?_ ?_ ⟨⟨_,tk,hn5,?_,?_⟩,⟨_,eE⟩,?_⟩ (λ a o x1 x2 x3 ea=>up5 a o x1 (up3 a o x2 x3 ea)) (by omega)
 ·simp[hme,show G9 "escape"≠G9 "ch" by decide,show G9 "escape"≠G9 "pos" by decide]
 ·simp[show G9 "pos"≠G9 "ch" by decide]
 ·simp
 ·simp[hme,show G9 "escape"≠G9 "ch" by decide,show G9 "escape"≠G9 "pos" by decide]
 ·simp[show G9 "pos"≠G9 "ch" by decide]
 ·obtain⟨oi,hi,r⟩:=hst
  exact⟨oi,up5 it oi hLi.symm (hx3 it oi (by show it≠h2.objs.size;omega) ((hs2.2 it hei.symm).trans hi)),r⟩
end
section
variable{w:E3}{A:H2}{L e it bz:Nat}{items:List (Int×Str)}{T:String}{x:Str}{t:Tok}
variable{a1 a2 a3 a4 a5 a6 a7 a8 a9 a10 a11 a12 a13 a14 a15 a16 a17 a18 a19 a20 a21 a22 a23 a24 b1 b2 b3 b4 b5 b6 b7 b8 b9 b10:Pos}
theorem ztg {A:H2}{s:A8}{y:Str}{k:Nat}{p:Pos}{env:Env}{Q E:Value->A8->Prop}(h:Q (.str y s.toks) {s with toks:=s.toks+1}):D0 (D1 pw w) A (M3 (.Constant (.str y) k p) env) Q E s:=λ z z z=>h
theorem zws {A:H2}{s:A8}{y:Bool}{k:Nat}{p:Pos}{env:Env}{Q E:Value->A8->Prop}(h:Q (.bool y) s):D0 (D1 pw w) A (M3 (.Constant (.bool y) k p) env) Q E s:=λ z z z=>h
theorem yex {A:H2}{s:A8}{y:Int}{k:Nat}{p:Pos}{env:Env}{Q E:Value->A8->Prop}(h:Q (.int y s.toks) {s with toks:=s.toks+1}):D0 (D1 pw w) A (M3 (.Constant (.int y) k p) env) Q E s:=λ z z z=>h
theorem zl8 {A:H2}{s:A8}{y:Str}{p:Pos}{b:Bool}{m:Str->Option Value}{Q:Bool->A8->Prop}{E:Value->A8->Prop}(hk:(zhp L).kindOf y=some .local)(hn:s.heap.Ns L m)(hm:m y=some (.bool b))(q:Q b s)(hd:(y==("__debug__":Str))=false:=by decide):
 D0 (D1 pw w) A (isTrue (.Name y p) (zhp L) (M3 (.Name y p) (zhp L))) Q E s:=
 zfw (zzv hk hn hm (X9 q) hd) rfl
theorem zvr {d:Int×Str}{r:List (Int×Str)}(h: ∃pre,items=pre++d::r):items[items.length-1-r.length]? =some d/\ ∃pre,items=pre++r:=by
 obtain⟨pre,rfl⟩:=h;refine⟨?_,pre++[d],by simp⟩
 rw[M0 (by simp)]
 have:(pre++d::r).length-1-r.length-pre.length=0:=by simp
 rw[this];rfl
theorem ztf {A:H2}{s:A8}{i:Nat}{b b':Bool}{pv:Int}{k:Nat}{p1 p2 p3:Pos}{Q:Flow->A8->Prop}(q:LI L e it T x t i b pv s.heap)(hLe:L≠e)(hLi:L≠it)
 (h: ∀h' tk,LI L e it T x t i b' pv h'->P2 L s.heap h'->Q .next {s with heap:=h',toks:=tk}):
 D0 (D1 pw w) A (exec (.Assign [.Name "escape" p1] (.Constant (.bool b') k p2) p3) (zhp L)) Q (λ z z=>False) s:=by
 obtain⟨m,tp,hn,hme,hmp⟩:=q.ns;refine V3 (zws (Z6 (ztd L) hn (λ h' hn' hs'=>?_) (by rw[zqe];rfl))) rfl
 replace hs':P2 L s.heap h':=hs'
 refine h h' _ ⟨⟨_,tp,hn',by simp,by simp[hmp,show G9 "pos"≠G9 "escape" by decide]⟩,?_,?_⟩ hs'
 ·obtain⟨old,he⟩:=q.en;exact⟨old,(hs'.2 e hLe.symm).trans he⟩
 ·obtain⟨oi,hi,r⟩:=q.si;exact⟨oi,(hs'.2 it hLi.symm).trans hi,r⟩
theorem zzt (hh:A.handled=none)(hT:T= "str_iterator"\/T= "str_ascii_iterator")
 (hD: ∀A'':H2,A''.handled=none->Draws pw w A'' it [it] x.cps.size (λ i v=> ∃c u,x.cps[i]? =some c/\v= .str ⟨#[c]⟩ u) (λ i h=>h.IsStrIter it T x t i))
 (hLe:L≠e)(hLi:L≠it)(hei:e≠it)(hbL:bz<=L)(hbe:bz<=e)(hbi:bz<=it){kf:zuy->Sem Fin}{c0:Code}{p0:Pos}{H0:Value->Sem Fin}
 (hkf:kf (.ok .next)=(X5 (yez b10 b4 b5 b6 b7 b8 b9) (zhp L)).wrap gK H0 id id):
 ∀(cs:List Nat) (i:Nat) (b:Bool) (pv:Int) (s₀ s:A8),x.cps.toList.drop i=cs->i<=x.cps.size->(∃pre,items=pre++zej i b cs)->(b=true->pv=(i:Int)-1)->LI L e it T x t i b pv s.heap->Gk L bz s₀ s->
  Seg (D1 pw w) A (Rg L bz) (Yg L bz items) (zej i b cs).length s₀ (.forLoop (yey b1 b2 b3) (.ref e) (yc8 a1 a2 a3 a4 a5 a6 a7 a8 a9 a10 a11 a12 a13 a14 a15 a16 a17 a18 a19 a20 a21 a22 a23 a24) [] (zhp L))
   ((D1 pw w).den (.forLoop (yey b1 b2 b3) (.ref e) (yc8 a1 a2 a3 a4 a5 a6 a7 a8 a9 a10 a11 a12 a13 a14 a15 a16 a17 a18 a19 a20 a21 a22 a23 a24) [] (zhp L))) [.ret kf none false [] c0 p0 []] s:=by
 intro cs
 induction cs with
 |nil=>
  intro i b pv s₀ s hdr hi hsf hpv q g;have hie:i=x.cps.size:=by
   have:=congrArg zfb hdr;simp only[zeh,zfa,V9] at this;omega
  subst hie;obtain⟨m,tp,hn,hme,hmp⟩:=q.ns;obtain⟨old,he⟩:=q.en;refine znq (Q4 (wpAny_pyNext_enum_endD (hD _ hh) he q.si λ h' hx hz=>?_));intro c';refine seg_leaf (.ok .next) ?_;rw[hkf];have n':h'.Ns L m:=hn.extBut hx hLi;have g':Gk L bz s₀ {s with heap:=h'}:=g.turn q hT hbe hbi (tk:=s.toks) (λ a o z z h3 ea=>hx a o h3 ea) hz;refine zy2 (zl8 (ztd L) n' hme ?_)
  cases b with
  |false=>exact X4 (X4 (seg_end (.ok (.ret .none)) ⟨rfl,rfl,g'⟩))
  |true=>
   obtain⟨hd,_⟩:=zvr (d:=((x.cps.size:Int)-1,(⟨#[92]⟩:Str))) (r:=[]) hsf;refine zol (n:=0) hd rfl rfl ?_;refine yc6 (zzv (zqd L) n' hmp ⟨tp,by rw[hpv rfl],ztg ⟨_,rfl,?_⟩⟩)
   obtain⟨oL,es,ep,hL,hLd,hLr⟩:=id n';refine⟨⟨_,tp,s.toks,rfl,D8 _ rfl,A7 g'.size (D2 _)⟩,?_,[(L,oL)],⟨λ p hp=>?_,A9⟩,λ s'' hs''=>?_⟩
   ·exact g'.step (tk:=s.toks+1) (λ a o z z ea=>C3 _ ea) (by rw[G8];exact L6 _)
   ·rw[B2] at hp;subst hp
    exact⟨C3 _ hL,hbL,.inl λ vs q=>(by rw[hLd] at q;cases q),λ v q=>(by rw[hLd] at q;cases q),λ q=>by obtain⟨_,_,q⟩:=q;rw[hLd] at q;cases q⟩
   ·exact X4 (X4 (seg_end (.ok (.ret .none)) ⟨rfl,rfl,Gk.refl ..⟩))
 |cons ch r ih=>
  intro i b pv s₀ s hdr hi hsf hpv q g;obtain⟨hc,hlt,hdr'⟩:=yhx hdr;refine znq (E7 (yew (Q:=λ z s3=>_) hh hT hD hLe hLi hei q hc hlt ?_) (λ r s1 h1=>by obtain⟨v,rfl,h1⟩:=h1;exact h1) λ z z x=>x)
  intro m tk u h' tk' hn hme hmp hmc q' hk hz;have g':Gk L bz s₀ {s with heap:=h',toks:=tk'}:=g.turn q hT hbe hbi hk hz;refine zy2 (zl8 (ztd L) hn hme ?_)
  cases b with
  |true=>
   obtain⟨hd,hsf'⟩:=zvr (d:=((i:Int),(⟨#[92,ch]⟩:Str))) (r:=zej (i+1) false r) hsf;refine zol (n:=(zej (i+1) false r).length) hd rfl rfl ?_;refine yc6 (zzv (zqd L) hn hmp ⟨tk,rfl,zpj (ztg (zzv (zwo L) hn hmc (zpc (λ t' tk2=>⟨t',rfl,?_⟩) (by show 1+1<=H5;decide))))⟩)
   have q2:LI L e it T x t (i+1) true i (h'.push (R4 [.int (i:Int) tk,.str ⟨#[92,ch]⟩ t'] 0)):=q'.at λ a o z ea=>C3 _ ea;obtain⟨ob,hob,hom⟩:=LI.ob (s:={s with heap:=h'.push (R4 [.int (i:Int) tk,.str ⟨#[92,ch]⟩ t'] 0),toks:=tk2}) (bz:=bz) q2 hT hbL hbe hbi;refine⟨⟨_,tk,t',rfl,D8 _ rfl,g'.size⟩,?_,ob,hob,λ s'' hs''=>?_⟩
   ·exact g'.step (tk:=tk2) (λ a o z z ea=>C3 _ ea) (by rw[G8];exact L6 _)
   ·have q3:=LI.resumed (s'':=s'') q2 hob hom hs''
    refine zom (ztf q3 hLe hLi λ h4 tk4 q4 hs4=>⟨rfl,?_⟩);refine X4 (X4 (seg_again rfl ?_));exact ih (i+1) false i s'' _ hdr' hlt hsf' (λ h=>by cases h) q4 ((Gk.refl L bz s'').same hs4)
  |false=>
   by_cases h92:ch=92
   ·have el:zej i false (ch::r)=zej (i+1) true r:=if_pos h92
    rw[el] at hsf ⊢;refine zy2 (Z7 (zzv (zwo L) hn hmc (ztg (zhm (X9 ?_)))) rfl);rw[show((⟨#[ch]⟩:Str)==G9 "\\")=true by rw[h92];decide]
    refine zom (ztf (b':=true) (s:={s with heap:=h',toks:=tk'+1}) q' hLe hLi λ h4 tk4 q4 hs4=>⟨rfl,?_⟩);refine X4 (X4 (X4 (seg_again rfl ?_)));exact ih (i+1) true i s₀ _ hdr' hlt hsf (λ z=>by push_cast;omega) q4 (g'.same hs4)
   ·have el:zej i false (ch::r)=((i:Int),⟨#[ch]⟩)::zej (i+1) false r:=if_neg h92
    rw[el] at hsf ⊢;refine zy2 (Z7 (zzv (zwo L) hn hmc (ztg (zhm (X9 ?_)))) rfl);rw[show((⟨#[ch]⟩:Str)==G9 "\\")=false by
     rw[beq_eq_false_iff_ne];intro q;have:=congrArg Str.cps q;simp at this;exact h92 (by have h2:=congrArg (λ a=>a[0]?) this;exact Q8 h2)]
    obtain⟨hd,hsf'⟩:=zvr (d:=((i:Int),(⟨#[ch]⟩:Str))) (r:=zej (i+1) false r) hsf;refine zol (n:=(zej (i+1) false r).length) hd rfl rfl ?_;refine yc6 (zzv (zqd L) hn hmp ⟨tk,rfl,zzv (zwo L) hn hmc ⟨u,rfl,?_⟩⟩);have q2:LI L e it T x t (i+1) false i (h'.push (R4 [.int (i:Int) tk,.str ⟨#[ch]⟩ u] 0)):=q'.at λ a o z ea=>C3 _ ea;obtain⟨ob,hob,hom⟩:=LI.ob (s:={s with heap:=h'.push (R4 [.int (i:Int) tk,.str ⟨#[ch]⟩ u] 0),toks:=tk'+1}) (bz:=bz) q2 hT hbL hbe hbi;refine⟨⟨_,tk,u,rfl,D8 _ rfl,g'.size⟩,?_,ob,hob,λ s'' hs''=>?_⟩
    ·exact g'.step (tk:=tk'+1) (λ a o z z ea=>C3 _ ea) (by rw[G8];exact L6 _)
    ·have q3:=LI.resumed (s'':=s'') q2 hob hom hs''
     refine X4 (X4 (X4 (seg_again rfl ?_)));exact ih (i+1) false i s'' _ hdr' hlt hsf' (λ h=>by cases h) q3 (Gk.refl L bz s'')
end
noncomputable def zuk:List Stmt:=match fdIec.body with| .stmts b=>b|_=>[]
theorem zsb: ∃a1 a2 a3 a4 a5 a6 a7 a8 a9 a10 a11 a12 a13 a14 a15 a16 a17 a18 a19 a20 a21 a22 a23 a24 b1 b2 b3 b4 b5 b6 b7 b8 b9 b10 c1 c2 c3 c4 c5 c6 c7 c8 c9 c10:Pos,
 zuk= .Assign [.Name "pos" c1] (.Constant (.int 0) 0 c2) c3:: .Assign [.Name "escape" c4] (.Constant (.bool false) 0 c5) c6::
  .For (yey b1 b2 b3) (.Call (.Name "enumerate" c7) [.Name "addr" c8] [] c9) (yc8 a1 a2 a3 a4 a5 a6 a7 a8 a9 a10 a11 a12 a13 a14 a15 a16 a17 a18 a19 a20 a21 a22 a23 a24) [] c10::yez b10 b4 b5 b6 b7 b8 b9:=
 ⟨_,_,_,_,_,_,_,_,_,_,_,_,_,_,_,_,_,_,_,_,_,_,_,_,_,_,_,_,_,_,_,_,_,_,_,_,_,_,_,_,_,_,_,_,rfl⟩
section
variable{w:E3}{A:H2}{L bz:Nat}{x:Str}{t:Tok}
theorem yc7 (x:Str)(t:Tok)(it:Addr):(zna x= "str_iterator"\/zna x= "str_ascii_iterator")/\ ∀A'':H2,A''.handled=none->
 Draws pw w A'' it [it] x.cps.size (λ i v=> ∃c u,x.cps[i]? =some c/\v= .str ⟨#[c]⟩ u) (λ i h=>h.IsStrIter it (zna x) x t i):=by
 unfold zna;split
 ·exact⟨.inr rfl,λ A'' hh=>Draws.strAscii hh it x t⟩
 ·exact⟨.inl rfl,λ A'' hh=>Draws.strWide hh it x t⟩
theorem zzu (hh:A.handled=none)(hbL:bz<=L)(hL3:311<=L){s:A8}{m:Str->Option Value}(hn:s.heap.Ns L m)(hma:m "addr"=some (.str x t))(gnd:Gnd0 G0 s.heap)(hbz:bz<=s.heap.objs.size):
 Seg (D1 pw w) A (Rg L bz) (Yg L bz (zej 0 false x.cps.toList)) (zej 0 false x.cps.toList).length s (.func zuk (zhp L)) ((D1 pw w).den (.func zuk (zhp L))) [] s:=by
 obtain⟨a1,a2,a3,a4,a5,a6,a7,a8,a9,a10,a11,a12,a13,a14,a15,a16,a17,a18,a19,a20,a21,a22,a23,a24,b1,b2,b3,b4,b5,b6,b7,b8,b9,b10,c1,c2,c3,c4,c5,c6,c7,c8,c9,c10,hb⟩:=zsb;refine seg_func ?_;rw[hb];have hh': ∀c fs,(A.over c fs).handled=(A.over c fs).handled:=λ z z=>rfl;refine zom (V3 (yex (Z6 (zqd L) hn (λ h1 hn1 hs1=>⟨rfl,?_⟩) (by rw[zqe];rfl))) rfl)
 replace hs1:P2 L s.heap h1:=hs1
 replace hn1:h1.Ns L _:=hn1
 refine zom (V3 (zws (Z6 (ztd L) hn1 (λ h2 hn2 hs2=>⟨rfl,?_⟩) (by rw[zqe];rfl))) rfl)
 replace hs2:P2 L h1 h2:=hs2
 replace hn2:h2.Ns L _:=hn2
 have hs02:P2 L s.heap h2:=⟨hs2.1.trans hs1.1,λ b hb=>(hs2.2 b hb).trans (hs1.2 b hb)⟩;have g2:Gk L bz s {s with heap:=h2,toks:=s.toks+1+1+1}:=(Gk.refl L bz s).same hs02;obtain⟨mg,q1,_,q3⟩:=gnd.mg;obtain⟨mb,q4,q5⟩:=gnd.mb;have q1':h2.Ns 3 mg:=q1.sameBut hs02 (show(3:Nat)≠L by omega)
 have q4':h2.Ns 0 mb:=q4.sameBut hs02 (show(0:Nat)≠L by omega)
 refine yeb ?_ (λ z=>rfl);refine L0 (zks (zqe L) (yc1 L) (loadGlobal_builtin (mg:=mg) (mb:=mb) q1' (q3 "enumerate" (A6 (i:=4) rfl)) q4' (q5 ("enumerate",.type "enumerate") (A6 (i:=4) rfl)) ?_) (by decide))
 refine O7 rfl (N2 rfl ?_);show D0 _ _ (zcn [(false,M3 (.Name "addr" c8) (zhp L))]) _ _ _;refine K6 (zzv (zwp L) hn2 (v:= .str x t) (by simp[hma,show G9 "addr"≠G9 "escape" by decide,show G9 "addr"≠G9 "pos" by decide]) ?_)
 refine S9 ?_;rw[I2];refine call_enumerate_str λ h3 he hit hz hk=>?_;refine wpAny_pyIter_enum he ?_;intro p;obtain⟨hT,hD⟩:=yc7 (w:=w) x t h2.objs.size;have hLs:L<h2.objs.size:=hn2.lt;have z2:h2.objs.size=s.heap.objs.size:=hs02.1
 replace he:IsEnum h3 (h2.objs.size+1) h2.objs.size 0 .none:=he
 replace hz:h3.objs.size=h2.objs.size+2:=hz
 have hLI:LI L (h2.objs.size+1) h2.objs.size (zna x) x t 0 false 0 h3:=by
  refine⟨⟨_,s.toks,hn2.keeps hk,by simp,by simp[show G9 "pos"≠G9 "escape" by decide]⟩,⟨_,he⟩,hit⟩
 refine zzt (A:=A) (x:=x) (t:=t) (e:=h2.objs.size+1) (it:=h2.objs.size) hh hT hD (by omega) (by omega) (by omega) hbL (by omega) (by omega) rfl x.cps.toList 0 false 0 s _ rfl (Q7 _) ⟨[],rfl⟩ (λ h=>by cases h) hLI ?_
 exact g2.step (h':=h3) (tk:=_) (λ a o z z ea=>hk a o ea) (by show h2.objs.size<=h3.objs.size;omega)
end
section
variable{w:E3}{A:H2}{E:Value->A8->Prop}{s:A8}{L bz:Nat}{items:List (Int×Str)}
theorem zwr {a:Addr}{g n:Nat}{gs:zb7}{Q:Option Value->A8->Prop}(hh:A.handled=none)(hl:s.heap.NoLimit)(hroom:A.depth<zrz)(hg:s.heap.IsGen a g)(hgs:s.gens[g]? =some gs)
 (hgo:gs.Goes (D1 pw w) A.in1 (Rg L bz) (Yg L bz items) n (.send .none) (s.setGen g .running))
 (hY: ∀v s₁ gs',gs'.bare=true->Yg L bz items (n-1) (s.setGen g .running) v s₁ (λ r' s''=>match n with
    |0=>False
    |m+1=>gs'.Goes (D1 pw w) A.in1 (Rg L bz) (Yg L bz items) m r' s'')->Q (some v) (s₁.setGen g gs'))
 (hP: ∀s₁,n=0->Gk L bz (s.setGen g .running) s₁-> ∀h',(∀b o,s₁.heap.get? b=some o->h'.get? b=some o)->s₁.heap.objs.size<=h'.objs.size->Q none {s₁.setGen g .finished with heap:=h'}):
 D0 (D1 pw w) A (zbh (.ref a)) Q E s:=by
 unfold zbh;refine B0 (zt6 (zcz (name:=G9 "__next__") hg.typeIs slot_gen_next
  (zd3 slot_gen_next hg.typeIs entry_gen_next ?_ (args_gen_next _))))
 show D0 _ A.in1 (zj6 (.ref a) (.send .none)) _ _ s;unfold zj6;refine B0 (J8 (wpAny_genNumber hg (B0 (wpAny_genState hgs ?_))))
 cases gs with
 |running=>exact hgo.elim
 |finished=>exact hgo.elim
 |_=>
  refine B0 (wpAny_roomToWake hl hroom ?_);show D0 _ A.in1 (.resume g (.send .none) [] _) _ _ s;refine wpAny_resumeQ hgs hgo (λ x s₁ hx=>?_) (λ v s₁ gs' hb hv=>?_)
  ·obtain⟨rfl,h0,hp⟩:=hx
   show D0 _ A.in1 (newExc (.type "StopIteration") [] >>= _) _ _ _;refine B0 ?_;simp only[newExc,zr4];refine B0 (zah ?_ (by size_fits))
   refine B0 (m:=zkk _ _) (zbe (a:=M7) (by first|rfl|(simp only[zkk];rfl)) ?_)
   refine zah ?_ (by size_fits)
   refine B0 (B0 (wpAny_handled ?_))
   first|rw[show A.in1.handled=none from hh]|rw[hh]
   refine zyg ?_;refine B0 (zog (T:= "StopIteration") (b:=true) ⟨_,D8 _ rfl,rfl⟩ zr8 ?_);exact C4 (hP s₁ h0 hp _ (λ b o hb=>C3 _ (C3 _ hb)) (by rw[G8,G8];exact G5 (L6 _)))
  ·exact C4 ⟨v,rfl,C4 (hY v s₁ gs' hb hv)⟩
end
noncomputable abbrev yfn (l:List (Int×Str)):List D:=l.map λ p=> .tup [.int p.1,.str p.2]
noncomputable def GSt (w:E3)(A:H2)(L bz:Nat)(items:List (Int×Str))(ga gi:Nat)(go:Obj)(k:Nat)(ob:Obs)(gs:zst):Prop:=
 ∃obr gst,ob=(ga,go)::obr/\gs=[(gi,gst)]/\(∀p∈obr,bz<=p.1/\NoF p.2/\(∀v,p.2.data≠ .cell v)/\ ¬Sq p.2)/\L∈obr.map (·.1)/\
  ∀s:A8,(∀p∈obr,s.heap.get? p.1=some p.2)->Gnd0 G0 s.heap->bz<=s.heap.objs.size->gst.Goes (D1 pw w) A.in1 (Rg L bz) (Yg L bz items) (items.length-k) (.send .none) s
theorem zlk {g:Array zb7}{k:Nat}{x y:zb7}(i:Nat)(hi:i≠k):((g.setIfInBounds k x).setIfInBounds k y)[i]? =g[i]?:=by
 rw[zan (U8 hi),zan (U8 hi)]
theorem zsa {g:Array zb7}{k:Nat}{x y gst:zb7}(hg:g[k]? =some gst):((g.setIfInBounds k x).setIfInBounds k y)[k]? =some y:=by
 have hl:=(J4.mp hg).1;rw[zbs (by simpa using hl)]
theorem yc4 {w:E3}{A:H2}{K:List Addr}{tg:Expr}{L bz gb ga gi:Nat}{items:List (Int×Str)}{nm qn:Value}(hh:A.handled=none)(hd:A.depth<zrz)(hbL:bz<=L)(hga:bz<=ga)(hgi:gb<=gi)(hLa:ga≠L)(hK: ∀a∈K,a<bz):
 ItrG G0 w A K tg (.ref ga) (yfn items) bz gb (λ z=>[L]) [gi] (GSt w A L bz items ga gi {cls:= .type "generator",data:= .fields #[.int gi 0,nm,qn]}) where
 lo:=λ z z z z a ha=>by rw[B2] at ha;subst ha;exact hbL
 glo:=λ i hi=>by rw[B2] at hi;subst hi;exact hgi
 ob:=by
  rintro k ob gs ⟨obr,gst,rfl,rfl,h1,h2,_⟩ p hp;rcases B9.mp hp with rfl|hp
  ·exact⟨.inr ⟨by simp,by simp⟩,λ v e=>(by cases e),λ h=>absurd (B2.mp h) hLa,λ h=>absurd (hK _ h) (D7.mpr hga),.inl hga⟩
  ·obtain⟨q1,q2,q3,q4⟩:=h1 p hp
   exact⟨q2,q3,λ z=>q4,λ h=>absurd (hK _ h) (D7.mpr q1),.inl q1⟩
 gs:=by
  rintro k ob gs ⟨obr,gst,rfl,rfl,_⟩ p hp;rw[B2] at hp;subst hp;exact hgi
 wrin:=by
  rintro k ob gs ⟨obr,gst,rfl,rfl,_,h2,_⟩ a ha;rw[B2] at ha;subst ha;exact B1 _ h2
 gwin:=by
  rintro k ob gs ⟨obr,gst,rfl,rfl,_⟩ i hi;simpa using hi
 nxt:=by
  rintro k d ob gs s hdk ⟨obr,gst,rfl,rfl,h1,h2,hgo⟩ ⟨K',ok⟩ ho hg Q E kk;have eg:=ho _ A9;have hob: ∀p∈obr,s.heap.get? p.1=some p.2:=λ p hp=>ho p (B1 _ hp);have hgs:=hg _ (H4 _);have hkl:k<items.length:=by have:=(C7.mp hdk).1;simpa using this
  have hbs:bz<=s.heap.objs.size:=A7 hga (K3 (C6 eg));refine zwr (n:=items.length-k) hh ok.gnd.nl hd ⟨_,nm,qn,eg,rfl,rfl,rfl⟩ hgs (hgo _ hob ok.gnd hbs) (λ v s₁ gs' hb hv=>?_) (λ s₁ h0=>absurd h0 (zxn hkl));obtain⟨⟨d',hd',T,tp,ty,rfl,hT,hTz⟩,⟨⟨h',tk,rfl⟩,gk,gz⟩,ob1,⟨hob1,hL1⟩,hkap⟩:=hv;refine⟨_,rfl,?_⟩;have eg':h'.get? ga=some {cls:= .type "generator",data:= .fields #[.int gi 0,nm,qn]}:=gk ga _ hLa (.inr λ q=>by rcases q.2 with q|q|q<;>(have:=zhu q;revert this;decide)) eg
  refine zcs (T:= "generator") eg' rfl (by decide) ?_
  have hdd:d= .tup [.int d'.1,.str d'.2]:=by
   rw[B7] at hdk;rw[show items.length-1-(items.length-k-1)=k by rw[Nat.sub_right_comm items.length k 1];exact Nat.sub_sub_self (Z9 hkl)] at hd'
   rw[hd'] at hdk;exact(Q8 hdk).symm
  refine kk _ _ ((ga,_)::ob1) [(gi,gs')] ⟨λ a o ha hl ea=>gk a o (by simpa using ha) hl ea,gz,λ i y hi ey=>?_,λ i y ey=>?_,rfl⟩ ⟨ob1,gs',rfl,rfl,λ p hp=>(hob1 p hp).2,hL1,λ s2 hs2 z z=>?_⟩ (λ p hp=>?_) (λ p hp=>?_) ?_
  ·exact(zlk (g:=s.gens) (x:= .running) (y:=gs') i (by simpa using hi)).trans ey
  ·have ey':((s.gens.setIfInBounds gi .running).setIfInBounds gi gs')[i]? =some y:=ey
   by_cases hi:i=gi
   ·subst hi
    rw[zsa hgs] at ey'
    cases ey';exact .inr hb
   ·rw[zlk i hi] at ey';exact .inl ey'
  ·have:=hkap s2 hs2
   rw[show items.length-k=(items.length-(k+1))+1 by rw[zpd,zaz (zdv hkl)]] at this
   exact this
  ·rcases B9.mp hp with rfl|hp
   ·exact eg'
   ·exact(hob1 p hp).1
  ·rw[B2] at hp;subst hp
   exact zsa (x:= .running) hgs
  ·subst hdd
   refine⟨[(T,R4 [.int d'.1 tp,.str d'.2 ty] 0)],λ p hp=>?_,λ g' hg'=>Rp.tup' (n:=0) (hg' _ (H4 _)) (U4 .int' (U4 .str' Z8))⟩;rw[B2] at hp;subst hp;exact⟨.inr hTz,hT⟩
 fin:=by
  rintro ob gs s ⟨obr,gst,rfl,rfl,h1,h2,hgo⟩ ⟨K',ok⟩ ho hg Q E kk;have eg:=ho _ A9;have hob: ∀p∈obr,s.heap.get? p.1=some p.2:=λ p hp=>ho p (B1 _ hp);have hgs:=hg _ (H4 _);have hbs:bz<=s.heap.objs.size:=A7 hga (K3 (C6 eg));have hgo':=hgo (s.setGen gi .running) hob ok.gnd hbs;rw[show items.length-(yfn items).length=0 by simp] at hgo'
  refine zwr (n:=0) hh ok.gnd.nl hd ⟨_,nm,qn,eg,rfl,rfl,rfl⟩ hgs hgo' (λ v s₁ gs' hb hv=>?_) (λ s₁ z gk h' hk hz=>?_)
  ·obtain⟨_,_,ob1,⟨hob1,_⟩,hkap⟩:=hv
   exact(hkap s₁ λ p hp=>(hob1 p hp).1).elim
  ·obtain⟨⟨h1',tk,rfl⟩,gk,gz⟩:=gk
   refine kk _ ⟨λ a o ha hl ea=>hk a o (gk a o (by simpa using ha) hl ea),A7 gz hz,λ i y hi ey=>?_,λ i y ey=>?_,rfl⟩
   ·exact(zlk (g:=s.gens) (x:= .running) (y:= .finished) i (by simpa using hi)).trans ey
   ·have ey':((s.gens.setIfInBounds gi .running).setIfInBounds gi .finished)[i]? =some y:=ey
    by_cases hi:i=gi
    ·subst hi
     rw[zsa hgs] at ey'
     cases ey';exact .inr rfl
    ·rw[zlk i hi] at ey';exact .inl ey'
theorem IvG.esc {w:E3}{c:Cx}{H:Hm}{V:List (Option D)}{t e:Expr}{x:Str}{p ps:Pos}{y:Str}(hh:c.A.handled=none)(hf:Nv G0 w c (.Name x p) (.ref 45))(ha:As G0 w c H V true [e] [.str y]):
 IvG G0 w c H V t (.Call (.Name x p) [e] [] ps) (yfn (zej 0 false y.cps.toList)):=by
 refine⟨λ s F Q E k=>?_⟩
 with_reducible refine L0 (hf.h H V s F _ _ ?_)
 with_reducible refine R3 (o:={cls:= .type "function",data:= .func fdIec}) (fd:=fdIec) (N2 (ha.ns _) (ha.h _ s F _ _ λ vs s1 g1 r1=>⟨⟨(F.onto g1).gnd.fn (45,fdIec) (A6 (i:=6) rfl),rfl⟩,?_⟩))
 rw[I2];have F1:=F.onto g1
 replace r1:=zc0 r1
 obtain⟨v,rfl,r1⟩:=r1;obtain⟨tk,rfl⟩:=r1.str_inv;have hcr:s1.heap.CodeRec fdIec.code fdIec.qualname:=(F1.gnd.cr (44,"_iter_escaped_chars") (A6 (i:=6) rfl)).1;have hroom:=F1.ok.rm.room;refine zif (codeAny_call_generator (fd:=fdIec) (o:={cls:= .type "function",data:= .func fdIec}) hroom (F1.gnd.fn (45,fdIec) (A6 (i:=6) rfl)) rfl (by show fdIec.scope.isCoroutine=false;decide+kernel) (by show fdIec.scope.isGenerator=true;decide+kernel) (body:=zuk) rfl hcr ?_)
 have eb:zay fdIec ⟨[za7 y tk],[]⟩=(pure [(("addr":Str),za7 y tk)]:Sem (List (Str×Value))):=rfl;refine zbe eb ?_;refine wpAny_newFunctionEnv (around:=none) (by decide+kernel) (by
  intro q hq;rw[B2] at hq;subst hq;exact zwp 0) (λ h2 hn2 hs2=>?_) (by decide+kernel)
 have hk2: ∀b o,s1.heap.get? b=some o->h2.get? b=some o:=λ b o eb=>(hs2.2 b (za0 (C6 eb))).trans (C3 _ eb);have z2:h2.objs.size=s1.heap.objs.size+1:=by rw[hs2.1,G8]
 refine⟨F1.gnd.nl.keeps hk2,?_⟩;generalize hgo:({cls:= .type "generator",data:= .fields #[.int s1.gens.size 0,.str fdIec.name (s1.toks+[("addr",za7 y tk)].length),.str fdIec.qualname (s1.toks+[("addr",za7 y tk)].length+1)]}:Obj)=go;have egen:(h2.push go).get? h2.objs.size=some go:=D8 _ (by rw[<-hgo];rfl)
 have hk3: ∀b o,s1.heap.get? b=some o->(h2.push go).get? b=some o:=λ b o eb=>C3 _ (hk2 b o eb);obtain⟨oL,es,ep,eL,hLd,hLr⟩:=id hn2;have tb1:=F1.tb;refine wpAny_pyIter_gen (g:=s1.gens.size) ⟨go,.str fdIec.name (s1.toks+[("addr",za7 y tk)].length),.str fdIec.qualname (s1.toks+[("addr",za7 y tk)].length+1),egen,by rw[<-hgo],by rw[<-hgo],by rw[<-hgo]⟩ ?_
 refine k _ _ (λ j=>[s1.heap.objs.size]) [s1.gens.size] (GSt w c.A s1.heap.objs.size s1.heap.objs.size (zej 0 false y.cps.toList) h2.objs.size s1.gens.size go)
  [(h2.objs.size,go),(s1.heap.objs.size,oL)] [(s1.gens.size,.fresh (.func zuk (zhp s1.heap.objs.size)))] (g1.trans ?_) (ItrG.le ?_ g1.size g1.gle) ⟨[(s1.heap.objs.size,oL)],_,rfl,rfl,λ p hp=>?_,A9,λ s5 ho5 gn5 hb5=>?_⟩ (λ p hp=>?_) (λ p hp=>?_)
 ·refine⟨λ a o j j ea=>hk3 a o ea,λ tt=>⟨A7 tt.1 ?_,tt.2.1.keeps hk3,tt.2.2.keeps hk3⟩,?_,λ i z ez=>?_,λ i z ez=>?_,rfl⟩
  ·show s1.heap.objs.size<=(h2.push go).objs.size
   rw[G8];omega
  ·show s1.heap.objs.size<=(h2.push go).objs.size
   rw[G8];omega
  ·show(s1.gens.push _)[i]? =some z
   rw[Array.getElem?_push_lt (J4.mp ez).1];have:=(J4.mp ez).2;rw[this]
  ·have ez':(s1.gens.push (.fresh (.func zuk (zhp s1.heap.objs.size))))[i]? =some z:=ez
   rw[Array.getElem?_push] at ez';split at ez'
   ·cases ez';exact .inr rfl
   ·exact .inl ez'
 ·rw[<-hgo]
  exact yc4 hh hroom (D2 _) (show s1.heap.objs.size<=h2.objs.size by omega) (D2 _) (show h2.objs.size≠s1.heap.objs.size by omega) (λ a ha=>(F1.okS true).kl a ha)
 ·rw[B2] at hp;subst hp
  exact⟨D2 _,.inl λ vs q=>(by rw[hLd] at q;cases q),λ v q=>(by rw[hLd] at q;cases q),λ q=>by obtain⟨_,_,q⟩:=q;rw[hLd] at q;cases q⟩
 ·refine⟨rfl,?_⟩
  exact zzu (A:=c.A.in1) (x:=y) (t:=tk) hh (D2 _) tb1.1 (m:=λ x=>[(("addr":Str),za7 y tk)].reverse.lookup x) ⟨oL,es,ep,ho5 _ (H4 _),hLd,hLr⟩ rfl gn5 hb5
 ·rcases B9.mp hp with rfl|hp
  ·exact egen
  ·rw[B2] at hp;subst hp
   exact C3 _ eL
 ·rw[B2] at hp;subst hp
  show(s1.gens.push _)[s1.gens.size]? =_;rw[Array.getElem?_push_size];rfl
section
variable{G:Gt}{w:E3}{c:Cx}{H:Hm}{V:List (Option D)}
theorem Me.joinS {sep:Str}{xs:List Str}{B:Nat}(hB: ∀y∈xs,y.length<=B)(h:xs.length*B+xs.length*sep.length<=16777216):Me G w "str" "str.join" (.str sep) [.lst (xs.map D.str)] (.str (L9 sep xs)):=by
 refine Me.join (StrLaws.joinFits hB h) ?_;have h1:=zrf sep xs;have h2:=zxk xs hB;have:H5=16777216:=by decide
 omega
end
theorem zz8 (cs:List Nat): ∀(i:Nat) (b:Bool),(b=true->1<=i)-> ∀p∈zej i b cs,0<=p.1/\p.1<i+cs.length:=by
 induction cs with
 |nil=>
  intro i b hb p h
  cases b with
  |false=>exact noM h
  |true=>
   obtain rfl:=B2.mp h;exact⟨Y2 (H1.mpr (hb rfl)),show(i:Int)-1<i+0 by rw[zab];exact zq6 _ (by decide)⟩
 |cons c r ih=>
  intro i b hb p h;have e:(i:Int)+((c::r).length:Nat)=((i+1:Nat):Int)+(r.length:Nat):=congrArg Int.ofNat (by rw[S7,zae];rfl)
  rw[e];have k: ∀b',(b'=true->1<=i+1)->p∈zej (i+1) b' r->0<=p.1/\p.1<((i+1:Nat):Int)+(r.length:Nat):=λ b' hb' h=>ih (i+1) b' hb' p h;have k0: ∀s,p=((i:Int),s)->0<=p.1/\p.1<((i+1:Nat):Int)+(r.length:Nat):=λ s e=>by
   rw[e];exact⟨E9 _,X2.mpr (C9 (S5 i) (J9 _ _))⟩
  cases b with
  |true=>exact(B9.mp h).elim (k0 _) (k false λ e=>nomatch e)
  |false=>
   rw[zk2] at h;split at h
   ·exact k true (λ z=>J6 _ _) h
   ·exact(B9.mp h).elim (k0 _) (k false λ e=>nomatch e)
theorem zz9 (cs:List Nat): ∀(i:Nat) (b:Bool),(zej i b cs).length<=cs.length+1:=by
 induction cs with
 |nil=>intro i b;cases b;exact Q7 _;exact D2 1
 |cons c r ih=>
  intro i b
  cases b with
  |true=>exact zbj (ih _ _)
  |false=>
   rw[zk2];split
   ·exact G5 (ih _ _)
   ·exact zbj (ih _ _)
noncomputable abbrev zgf (x:Str):List (Int×Str):=zej 0 false x.cps.toList
structure Sq3 where
 st:Int
 op:Option Int
 ps:List Str
noncomputable def zaj (x:Str)(s:Sq3)(p:Int×Str):Sq3:=
 if p.2= "\"" then match s.op with
  |none=>{s with op:=some p.1}
  |some o=>{st:=p.1+1,op:=none,ps:=if s.st≠o then s.ps++[T9 x (some s.st) (some o)] else s.ps}
 else s
noncomputable def zs6 (x:Str)(s:Sq3):List Str:=if s.st<x.length then s.ps++[T9 x (some s.st) none] else s.ps
noncomputable def zfd (x:Str):Str:=if(L4 x "\"" 0 x.length 1).isEmpty then x else L9 "" (zs6 x ((zgf x).foldl (zaj x) ⟨0,none,[]⟩))
noncomputable def opD:Option Int->D
 |none=> .none
 |some o=> .int o
noncomputable def FSqr:Fd where
 f:=52
 c:=51
 fd:=ye5
 ps:=["addr"]
 nm:=["addr","start","open_pos","result","pos","ch"]
 kl:=[false,false,false,false,false,false]
 gn:=[("_iter_escaped_chars",.ref 45),("len",.builtin "len")]
theorem yfv:Fok G0 FSqr:=zgb (gi:=[8]) (bj:=[1]) rfl (by decide+kernel) (A6 (i:=7) rfl) (A6 (i:=7) rfl) rfl rfl ⟨rfl,rfl,rfl,rfl,rfl,rfl⟩
 (all1 λ a=>rfl)
theorem zzx {w:E3}{x:Str}(hx:x.length<=1000):FnG true G0 w 2 52 [.str x] (.str (zfd x)):=by
 have hsl:H5=16777216:=by decide
 refine Fn.intro FSqr yfv (by omega) rfl λ A env bs Ks lv hlv hh hsc E=>?_
 refine W3 (O5 K0 (B4 0 rfl rfl) Cm.notInS) (λ hp=>?_) λ hp=>?_
 ·refine za3 (B4 0 rfl rfl) λ v s F r=>⟨F.go,?_⟩
  unfold zfd;rw[if_pos hp];exact r
 have hst:zfd x=L9 "" (zs6 x ((zgf x).foldl (zaj x) ⟨0,none,[]⟩)):=by unfold zfd;rw[if_neg (by rw[hp];exact N4)]
 rw[hst];refine I9 1 (show 1<6 by decide) rfl D5 ?_
 refine I9 2 (show 2<6 by decide) rfl zaq ?_
 refine Wx.own 3 (show 3<6 by decide) rfl (X1 D9) λ R hR=>?_
 let st:Nat->Sq3:=λ k=>((zgf x).take k).foldl (zaj x) ⟨0,none,[]⟩
 have hst': ∀k p,(zgf x)[k]? =some p->st (k+1)=zaj x (st k) p:=λ k p e=>by
  show((zgf x).take (k+1)).foldl _ _=_;rw[P4,e];simp[zb3];rfl
 have hlen: ∀k,(st k).ps.length<=k/\(∀y∈(st k).ps,y.length<=1000)/\0<=(st k).st/\(∀o,(st k).op=some o->0<=o):=by
  intro k
  induction k with
  |zero=>exact⟨D2 _,λ y h=>(by cases h),V2 _,λ o h=>(by cases h)⟩
  |succ k ih=>
   obtain⟨i1,i2,i3,i4⟩:=ih
   cases e:(zgf x)[k]? with
   |none=>
    have:st (k+1)=st k:=by
     show((zgf x).take (k+1)).foldl _ _=((zgf x).take k).foldl _ _;rw[P4,e];simp
    rw[this];exact⟨by omega,i2,i3,i4⟩
   |some p=>
    have hp0:=(zz8 x.cps.toList 0 false (λ h=>by cases h) p (A6 e)).1
    rw[hst' k p e];unfold zaj;split
    ·split
     ·exact⟨by show(st k).ps.length<=k+1;omega,i2,i3,λ o h=>by cases h;exact hp0⟩
     ·rename_i o _
      refine⟨?_,?_,?_,λ o h=>by cases h⟩
      ·show(if(st k).st≠o then _ else _:List Str).length<=k+1
       split
       ·simp;omega
       ·omega
      ·intro y hy
       have hy':y∈(if(st k).st≠o then(st k).ps++[T9 x (some (st k).st) (some o)] else(st k).ps):=hy;split at hy'
       ·rcases G1.mp hy' with h|h
        ·exact i2 y h
        ·rw[B2] at h;subst h;exact A7 (zjw _ _ _) hx
       ·exact i2 y hy'
      ·show 0<=p.1+1;omega
    ·exact⟨by omega,i2,i3,i4⟩
 have hz:(zgf x).length<=1001:=by
  have h1:=zz9 x.cps.toList 0 false;have h2:x.cps.toList.length=x.length:=V9;show(zej 0 false x.cps.toList).length<=1001;omega
 refine Wx.forG (EB:=λ z z=>False) (IvG.esc (hh rfl) (G7 0 rfl) (B8 (B4 0 rfl rfl) D9)) (λ z z e=>e.elim) (λ k=>[(R,(st k).ps.map D.str)])
  (λ k=>[some (.str x),some (.int (st k).st),some (opD (st k).op),some (.ptr R),none,none]) (λ z=>True) rfl rfl trivial (λ k=>rfl) (λ k d hd z fx gn=>?_) λ z=>?_
 ·rw[B7] at hd
  cases e:(zgf x)[k]? with
  |none=>rw[e] at hd;cases hd
  |some p=>
   rw[e] at hd;cases hd;have hkz:k<1001:=by have:=(C7.mp e).1;omega
   obtain⟨i1,i2,i3,i4⟩:=hlen k;refine⟨_,zgp hh 4 5 (show 4<6 by decide) rfl (show 5<6 by decide) rfl,?_⟩
   have fin: ∀{s:A8} {V':List (Option D)},FrS G0 (FSqr.cx A env bs Ks lv) ⟨[(R,(zaj x (st k) p).ps.map D.str)],fx,gn⟩ V' s->(∀i d,([some (.str x),some (.int (zaj x (st k) p).st),some (opD (zaj x (st k) p).op),some (.ptr R),none,none]:List (Option D))[i]? =some (some d)->V'[i]? =some (some d))->
    FrS G0 (FSqr.cx A env bs Ks lv) ⟨[(R,(st (k+1)).ps.map D.str)],fx,gn⟩ [some (.str x),some (.int (st (k+1)).st),some (opD (st (k+1)).op),some (.ptr R),none,none] s:=λ F h=>by rw[hst' k p e];exact F.weak h
   refine W3 (O5 (B4 5 rfl rfl) K0 Cm.eqS) (λ hq=>?_) λ hq=>?_
   ·have hq':p.2= "\"":=by simpa using hq
    cases ho:(st k).op with
    |none=>
     refine W3 (p:=true) (O5 (B4 2 rfl rfl) zaq Cm.is_none_none) (λ z=>?_) λ h=>by cases h
     refine I9 2 (show 2<6 by decide) rfl (B4 4 rfl rfl) ?_
     refine zbw λ s F=>⟨trivial,fin (by simpa [zaj,hq',ho] using F) λ i d' h=>?_⟩
     simp only[zaj,hq',ho,if_true] at h;exact wkS (wkS (wkS (wkS (wkN (wkN wkE))))) i _ h
    |some o=>
     refine W3 (p:=false) (O5 (B4 2 rfl rfl) zaq (znk (d:= .int o) (by intro h;cases h))) (λ h=>by cases h) λ z=>?_
     refine W3 (O5 (B4 1 rfl rfl) (B4 2 rfl rfl) Cm.ne) (λ hn=>?_) λ hn=>?_
     ·have hn':(st k).st≠o:=by simpa using hn
      refine Wx.mut 3 0 rfl rfl rfl hR (B8 (Ev.sliceS (B4 0 rfl rfl) (Pt.some (B4 1 rfl rfl)) (Pt.some (B4 2 rfl rfl)) (by omega)) D9) (zdc (by simp only[B5];omega)) M5 N5 ?_
      refine I9 1 (show 1<6 by decide) rfl (G4 (B4 4 rfl rfl) D5 zav) ?_
      refine I9 2 (show 2<6 by decide) rfl zaq ?_
      refine zbw λ s F=>⟨trivial,fin (by simpa [zaj,hq',ho,hn'] using F) λ i d' h=>?_⟩
      simp only[zaj,hq',ho,if_true] at h;exact wkS (wkS (wkS (wkS (wkN (wkN wkE))))) i _ h
     ·have hn':(st k).st=o:=by simpa using hn
      refine I9 1 (show 1<6 by decide) rfl (G4 (B4 4 rfl rfl) D5 zav) ?_
      refine I9 2 (show 2<6 by decide) rfl zaq ?_
      refine zbw λ s F=>⟨trivial,fin (by simpa [zaj,hq',ho,hn'] using F) λ i d' h=>?_⟩
      simp only[zaj,hq',ho,if_true] at h;exact wkS (wkS (wkS (wkS (wkN (wkN wkE))))) i _ h
   ·have hq':p.2≠ "\"":=by simpa using hq
    refine zbw λ s F=>⟨trivial,fin (by simpa [zaj,hq'] using F) λ i d' h=>?_⟩
    simp only[zaj,hq',if_false] at h;exact wkS (wkS (wkS (wkS (wkN (wkN wkE))))) i _ h
 have hesz:(yfn (zgf x)).length=(zgf x).length:=by simp
 rw[hesz];obtain⟨i1,i2,i3,i4⟩:=hlen (zgf x).length;have htk:st (zgf x).length=(zgf x).foldl (zaj x) ⟨0,none,[]⟩:=by show((zgf x).take _).foldl _ _=_;rw[V5]
 rw[<-htk];generalize st (zgf x).length=q at i1 i2 i3 i4;refine W3 (O5 (B4 1 rfl rfl) (V0 (G7 1 rfl) (B8 (B4 0 rfl rfl) D9) (Bf.lenS (by omega+splitNatSub))) Cm.lt) (λ hl=>?_) λ hl=>?_
 ·have hl':q.st<x.length:=by simpa using hl
  refine Wx.mut 3 0 rfl rfl rfl hR (B8 (Ev.sliceS (B4 0 rfl rfl) (Pt.some (B4 1 rfl rfl)) Pt.none (by omega)) D9) (zdc (by simp only[B5];omega)) M5 N5 ?_
  have e:q.ps.map D.str++[D.str (T9 x (some q.st) none)]=(zs6 x q).map D.str:=by simp[zs6,hl']
  rw[e];refine za3 (zh3 M6 U2 Z5 K0 (B8 (zed 3 rfl rfl A9) D9) (Me.joinS (B:=1000) ?_ ?_)) λ v s F r=>⟨F.go,r⟩
  ·intro y hy
   simp only[zs6,hl',if_true] at hy;rcases G1.mp hy with h|h
   ·exact i2 y h
   ·rw[B2] at h;subst h;exact A7 (zjw _ _ _) hx
  ·simp only[zs6,hl',if_true,K1,S7,zfa]
   show _+_*0<=_;omega
 ·have hl': ¬q.st<x.length:=by simpa using hl
  have e:q.ps=zs6 x q:=by simp[zs6,hl']
  rw[e] at i1 i2 ⊢;refine za3 (zh3 M6 U2 Z5 K0 (B8 (zed 3 rfl rfl A9) D9) (Me.joinS (B:=1000) i2 ?_)) λ v s F r=>⟨F.go,r⟩;show _+_*0<=_;omega
noncomputable def zht:Int->List (Int×Str)->Bool
 |o,[]=>o==0
 |o,p::r=>if p.2= "(" then zht (o+1) r else if p.2= ")" then(if o-1<0 then false else zht (o-1) r) else zht o r
theorem zir (o:Int)(p:Int×Str)(r:List (Int×Str)):zht o (p::r)=if p.2= "(" then zht (o+1) r else if p.2= ")" then(if o-1<0 then false else zht (o-1) r) else zht o r:=rfl
noncomputable def zrd (x:Str):Bool:=zht 0 (zgf (zfd x))
noncomputable def zx4 (o:Int)(p:Int×Str):Int:=if p.2= "(" then o+1 else if p.2= ")" then o-1 else o
noncomputable def FChk:Fd where
 f:=59
 c:=58
 fd:=yfk
 ps:=["addr"]
 nm:=["addr","opens","pos","ch"]
 kl:=[false,false,false,false]
 gn:=[("_iter_escaped_chars",.ref 45),("_strip_quoted_realnames",.ref 52)]
theorem ygc:Fok G0 FChk:=zgb (gi:=[8,9]) (bj:=[]) rfl (by decide+kernel) (A6 (i:=8) rfl) (A6 (i:=8) rfl) rfl rfl ⟨rfl,rfl,rfl,rfl,rfl,rfl⟩
 (all1 λ a=>rfl)
theorem zov {w:E3}{x:Str}(hx:x.length<=1000):FnG true G0 w 4 59 [.str x] (.bool (zrd x)):=by
 refine Fn.intro FChk ygc (by omega) rfl λ A env bs Ks lv hlv hh hsc E=>?_
 refine I9 0 (show 0<4 by decide) rfl (U5 (G7 1 rfl) (B8 (B4 0 rfl rfl) D9) (zzx hx) (A6 (i:=7) rfl) (by show 2<=lv+1;omega) hh) ?_
 refine I9 1 (show 1<4 by decide) rfl D5 ?_
 unfold zrd;generalize zfd x=y
 let o:Nat->Int:=λ k=>((zgf y).take k).foldl zx4 0
 have ho: ∀k p,(zgf y)[k]? =some p->o (k+1)=zx4 (o k) p:=λ k p e=>by
  show((zgf y).take (k+1)).foldl _ _=_;rw[P4,e];simp[zb3];rfl
 have hdr: ∀k p,(zgf y)[k]? =some p->(zgf y).drop k=p::(zgf y).drop (k+1):=λ k p e=>by
  obtain⟨hl,e'⟩:=C7.mp e;rw[zca hl,e']
 refine Wx.forG (EB:=λ z z=>False) (IvG.esc (hh rfl) (G7 0 rfl) (B8 (B4 0 rfl rfl) D9)) (λ z z e=>e.elim) (λ k=>[])
  (λ k=>[some (.str y),some (.int (o k)),none,none]) (λ k=>zht 0 (zgf y)=zht (o k) ((zgf y).drop k)) rfl rfl (by rw[zia];rfl) (λ k=>rfl) (λ k d hd hlv' fx gn=>?_) λ hlv'=>?_
 ·rw[B7] at hd
  cases e:(zgf y)[k]? with
  |none=>rw[e] at hd;cases hd
  |some p=>
   rw[e] at hd;cases hd;rw[hdr k p e] at hlv';have hk1:=ho k p e;have fin: ∀{s:A8} {a b:D},zht 0 (zgf y)=zht (zx4 (o k) p) ((zgf y).drop (k+1))->FrS G0 (FChk.cx A env bs Ks lv) ⟨[],fx,gn⟩ [some (.str y),some (.int (zx4 (o k) p)),some a,some b] s->
    zht 0 (zgf y)=zht (o (k+1)) ((zgf y).drop (k+1))/\FrS G0 (FChk.cx A env bs Ks lv) ⟨[],fx,gn⟩ [some (.str y),some (.int (o (k+1))),none,none] s:=λ h F=>by
    rw[hk1];exact⟨h,F.weak (wkS (wkS (wkN (wkN wkE))))⟩
   refine⟨_,zgp hh 2 3 (show 2<4 by decide) rfl (show 3<4 by decide) rfl,?_⟩
   refine W3 (O5 (B4 3 rfl rfl) K0 Cm.eqS) (λ hq=>?_) λ hq=>?_
   ·have hq':p.2= "(":=by simpa using hq
    refine Wx.aug 1 (show 1<4 by decide) rfl rfl D5 Ip.add ?_
    refine zbw λ s F=>fin (a:= .int p.1) (b:= .str p.2) (by rw[hlv',zir];unfold zx4;rw[if_pos hq',if_pos hq']) (by unfold zx4;rw[if_pos hq'];exact F)
   ·have hq':p.2≠ "(":=by simpa using hq
    refine W3 (O5 (B4 3 rfl rfl) K0 Cm.eqS) (λ hr=>?_) λ hr=>?_
    ·have hr':p.2= ")":=by simpa using hr
     refine Wx.aug 1 (show 1<4 by decide) rfl rfl D5 Ip.sub ?_
     refine W3 (O5 (B4 1 rfl rfl) D5 Cm.lt) (λ hn=>?_) λ hn=>?_
     ·have hn':o k-1<0:=by simpa using hn
      refine za3 Ev.cbool λ v s F r=>⟨F.go,?_⟩;have:zht 0 (zgf y)=false:=by rw[hlv',zir,if_neg hq',if_pos hr',if_pos hn']
      rw[this];exact r
     ·have hn': ¬(o k-1<0):=by simpa using hn
      refine zbw λ s F=>fin (a:= .int p.1) (b:= .str p.2) (by rw[hlv',zir];unfold zx4;rw[if_neg hq',if_pos hr',if_neg hn',if_neg hq',if_pos hr']) (by unfold zx4;rw[if_neg hq',if_pos hr'];exact F)
    ·have hr':p.2≠ ")":=by simpa using hr
     refine zbw λ s F=>fin (a:= .int p.1) (b:= .str p.2) (by rw[hlv',zir];unfold zx4;rw[if_neg hq',if_neg hr',if_neg hq',if_neg hr']) (by unfold zx4;rw[if_neg hq',if_neg hr'];exact F)
 ·have hesz:(yfn (zgf y)).length=(zgf y).length:=by simp
  rw[hesz] at hlv' ⊢;rw[List.drop_length] at hlv';refine za3 (Ev.cmp (B4 1 rfl rfl) D5 Cm.eq rfl) λ v s F r=>⟨F.go,?_⟩;rw[hlv'];exact r
noncomputable def zr1 (x:Str):Str:=if zrd x then x else "('', '')"
noncomputable def FPre:Fd where
 f:=66
 c:=65
 fd:=yfa
 ps:=["email_header_fields"]
 nm:=["email_header_fields","accepted_values","v"]
 kl:=[false,false,false]
 gn:=[("_check_parenthesis",.ref 59)]
theorem yf0:Fok G0 FPre:=zgb (gi:=[10]) (bj:=[]) rfl (by decide+kernel) (A6 (i:=9) rfl) (A6 (i:=9) rfl) rfl rfl ⟨rfl,rfl,rfl,rfl,rfl,rfl⟩
 (all1 λ a=>rfl)
theorem ye1 {w:E3}{xs:List Str}(hx: ∀x∈xs,x.length<=1000)(hz:xs.length<=1000):FnG true G0 w 6 66 [.lst (xs.map D.str)] (.lst ((xs.map zr1).map D.str)):=by
 refine Fn.intro FPre yf0 (by omega) rfl λ A env bs Ks lv hlv hh hsc E=>?_
 refine Wx.own 1 (show 1<3 by decide) rfl (X1 D9) λ R hR=>?_
 refine zni (zgr (hh rfl) (B4 0 rfl rfl) zec) (λ k=>[(R,((xs.take k).map zr1).map D.str)]) (λ k=>[some (.lst (xs.map D.str)),some (.ptr R),none]) (λ z=>True) rfl rfl trivial (λ k=>rfl) (λ k d hd z fx gn=>?_) λ z=>?_
 ·rw[B7] at hd
  cases e:xs[k]? with
  |none=>rw[e] at hd;cases hd
  |some x=>
   rw[e] at hd;cases hd;have hxk:=hx x (A6 e);have hkz:k<xs.length:=(C7.mp e).1;have ek:((xs.take (k+1)).map zr1).map D.str=((xs.take k).map zr1).map D.str++[.str (zr1 x)]:=by rw[P4,e];simp
   refine⟨_,zen 2 (show 2<3 by decide) rfl,?_⟩
   have fin: ∀{s:A8} {a:D},FrS G0 (FPre.cx A env bs Ks lv) ⟨[(R,((xs.take k).map zr1).map D.str++[.str (zr1 x)])],fx,gn⟩ [some (.lst (xs.map D.str)),some (.ptr R),some a] s->
    FrS G0 (FPre.cx A env bs Ks lv) ⟨[(R,((xs.take (k+1)).map zr1).map D.str)],fx,gn⟩ [some (.lst (xs.map D.str)),some (.ptr R),none] s:=λ F=>by
    rw[ek];exact F.weak (wkS (wkS (wkN wkE)))
   have hzz:(((xs.take k).map zr1).map D.str).length<H5:=by
    have:H5=16777216:=by decide
    simp only[B5,U1];omega
   refine W3 (Ts.not (zmj (U5 (G7 0 rfl) (B8 (B4 2 rfl rfl) D9) (zov hxk) (A6 (i:=8) rfl) (by show 4<=lv+1;omega) hh) Tv.bool)) (λ hq=>?_) λ hq=>?_
   ·have hq':zrd x=false:=by simpa using hq
    refine I9 2 (show 2<3 by decide) rfl K0 ?_
    refine Wx.mut 1 0 rfl rfl rfl hR (B8 (B4 2 rfl rfl) D9) (zdc hzz) M5 N5 ?_;refine zbw λ s F=>⟨trivial,fin (a:= .str "('', '')") ?_⟩;have:zr1 x= "('', '')":=by unfold zr1;rw[hq'];rfl
    rw[this];exact F
   ·have hq':zrd x=true:=by simpa using hq
    refine Wx.mut 1 0 rfl rfl rfl hR (B8 (B4 2 rfl rfl) D9) (zdc hzz) M5 N5 ?_;refine zbw λ s F=>⟨trivial,fin (a:= .str x) ?_⟩;have:zr1 x=x:=by unfold zr1;rw[hq'];rfl
    rw[this];exact F
 ·rw[B5,V5]
  exact za3 (zed 1 rfl rfl A9) λ v s F r=>⟨F.go,r⟩
theorem zvd {w:E3}{l:Nat}{a12 a3 b b1 b2 n q0 r0 rr:Int}(k:Nat)(hn:0<=n)
 (hmul:IntMulOk q0 b2)(hz1:(B6 1:Int)+n<=2^27)(hz2:(B6 b1:Int)+n<=2^27)(hz3:(B6 r0:Int)+n<=2^27)
 (h1:a12.fdiv (2^n.toNat)=b1->q0=1*2^n.toNat-1/\r0=a12-b1*2^n.toNat+b1)
 (h2:a12.fdiv (2^n.toNat)≠b1->Fn G0 w l 73 [.int a12,.int b1,.int n] (.tup [.int q0,.int r0]))
 (hrr:rr=zax (r0*2^n.toNat) a3-q0*b2)(hneg: ∀i:Nat,i<k->rr+i*b<0)(hpos:0<=rr+k*b):
 Fn G0 w (l+2) 80 [.int a12,.int a3,.int b,.int b1,.int b2,.int n] (.tup [.int (q0-k),.int (rr+k*b)]):=by
 refine Fn.intro F3n2n ydv (by omega) rfl λ A env bs K lv hlv hh hsc E=>?_
 have tail: ∀(E:Value->A8->Prop) (V:List (Option D)),V=[some (.int a12),some (.int a3),some (.int b),some (.int b1),some (.int b2),some (.int n),some (.int q0),some (.int r0)]->
  Wx G0 w (F3n2n.cx A env bs K lv) h0 V (zq5 1 F3n2n.body) (yd1 (F3n2n.cx A env bs K lv) (.tup [.int (q0-k),.int (rr+k*b)])) E:=by
  rintro E V rfl;refine I9 7 (show 7<8 by decide) rfl (G4 (G4 (G4 (B4 7 rfl rfl) (B4 5 rfl rfl) (zoe hn hz3)) (B4 1 rfl rfl) Bi.or) (G4 (B4 6 rfl rfl) (B4 4 rfl rfl) (zdf hmul)) zb0) ?_
  rw[<-hrr];refine Wx.while_ k (λ i=>[some (.int a12),some (.int a3),some (.int b),some (.int b1),some (.int b2),some (.int n),some (.int (q0-i)),some (.int (rr+i*b))]) (by simp) (λ i hi=>?_) ?_ (λ i hi=>?_) ?_
  ·exact(O5 (B4 7 rfl rfl) D5 Cm.lt).eq (by simpa using hneg i hi)
  ·exact(O5 (B4 7 rfl rfl) D5 Cm.lt).eq (by simpa using hpos)
  ·refine Wx.aug 6 (show 6<8 by decide) rfl rfl D5 Ip.sub ?_
   refine Wx.aug 7 (show 7<8 by decide) rfl rfl (B4 2 rfl rfl) Ip.add ?_
   refine zbw λ s F=>⟨trivial,?_⟩;have e1:q0-(i:Int)-1=q0-((i+1:Nat):Int):=by omega
   have e2:rr+(i:Int)*b+b=rr+((i+1:Nat):Int)*b:=by push_cast;rw[zh2,W0,zbd]
   rw[<-e1,<-e2];exact F
  ·refine za3 (Z1 (B8 (B4 6 rfl rfl) (B8 (B4 7 rfl rfl) D9))) λ v s F r=>⟨F.go,r⟩
 refine W3 (O5 (G4 (B4 0 rfl rfl) (B4 5 rfl rfl) (Bi.shr hn)) (B4 3 rfl rfl) Cm.eq) (λ hp=>?_) λ hp=>?_
 ·have hp':a12.fdiv (2^n.toNat)=b1:=by simpa using hp
  obtain⟨e1,e2⟩:=h1 hp';refine Wx.swap2 hh hsc 6 7 (show 6<8 by decide) rfl (show 7<8 by decide) rfl (G4 (G4 D5 (B4 5 rfl rfl) (zoe hn hz1)) D5 zb0) (G4 (G4 (B4 0 rfl rfl) (G4 (B4 3 rfl rfl) (B4 5 rfl rfl) (zoe hn hz2)) zb0) (B4 3 rfl rfl) zav) ?_
  exact tail _ _ (by rw[e1,e2];rfl)
 ·have hp':a12.fdiv (2^n.toNat)≠b1:=by simpa using hp
  refine Wx.asgT (U5 (G7 0 rfl) (B8 (B4 0 rfl rfl) (B8 (B4 3 rfl rfl) (B8 (B4 5 rfl rfl) D9))) (h2 hp') (A6 (i:=0) rfl) (by show l<=lv+1;omega) hh) (zgp hh 6 7 (show 6<8 by decide) rfl (show 7<8 by decide) rfl) ?_
  exact tail _ _ rfl
theorem zm8 {w:E3}{l:Nat}{a b n:Int}(hl:2<=l)(hb:b≠0)(hbl:b.natAbs.log2<9000)(hle:(B6 a:Int)-n<=4000):
 Fn G0 w l 73 [.int a,.int b,.int n] (.tup [.int (a.fdiv b),.int (a.fmod b)]):=by
 refine Fn.intro F2n1n zxy hl rfl λ A env bs K lv hlv hh hsc E=>?_;refine W3 (O5 (G4 (Ev.bits (B4 0 rfl rfl)) (B4 2 rfl rfl) zb0) (Ev.nvi (G7 0 rfl)) Cm.le) (λ hp=>?_) λ hp=>?_
 ·exact za3 (V0 (G7 2 rfl) (B8 (B4 0 rfl rfl) (B8 (B4 1 rfl rfl) D9)) (Bf.divmod hb hbl)) λ v s F r=>⟨F.go,r⟩
 ·exact absurd hle (by simpa using hp)
theorem zm7 {w:E3}{l:Nat}{a b n a' b' n' h b1 b2 mask q1 r1 q2 r2:Int}(pad:Nat)(hpad:pad<2)(hgt:4000<(B6 a:Int)-n)(hpn:Y3 n 1=pad)
 (ea:a'=a*2^pad)(eb:b'=b*2^pad)(en:n'=n+pad)(eh:h=n'.fdiv (2^(1:Int).toNat))(hn':0<=n')(hp0:0<=h)(em:mask=1*2^h.toNat-1)(e1:b1=b'.fdiv (2^h.toNat))(e2:b2=Y3 b' mask)
 (hza:(B6 a:Int)+1<=2^27)(hzb:(B6 b:Int)+1<=2^27)(hz1:(B6 1:Int)+h<=2^27)(hzq:(B6 q1:Int)+h<=2^27)
 (c1:Fn G0 w l 80 [.int (a'.fdiv (2^n'.toNat)),.int (Y3 (a'.fdiv (2^h.toNat)) mask),.int b',.int b1,.int b2,.int h] (.tup [.int q1,.int r1]))
 (c2:Fn G0 w l 80 [.int r1,.int (Y3 a' mask),.int b',.int b1,.int b2,.int h] (.tup [.int q2,.int r2])):
 Fn G0 w (l+2) 73 [.int a,.int b,.int n] (.tup [.int (zax (q1*2^h.toNat) q2),.int (r2.fdiv (2^pad))]):=by
 refine Fn.intro F2n1n zxy (by omega) rfl λ A env bs K lv hlv hh hsc E=>?_
 have mid: ∀(E:Value->A8->Prop) (V:List (Option D)),V=[some (.int a'),some (.int b'),some (.int n'),some (.int pad),none,none,none,none,none,none,none]->
  Wx G0 w (F2n1n.cx A env bs K lv) h0 V (zq5 3 F2n1n.body) (yd1 (F2n1n.cx A env bs K lv) (.tup [.int (zax (q1*2^h.toNat) q2),.int (r2.fdiv (2^pad))])) E:=by
  rintro E V rfl;refine I9 4 (show 4<11 by decide) rfl (G4 (B4 2 rfl rfl) D5 (Bi.shr (by decide))) ?_
  rw[<-eh];refine I9 5 (show 5<11 by decide) rfl (G4 (G4 D5 (B4 4 rfl rfl) (zoe hp0 hz1)) D5 zb0) ?_
  rw[<-em];refine Wx.swap2 hh hsc 6 7 (show 6<11 by decide) rfl (show 7<11 by decide) rfl (G4 (B4 1 rfl rfl) (B4 4 rfl rfl) (Bi.shr hp0)) (G4 (B4 1 rfl rfl) (B4 5 rfl rfl) Bi.and) ?_
  rw[<-e1,<-e2];refine Wx.asgT (U5 (G7 1 rfl) (B8 (G4 (B4 0 rfl rfl) (B4 2 rfl rfl) (Bi.shr hn')) (B8 (G4 (G4 (B4 0 rfl rfl) (B4 4 rfl rfl) (Bi.shr hp0)) (B4 5 rfl rfl) Bi.and)
   (B8 (B4 1 rfl rfl) (B8 (B4 6 rfl rfl) (B8 (B4 7 rfl rfl) (B8 (B4 4 rfl rfl) D9)))))) c1 (A6 (i:=1) rfl) (by show l<=lv+1;omega) hh) (zgp hh 8 9 (show 8<11 by decide) rfl (show 9<11 by decide) rfl) ?_
  refine Wx.asgT (U5 (G7 1 rfl) (B8 (B4 9 rfl rfl) (B8 (G4 (B4 0 rfl rfl) (B4 5 rfl rfl) Bi.and)
   (B8 (B4 1 rfl rfl) (B8 (B4 6 rfl rfl) (B8 (B4 7 rfl rfl) (B8 (B4 4 rfl rfl) D9)))))) c2 (A6 (i:=1) rfl) (by show l<=lv+1;omega) hh) (zgp hh 10 9 (show 10<11 by decide) rfl (show 9<11 by decide) rfl) ?_
  refine W3 (zmj (B4 3 rfl rfl) Tv.int) (λ hp=>?_) λ hp=>?_
  ·have:pad=1:=by have:(pad:Int)≠0:=by simpa using hp
                  omega
   subst this;refine Wx.aug 9 (show 9<11 by decide) rfl rfl D5 (Ip.shr (by decide)) ?_
   exact za3 (Z1 (B8 (G4 (G4 (B4 8 rfl rfl) (B4 4 rfl rfl) (zoe hp0 hzq)) (B4 10 rfl rfl) Bi.or) (B8 (B4 9 rfl rfl) D9))) λ v s F r=>⟨F.go,r⟩
  ·have:pad=0:=by have:(pad:Int)=0:=by simpa using hp
                  omega
   subst this;refine za3 (Z1 (B8 (G4 (G4 (B4 8 rfl rfl) (B4 4 rfl rfl) (zoe hp0 hzq)) (B4 10 rfl rfl) Bi.or) (B8 (B4 9 rfl rfl) D9))) λ v s F r=>⟨F.go,?_⟩;have:r2.fdiv (2^0)=r2:=by simp
   rw[this];exact r
 refine W3 (O5 (G4 (Ev.bits (B4 0 rfl rfl)) (B4 2 rfl rfl) zb0) (Ev.nvi (G7 0 rfl)) Cm.le) (λ hp=>?_) λ hp=>?_
 ·exact absurd hgt (by simpa using hp)
 refine I9 3 (show 3<11 by decide) rfl (G4 (B4 2 rfl rfl) D5 Bi.and) ?_
 rw[hpn];refine W3 (zmj (B4 3 rfl rfl) Tv.int) (λ hp=>?_) λ hp=>?_
 ·have:pad=1:=by have:(pad:Int)≠0:=by simpa using hp
                 omega
  subst this;refine Wx.aug 0 (show 0<11 by decide) rfl rfl D5 (Ip.shl (by decide) hza) ?_
  refine Wx.aug 1 (show 1<11 by decide) rfl rfl D5 (Ip.shl (by decide) hzb) ?_
  refine Wx.aug 2 (show 2<11 by decide) rfl rfl D5 Ip.add ?_
  exact mid _ _ (by subst ea eb en;rfl)
 ·have:pad=0:=by have:(pad:Int)=0:=by simpa using hp
                 omega
  subst this;exact mid _ _ (by subst ea eb en;simp[F2n1n,Fd.v0])
theorem zty (a b:Nat):Y3 (a:Int) (b:Int)=((a &&& b:Nat):Int):=by
 unfold Y3;have h1:decide ((0:Int)<=a)=true:=by simp
 have h2:decide ((0:Int)<=b)=true:=by simp
 rw[h1,h2];simp
theorem zxi (a b:Nat):zax (a:Int) (b:Int)=((a ||| b:Nat):Int):=by
 unfold zax Y3 zhd;have h1:decide ((0:Int)<= -(a:Int)-1)=false:=by simp;omega
 have h2:decide ((0:Int)<= -(b:Int)-1)=false:=by simp;omega
 rw[h1,h2];simp only;have e1:(-(-(a:Int)-1)-1).toNat=a:=by omega
 have e2:(-(-(b:Int)-1)-1).toNat=b:=by omega
 rw[e1,e2];omega
theorem zmh (x h:Nat):Y3 (x:Int) (1*2^h-1)=((x % 2^h:Nat):Int):=by
 have:(1*2^h-1:Int)=((2^h-1:Nat):Int):=by
  have:=J5 h;rw[W0,T8 (by omega)];push_cast;rfl
 rw[this,zty,Nat.and_two_pow_sub_one_eq_mod]
theorem ztx (q r h:Nat)(hr:r<2^h):zax ((q:Int)*2^h) (r:Int)=((q*2^h+r:Nat):Int):=by
 have:((q:Int)*2^h)=((2^h*q:Nat):Int):=by push_cast;rw[Y8]
 rw[this,zxi,<-zq1 hr,I7]
theorem yam (u l h:Nat)(hl:l<2^h):zhc ((u*2^h+l:Nat):Int) ((u:Int)*2^h)=(l:Int):=by
 have e1:((u:Int)*2^h)=((2^h*u:Nat):Int):=by push_cast;rw[Y8]
 have e2:u*2^h+l=2^h*u ||| l:=by rw[<-zq1 hl,I7]
 unfold zhc;rw[e1,zxi,zty];have e3:(u*2^h+l) ||| 2^h*u=u*2^h+l:=by
  rw[e2];apply zx6;intro i;simp only[Nat.testBit_or];cases (2^h*u).testBit i<;>simp
 have e4:(u*2^h+l) &&& 2^h*u=2^h*u:=by
  rw[e2];apply zx6;intro i;simp only[Nat.testBit_or,Nat.testBit_and];cases (2^h*u).testBit i<;>simp
 rw[e3,e4,I7];omega
theorem zhk (a b:Nat):Int.fdiv (a:Int) (b:Int)=((a / b:Nat):Int):=by
 rw[V6 _ (by omega)];rfl
theorem zll (a b:Nat):Int.fmod (a:Int) (b:Int)=((a % b:Nat):Int):=by
 rw[R8 _ (by omega)];rfl
theorem zf2 (a h:Nat):Int.fdiv (a:Int) (2^h)=((a / 2^h:Nat):Int):=by
 rw[<-zhk];push_cast;rfl
theorem W2 {x:Nat}{m:Nat}(h:x<2^m):B6 (x:Int)<=m:=by
 rw[N8];simpa using h
theorem yhy {a12 a3 b1 b2 P q0:Nat}(hp:0<P)(hb1:0<b1)(hb2:b2<P)(ha3:a3<P)(hx:a12*P+a3<P*(b1*P+b2))(hq:q0=if a12 / P=b1 then P-1 else a12 / b1):
 q0*b1<=a12/\(a12*P+a3) /(b1*P+b2)<=q0/\q0<P/\(a12 / P≠b1->a12<b1*P)/\((a12-q0*b1)*P+a3+q0*b1*P=a12*P+a3)/\a12<b1*P+b2:=by
 have hab:a12<b1*P+b2:=by
  have:a12*P<(b1*P+b2)*P:=by rw[I7 (b1*P+b2)];exact C2 (J9 _ _) hx
  exact zrj this
 have hdle:a12 / P<=b1:=by
  have:a12 / P<b1+1:=by
   rw[O6 hp,X8,zba];exact zgi hab (zcl hb2 _)
  exact zdx this
 have hne:a12 / P≠b1->a12<b1*P:=λ hn=>by
  have:a12 / P<b1:=zad hdle hn;rwa [O6 hp] at this
 have hqb:q0*b1<=a12:=by
  rw[hq];split
  ·rename_i he
   have:b1*P<=a12:=by rw[<-he];exact zle _ _
   rw[Nat.sub_mul,I7 P];exact A7 (ze6 ..) this
  ·exact zle _ _
 have hql:q0<P:=by
  rw[hq];split
  ·exact zg8 hp (by decide)
  ·rename_i he
   rw[O6 hb1,I7];exact hne he
 have hxq:(a12*P+a3) /(b1*P+b2)<=q0:=by
  rw[hq];split
  ·have hbpos:0<b1*P+b2:=C2 (Q7 _) hab
   have:(a12*P+a3) /(b1*P+b2)<P:=by rw[O6 hbpos];exact hx
   exact Z9 this
  ·rw[Nat.le_div_iff_mul_le hb1]
   generalize hz:(a12*P+a3) /(b1*P+b2)=z;have h1:z*(b1*P+b2)<=a12*P+a3:=by rw[<-hz];exact zle _ _
   have h2:z*(b1*P)<=a12*P+a3:=A7 (G6 _ (J9 _ _)) h1;have h3:z*b1*P<(a12+1)*P:=by
    rw[zbb];refine C2 h2 ?_;rw[X8,zba];exact zcl ha3 _
   exact zdx (zrj h3)
 refine⟨hqb,hxq,hql,hne,?_,hab⟩;have:(a12-q0*b1)*P+q0*b1*P=a12*P:=by rw[<-X8,zaz hqb]
 rw[zae,this]
theorem yhz {a b P:Nat}(hp:0<P)(hb:0<b)(ha:a<P*P*b):
 a / P<P*b/\a / P % b*P+a % P<P*b/\(a / P / b)*P+(a / P % b*P+a % P) / b=a / b/\(a / P % b*P+a % P) % b=a % b/\(a / P % b*P+a % P) / b<P:=by
 have h1:a / P<P*b:=by rw[O6 hp];rw[I7 (P*b),<-zbb];exact ha
 have hr:a / P % b<b:=O9 _ hb;have hm:a % P<P:=O9 _ hp;have h2:a / P % b*P+a % P<P*b:=by
  have:(a / P % b+1)*P<=b*P:=I0 _ hr;rw[X8,zba] at this;rw[I7 P b];exact C9 (zcl hm _) this
 have e1:a / P=b*(a / P / b)+a / P % b:=(zat _ _).symm;have e2:a=P*(a / P)+a % P:=(zat _ _).symm;have e3:a=b*((a / P / b)*P)+(a / P % b*P+a % P):=by
  generalize hz:a / P / b=z at e1 ⊢;generalize hr':a / P % b=r at e1 ⊢;generalize hm':a % P=m at e2 ⊢;rw[e1] at e2;rw[e2,R6,<-zbb b,I7 (b*z) P,I7 r P];omega
 have h5:(a / P % b*P+a % P) / b<P:=by rw[O6 hb];exact h2
 refine⟨h1,h2,?_,?_,h5⟩
 ·generalize hz:a / P / b*P=z at e3 ⊢
  generalize hy:a / P % b*P+a % P=y at e3 ⊢;rw[e3,zj1 hb]
 ·generalize hz:a / P / b*P=z at e3 ⊢
  generalize hy:a / P % b*P+a % P=y at e3 ⊢;rw[e3,zj0]
theorem ztu (h:Nat):((2^h:Nat):Int)=(2:Int)^h:=by push_cast;rfl
theorem yft {w:E3}{l a12 a3 b1 b2 h:Nat}(hh:h<=20000)(hb1:0<b1)(hb1':b1<2^h)(hb2:b2<2^h)(ha3:a3<2^h)(hx:a12*2^h+a3<2^h*(b1*2^h+b2))
 (sub:a12<b1*2^h->Fn G0 w l 73 [.int a12,.int b1,.int h] (.tup [.int ((a12 / b1:Nat):Int),.int ((a12 % b1:Nat):Int)])):
 Fn G0 w (l+2) 80 [.int a12,.int a3,.int ((b1*2^h+b2:Nat):Int),.int b1,.int b2,.int h]
  (.tup [.int (((a12*2^h+a3) /(b1*2^h+b2):Nat):Int),.int (((a12*2^h+a3) % (b1*2^h+b2):Nat):Int)]):=by
 have hp:=J5 h;obtain⟨q0,hq0⟩: ∃q0,q0=if a12 / 2^h=b1 then 2^h-1 else a12 / b1:=⟨_,rfl⟩;obtain⟨d1,d2,d3,d4,d5,d6⟩:=yhy hp hb1 hb2 ha3 hx hq0;have hb12:b1*2^h+b2<2^h*2^h:=by
  have:(b1+1)*2^h<=2^h*2^h:=I0 _ hb1';rw[X8,zba] at this;exact C9 (zcl hb2 _) this
 have hb12':a12<2^(h+h):=by rw[P5];exact zgi d6 hb12
 generalize hbb:b1*2^h+b2=bb at*;generalize hxx:a12*2^h+a3=xx at*;have hbpos:0<bb:=C2 (Q7 _) d6;have hdm:bb*(xx / bb)+xx % bb=xx:=zat _ _;generalize hz:xx / bb=z at*;generalize hm:xx % bb=m at*;have hml:m<bb:=by rw[<-hm];exact O9 _ hbpos
 have key:((a12-q0*b1)*2^h+a3:Nat)+q0*b1*2^h=xx:=d5;have hrr:((xx:Int)-q0*bb)=zax (((a12-q0*b1:Nat):Int)*2^((h:Int)).toNat) (a3:Int)-(q0:Int)*b2:=by
  rw[C0,ztx _ _ _ ha3,<-hbb,<-key];push_cast;rw[zra,W8];omega
 have e2:((xx:Int)-q0*bb+((q0-z:Nat):Int)*bb)=(m:Int):=by
  rw[T8 d2,yax];have:(xx:Int)=bb*z+m:=by exact_mod_cast hdm.symm
  rw[this,Y8 (z:Int)];omega
 have wk:=zvd (w:=w) (l:=l) (a12:=a12) (a3:=a3) (b:=bb) (b1:=b1) (b2:=b2) (n:=h) (q0:=q0) (r0:=((a12-q0*b1:Nat):Int)) (rr:=(xx:Int)-q0*bb) (q0-z) (by omega)
  (zob (m:=h) (n:=h) (W2 d3) (W2 hb2) (by omega))
  (by have:B6 1=1:=by decide
      rw[this];omega)
  (by have:=W2 hb1';omega)
  (by have:a12-q0*b1<2^(h+h):=C2 (ze6 _ _) hb12'
      have:=W2 this;omega)
  (λ he=>by
    rw[C0,zf2] at he;have he':a12 / 2^h=b1:=by exact_mod_cast he
    rw[if_pos he'] at hq0;rw[C0];subst hq0;refine⟨by rw[T8 (by omega),ztu];omega,?_⟩
    rw[T8 d1,zfp,T8 (by omega),ztu,yax,Y8 ((2:Int)^h)]
    simp;omega)
  (λ he=>by
    rw[C0,zf2] at he;have he':a12 / 2^h≠b1:=λ q=>he (by exact_mod_cast q)
    rw[if_neg he'] at hq0;have:=sub (d4 he');have e2:a12-q0*b1=a12 % b1:=by rw[hq0];exact Nat.sub_eq_of_eq_add (Nat.mod_add_div' a12 b1).symm
    rw[e2,hq0];exact this)
  hrr
  (λ i hi=>by
    have h1:z+1<=q0-i:=zex (by rw[zae,Q9 z];exact Nat.add_lt_of_lt_sub hi)
    have h2:xx<bb*(z+1):=by rw[R6,W6];exact hdm▸zcl hml (bb*z)
    have h3:bb*(z+1)<=bb*(q0-i):=G6 _ h1;have h4:(xx:Int)<bb*((q0-i:Nat):Int):=by exact_mod_cast C9 h2 h3
    rw[T8 (K3 (C9 hi (ze6 ..))),Int.mul_sub] at h4;clear hz hm hbb hxx h1 h2 h3 hi key hrr hq0 d5 d6 hb12 hb12' hx;rw[Y8 (q0:Int),Y8 (i:Int)];omega)
  (by rw[e2];exact E9 m)
 have e1:((q0:Int)-((q0-z:Nat):Int))=(z:Int):=by rw[T8 d2];exact Int.sub_sub_self ..
 rw[e1,e2] at wk;exact wk
theorem log2_lt {b n:Nat}(hb:0<b)(h:b<2^n):(b:Int).natAbs.log2<n:=by
 rw[K8];exact(yar (by omega)).mpr h
theorem zn3 {w:E3}{l a b n:Nat}(hl:2<=l)(hb:0<b)(hbn:b<2^8999)(hle:(B6 (a:Int):Int)-n<=4000):
 Fn G0 w l 73 [.int a,.int b,.int n] (.tup [.int ((a / b:Nat):Int),.int ((a % b:Nat):Int)]):=by
 have:=zm8 (w:=w) (l:=l) (a:=a) (b:=b) (n:=n) hl (by omega) (by have:=log2_lt hb hbn;omega) hle
 rw[zhk,zll] at this;exact this
theorem zqv {a b n:Nat}(ha:a<2^n*b)(hbn:b<2^n):B6 (a:Int)<=n+n:=by
 refine W2 (zgi ha ?_);rw[P5];exact zf9 hbn (J5 n)
theorem yg2 {w:E3}{a b n:Nat}(hn:n<=7998)(hb:2^(n-1)<=b)(hbn:b<2^n)(ha:a<2^n*b):
 Fn G0 w 6 73 [.int a,.int b,.int n] (.tup [.int ((a / b:Nat):Int),.int ((a % b:Nat):Int)]):=by
 have hb0:0<b:=C9 (J5 _) hb;have hbits:=zqv ha hbn;have hb9:b<2^8999:=C9 hbn (J1 (by decide) (by omega))
 by_cases hle:(B6 (a:Int):Int)-n<=4000
 ·exact zn3 (by decide) hb0 hb9 hle
 have hn4:4000<n:=by omega
 obtain⟨pad,hpad⟩: ∃pad,pad=n % 2:=⟨_,rfl⟩;have hp2:pad<2:=by omega
 obtain⟨h,hh⟩: ∃h,n+pad=h+h:=⟨(n+pad) / 2,by omega⟩
 have hh3:h<=4000:=by omega
 obtain⟨P,hP⟩: ∃P,P=2^h:=⟨_,rfl⟩;have hPp:0<P:=hP▸J5 h;have hPP:2^(n+pad)=P*P:=by rw[hh,P5,hP]
 obtain⟨a',ea⟩: ∃a',a'=a*2^pad:=⟨_,rfl⟩;obtain⟨b',eb⟩: ∃b',b'=b*2^pad:=⟨_,rfl⟩;have hpp:0<2^pad:=J5 pad;have hb':b'<P*P:=by rw[eb,<-hPP,P5];exact S1 hbn hpp
 have hb0':0<b':=by rw[eb];exact Nat.mul_pos hb0 hpp
 have ha':a'<P*P*b':=by
  rw[ea,eb,<-hPP,P5];have:a*2^pad<2^n*b*2^pad:=S1 ha hpp;refine C9 this ?_;have:2^n*b*2^pad<=2^n*b*2^pad*2^pad:=zdb _ hpp
  calc 2^n*b*2^pad<=2^n*b*2^pad*2^pad:=this
   _=2^n*2^pad*(b*2^pad):=by simp only[zbb,Nat.mul_left_comm,I7]
 have hb1:b' / P<P:=by rw[O6 hPp];exact hb'
 have hb1p:0<b' / P:=by
  refine Nat.div_pos ?_ hPp;rw[eb,hP];have h1:2^(n-1)*2^pad<=b*2^pad:=I0 _ hb;refine A7 ?_ h1;rw[<-P5];exact J1 (by decide) (by omega)
 have hb2:b' % P<P:=O9 _ hPp;have hbb:b' / P*P+b' % P=b':=by rw[I7];exact zat _ _
 obtain⟨e1,e2,e3,e4,e5⟩:=yhz hPp hb0' ha';have hx1:a' /(P*P)*P+a' / P % P=a' / P:=by rw[<-zu7,I7];exact zat _ _
 have sub: ∀x:Nat,x<b' / P*P->Fn G0 w 2 73 [.int x,.int ((b' / P:Nat):Int),.int h] (.tup [.int ((x /(b' / P):Nat):Int),.int ((x % (b' / P):Nat):Int)]):=by
  intro x hx;have hx':x<2^h*(b' / P):=by rw[<-hP,I7];exact hx
  refine zn3 (by decide) hb1p (zgi hb1 (by rw[hP];exact Nat.pow_lt_pow_right (by decide) (C2 hh3 (by decide)))) ?_
  exact Int.sub_right_le_of_le_add (H1.mpr (A7 (zqv hx' (hP▸hb1)) (G3 hh3 h)))
 have c1:=yft (w:=w) (l:=2) (a12:=a' /(P*P)) (a3:=a' / P % P) (b1:=b' / P) (b2:=b' % P) (h:=h) (A7 hh3 (by decide)) hb1p (hP▸hb1) (hP▸hb2) (hP▸O9 _ hPp) (by rw[<-hP,hbb,hx1];exact e1)
  (λ hx=>sub _ (by rw[hP];rw[hP] at hx;exact hx))
 have c2:=yft (w:=w) (l:=2) (a12:=a' / P % b') (a3:=a' % P) (b1:=b' / P) (b2:=b' % P) (h:=h) (A7 hh3 (by decide)) hb1p (hP▸hb1) (hP▸hb2) (hP▸O9 _ hPp) (by rw[<-hP,hbb];exact e2)
  (λ hx=>sub _ (by rw[hP];rw[hP] at hx;exact hx))
 rw[<-hP,hbb] at c1 c2;rw[hx1] at c1;have st:=zm7 (w:=w) (l:=4) (a:=a) (b:=b) (n:=n) (a':=a') (b':=b') (n':=((n+pad:Nat):Int)) (h:=h) (b1:=((b' / P:Nat):Int)) (b2:=((b' % P:Nat):Int)) (mask:=1*2^h-1)
  (q1:=((a' / P / b':Nat):Int)) (r1:=((a' / P % b':Nat):Int)) (q2:=(((a' / P % b'*P+a' % P) / b':Nat):Int)) (r2:=(((a' / P % b'*P+a' % P) % b':Nat):Int)) pad hp2 (by omega)
  (by rw[bitAnd_m1];omega) (by rw[ea];push_cast;rfl) (by rw[eb];push_cast;rfl) (by push_cast;rfl)
  (by rw[show(2:Int)^(1:Int).toNat=((2:Nat):Int) from rfl,zhk];congr 1;omega) (by omega) (by omega) (by rw[C0]) (by rw[C0,zf2,hP]) (by rw[zmh,hP])
  (by omega) (by have:=W2 hbn;omega) (by rw[show B6 1=1 by decide];omega)
  (by have:a' / P / b'<2^h:=by
       rw[<-hP,O6 hb0'];exact e1
      have:=W2 this;omega)
  (by rw[C0,C0,zf2,zf2,zmh,hPP,<-hP];exact c1)
  (by rw[zmh,<-hP];exact c2)
 rw[C0,ztx _ _ _ (hP▸e5),<-hP,e3,zf2,e4] at st;have f1:a' / b'=a / b:=by rw[ea,eb];exact Nat.mul_div_mul_right _ _ hpp
 have f2:a' % b' / 2^pad=a % b:=by rw[ea,eb,Nat.mul_mod_mul_right];exact Nat.mul_div_cancel _ hpp
 rw[f1,f2] at st;exact st
noncomputable def zhl (n:Nat):Nat->Nat->List Nat
 |0,_=>[]
 |k+1,x=>x % 2^n::zhl n k (x / 2^n)
theorem zdt (n k:Nat): ∀x,(zhl n k x).length=k:=by
 induction k with
 |zero=>exact λ x=>rfl
 |succ k ih=>exact λ x=>congrArg (· +1) (ih _)
theorem zuo (n i k:Nat): ∀(x:Nat),zhl n (i+k) x=zhl n i (x % 2^(n*i))++zhl n k (x / 2^(n*i)):=by
 induction i with
 |zero=>intro x;rw[zac,zgh,Nat.pow_zero,Nat.div_one];rfl
 |succ i ih=>
  intro x;rw[zae i 1 k];show x % 2^n::zhl n (i+k) (x / 2^n)=(x % 2^(n*(i+1))) % 2^n::(zhl n i ((x % 2^(n*(i+1))) / 2^n)++zhl n k (x / 2^(n*(i+1))));rw[ih (x / 2^n),Nat.mul_succ,Q9 (n*i),P5,Nat.mod_mul_right_mod,Nat.mod_mul_right_div_self,zu7]
noncomputable def putL (ds:List D)(i:Nat)(es:List D):List D:=ds.take i++es++ds.drop (i+es.length)
noncomputable def zas (l:List Nat):List D:=l.map λ x:Nat=> .int x
theorem zy7 {ds:List D}{i:Nat}{es:List D}(h:i+es.length<=ds.length):(putL ds i es).length=ds.length:=by
 unfold putL;simp;omega
theorem zy5 {ds:List D}{i:Nat}{es fs:List D}(h:i+es.length+fs.length<=ds.length):putL (putL ds i es) (i+es.length) fs=putL ds i (es++fs):=by
 unfold putL;have h1:(ds.take i++es).length=i+es.length:=by simp;omega
 rw[zef (by omega),S6 (by omega)]
 rw[List.drop_append,h1,zu1 (as:=ds.take i++es) (by omega),I2,zag]
 rw[K1,<-J3];congr 2;omega
theorem zy6 {ds:List D}{i:Nat}{d:D}(h:i<ds.length):putL ds i [d]=ds.set i d:=by
 unfold putL;rw[List.set_eq_take_append_cons_drop,if_pos h];simp
section
variable{G:Gt}{w:E3}{c:Cx}{H:Hm}{V:List (Option D)}
theorem Wx.retN {ps:Pos}{P:Flow->A8->Prop}{E:Value->A8->Prop}{rest:List Stmt}(h: ∀s,FrS G c H V s->P (.ret .none) s):Wx G w c H V (.Return none ps::rest) P E:=by
 refine⟨λ s F=>?_⟩;exact E8 (wpAny_Return_none (h s F))
theorem FrS.retC {d:D}{f:Flow}{s:A8}{ow:List (Addr×List D)}(F:FrS G c H V s)(e:H.own=ow)(r:Rp (hid (c.K++ow.map (·.1)) s.heap) d (match f with| .ret v=>v|_=> .none)):yhm c ow d f s:=by
 subst e;exact⟨F.go,F.ows,r⟩
end
noncomputable def zs2 (st:Stmt):List Stmt:=match st with| .FunctionDef _ _ body _ _ _ _ _ _ _=>body|_=>[]
noncomputable def zg0 (st:Stmt):Scope:=match st with| .FunctionDef _ _ _ _ _ _ sc _ _ _=>sc|_=>default
noncomputable def ya3 (st:Stmt):zu4:=match st with| .FunctionDef _ args _ _ _ _ _ _ _ _=>args|_=>default
noncomputable def znz:Stmt:=((zs2 (stN 11))[1]?).getD (.Pass ⟨0,0,0,0⟩)
noncomputable def κI:Kd where
 sc:=zg0 znz
 body:=zs2 znz
 ps:=["x","L","R"]
 lo:=["mid","shift","upper","lower"]
 fr:=["a_digits","n","inner"]
 gn:=[]
theorem yhw {G:Gt}:Kok G κI where
 kind:=rfl
 gen:=rfl
 cor:=rfl
 snd:=by decide+kernel
 nocell:=by decide+kernel
 nd:=by decide+kernel
 dbg:=by decide+kernel
 loc:=by decide+kernel
 fre:=by decide+kernel
 gns:=λ p h=>nomatch h
noncomputable abbrev fvI (a1 a2 a3:Addr)(Da:Addr)(n:Nat)(fa:Addr):List (Str×Addr×D):=[("a_digits",a1,.ptr Da),("n",a2,.int n),("inner",a3,.ptr fa)]
noncomputable abbrev clI (a1 a2 a3:Addr):List (Str×Addr):=[("n",a2),("inner",a3),("a_digits",a1)]
theorem zzz {w:E3}{a1 a2 a3 Da fa c':Addr}{co:Obj}{ct pm:Value}{n:Nat}(hap:a1≠a2/\a1≠a3/\a2≠a3)(hn0:0<n)(hnb:n<=20000)
 (hcr: ∀hp:P9,hp.get? c'=some co->hp.CodeRec (.ref c') (G9 "_int2digits.<locals>.inner"))(hco:(∀v,co.data≠ .cell v)/\(∀es ep,co.data≠ .dict es ep)/\ ¬Sq co):
 ∀(k:Nat) (L:Nat) (x:Nat) (ds:List D),0<k->k<=100->L+k<=ds.length->ds.length<=1000->x<2^(n*k)->
  Cl G0 w (k+2) [(fa,zjn (zsj "inner" (G9 "_int2digits.<locals>.inner") (ya3 znz) κI.body κI.sc (clI a1 a2 a3) ct (.ref c') pm)),(c',co)] (fvI a1 a2 a3 Da n fa) fa
   [.int x,.int L,.int ((L+k:Nat):Int)] [(Da,ds)] [(Da,putL ds L (zas (zhl n k x)))] .none:=by
 intro k
 induction k using zq2 with
 |ind k ih=>
 intro L x ds hk hk100 hL hds hx;refine Cl.intro yhw (κ:=κI) (by omega) rfl A9 (B1 _ A9) hcr ?_ (yd0 λ a b c=>rfl) ?_ ?_ rfl ?_ ?_ rfl λ A env b K lv hlv hh hsc hcells E=>?_
 ·intro p hp
  rcases B9.mp hp with q|q
  ·subst q;exact⟨λ v e=>(by cases e),λ es ep e=>(by cases e),λ⟨_,_,e⟩=>(by cases e)⟩
  ·rw[B2] at q;subst q;exact hco
 ·obtain⟨p1,p2,p3⟩:=hap
  simp[p1,p2,p3,U8 p1,U8 p2,U8 p3]
 ·intro y a hm
  simp only[B9,zkq,D6,or_false] at hm;rcases hm with⟨rfl,_⟩|⟨rfl,_⟩|⟨rfl,_⟩<;>decide+kernel
 ·intro p hp
  simp only[B9,D6,or_false] at hp;rcases hp with rfl|rfl|rfl<;>rfl
 ·intro y a hy
  have hm:=mem_of_lookup hy;simp only[B9,zkq,D6,or_false] at hm;rcases hm with⟨rfl,_⟩|⟨rfl,_⟩|⟨rfl,_⟩
  ·exact⟨_,B1 _ A9,rfl⟩
  ·exact⟨_,B1 _ (B1 _ A9),rfl⟩
  ·exact⟨_,A9,rfl⟩
 refine W3 (O5 (G4 (B4 1 rfl rfl) D5 zav) (B4 2 rfl rfl) Cm.eq) (λ hp=>?_) λ hp=>?_
 ·have hk1:k=1:=(yas (zdy (beq_iff_eq.mp hp))).symm
  subst hk1;refine Wx.setSub (k:=L) 7 0 rfl rfl rfl (.inr A9) (B4 0 rfl rfl) (B4 1 rfl rfl) (by omega) (by omega) (by omega) ?_
  refine Wx.retN λ s F=>F.retC ?_ .none';have e:putL ds L (zas (zhl n 1 x))=ds.set (L:Int).toNat (.int x):=by
   rw[C0];have:zhl n 1 x=[x]:=congrArg (· ::[]) (zeq (by simpa using hx))
   rw[this];exact zy6 (by omega)
  rw[e];rfl
 ·obtain⟨k1,k2,hk2',hp1,hp2,hdv⟩:=ybg hk λ e=>beq_eq_false_iff_ne.mp hp (by rw[e];rfl)
  have hk1k:k1<k:=by rw[hk2'];exact zhz hp2
  have hk2k:k2<k:=by rw[hk2'];exact ziy hp1
  have hLk:L+k1+k2<=ds.length:=by rw[W7,<-hk2'];exact hL
  have hLk1:L+k1<=ds.length:=A7 (J9 ..) hLk;have hLd:((L+k1:Nat):Int)-(L:Int)=k1:=by rw[X3,za6,zbq]
  have hlv':=N3 (N3 hlv);have hk1c:k1<=100:=A7 (K3 hk1k) hk100;have hmid:((L:Int)+((L+k:Nat):Int)).fdiv (2^(1:Int).toNat)=((L+k1:Nat):Int):=by
   rw[show(2:Int)^(1:Int).toNat=((2:Nat):Int) from rfl,show(L:Int)+((L+k:Nat):Int)=((L+(L+k):Nat):Int) by push_cast;rfl,zhk]
   rw[hdv]
  have hsh:(((L+k1:Nat):Int)-(L:Int))*(n:Int)=((n*k1:Nat):Int):=by
   rw[hLd,I7];push_cast;rfl
  have hup:((x:Int)).fdiv (2^(((n*k1:Nat):Int)).toNat)=((x / 2^(n*k1):Nat):Int):=by rw[C0,zf2]
  have hlow:zhc (x:Int) (((x / 2^(n*k1):Nat):Int)*2^(((n*k1:Nat):Int)).toNat)=((x % 2^(n*k1):Nat):Int):=by
   rw[C0];have h:=yam (x / 2^(n*k1)) (x % 2^(n*k1)) (n*k1) (O9 _ (J5 _));rw[show x / 2^(n*k1)*2^(n*k1)+x % 2^(n*k1)=x by rw[I7];exact zat _ _] at h
   exact h
  have hnk:n*k1<=20000*100:=S4 hnb hk1c;have hnk':n*k<=20000*100:=S4 hnb hk100;refine I9 3 (show 3<7 by decide) rfl (G4 (G4 (B4 1 rfl rfl) (B4 2 rfl rfl) zav) D5 (Bi.shr (by decide))) ?_
  rw[hmid];refine I9 4 (show 4<7 by decide) rfl (G4 (G4 (B4 3 rfl rfl) (B4 1 rfl rfl) zb0) (B4 8 rfl rfl) (zdf ?_)) ?_
  ·refine zob (m:=20) (n:=20) ?_ ?_ (by omega)
   ·rw[hLd];exact W2 (C2 hk1c (by decide))
   ·exact W2 (by omega)
  rw[hsh];refine I9 5 (show 5<7 by decide) rfl (G4 (B4 0 rfl rfl) (B4 4 rfl rfl) (Bi.shr (by omega))) ?_
  rw[hup];refine I9 6 (show 6<7 by decide) rfl (G4 (B4 0 rfl rfl) (G4 (B4 5 rfl rfl) (B4 4 rfl rfl) (zoe (by omega) ?_)) Bi.xor) ?_
  ·have h1:x / 2^(n*k1)<2^(n*k):=C2 (zq4 _ _) hx
   exact E1 (H1.mpr (I5 (A7 (W2 h1) hnk') hnk)) (by decide)
  rw[hlow];have hlen1:(zas (zhl n k1 (x % 2^(n*k1)))).length=k1:=by simp[zas,zdt]
  have hpl:(putL ds L (zas (zhl n k1 (x % 2^(n*k1))))).length=ds.length:=zy7 (by rw[hlen1];exact hLk1)
  have c1:=ih k1 hk1k L (x % 2^(n*k1)) ds hp1 hk1c hLk1 hds (O9 _ (J5 _));have c2:=ih k2 hk2k (L+k1) (x / 2^(n*k1)) (putL ds L (zas (zhl n k1 (x % 2^(n*k1))))) hp2 (A7 (K3 hk2k) hk100) (by rw[hpl];exact hLk) (by rw[hpl];exact hds)
   (by rw[O6 (J5 _),<-P5,Q9,<-R6,<-hk2'];exact hx)
  rw[show L+k1+k2=L+k by rw[hk2',W7]] at c2
  have fvo: ∀V:List (Option D),V[7]? =some (some (.ptr Da))->V[8]? =some (some (.int n))->V[9]? =some (some (.ptr fa))->Fvo (κI.cx A env b K [Da] lv) V (fvI a1 a2 a3 Da n fa):=by
   intro V v7 v8 v9;refine⟨λ p hp=>?_⟩;simp only[B9,D6,or_false] at hp;have hce:(κI.cx A env b K [Da] lv).env.cells=clI a1 a2 a3:=hcells;rcases hp with rfl|rfl|rfl
   ·exact⟨7,rfl,v7,rfl,by rw[hce];rfl⟩
   ·exact⟨8,rfl,v8,rfl,by rw[hce];rfl⟩
   ·exact⟨9,rfl,v9,rfl,by rw[hce];rfl⟩
  refine Wx.exprCl 9 rfl rfl (B8 (B4 6 rfl rfl) (B8 (B4 1 rfl rfl) (B8 (B4 3 rfl rfl) D9))) c1 (by show k1+2<=lv+1;rw[hlv'];exact zbj hk1k) hh (λ p hp=>hp) A9 (fvo _ rfl rfl rfl) (λ a ha=> .inr ha) rfl ?_
  refine Wx.exprCl 9 rfl rfl (B8 (B4 5 rfl rfl) (B8 (B4 3 rfl rfl) (B8 (B4 2 rfl rfl) D9))) c2 (by show k2+2<=lv+1;rw[hlv'];exact zbj hk2k) hh (λ p hp=>hp) A9 (fvo _ rfl rfl rfl) (λ a ha=> .inr ha) rfl ?_
  refine zbw λ s F=>F.retC ?_ .none';have e:putL (putL ds L (zas (zhl n k1 (x % 2^(n*k1))))) (L+k1) (zas (zhl n k2 (x / 2^(n*k1))))=putL ds L (zas (zhl n k x)):=by
   have:=zy5 (ds:=ds) (i:=L) (es:=zas (zhl n k1 (x % 2^(n*k1)))) (fs:=zas (zhl n k2 (x / 2^(n*k1)))) (by simp[zas,zdt];exact hLk)
   rw[hlen1] at this;rw[this,hk2',zuo];unfold zas;rw[J2]
  rw[<-e]
noncomputable def FI2d:Fd where
 f:=87
 c:=86
 fd:=yfe
 ps:=["a","n"]
 nm:=["a","n","a_digits","inner"]
 kl:=[false,true,true,true]
 gn:=[("len",.builtin "len")]
theorem yf6:Fok G0 FI2d:=zgb (gi:=[]) (bj:=[1]) rfl (by decide+kernel) (A6 (i:=2) rfl) (A6 (i:=2) rfl) rfl rfl ⟨rfl,rfl,rfl,rfl,rfl,rfl⟩
 (all2 λ a b=>rfl)
noncomputable def freesIn (sc:Scope)(l:List Str):Bool:=sc.names.all λ p=>decide (p.2≠ .free)||decide (p.1∈l)
theorem freesIn.mem {sc:Scope}{l:List Str}(h:freesIn sc l=true){x:Str}(hx:(x,P7)∈sc.names):x∈l:=by
 have:=K5.mp h _ hx;simpa using this
theorem zp5 (k:Nat):(C1 k [D.int 0]).flatten=C1 k (D.int 0):=by
 induction k with
 |zero=>rfl
 |succ k ih=>rw[Q1,zgx,ih];rfl
theorem zjm {w:E3}{a n k:Nat}(hn0:0<n)(hnb:n<=20000)(hk:k=(B6 (a:Int)+n-1) / n)(hk100:k<=100)(hab:B6 (a:Int)<=2000000):
 Fn G0 w (k+5) 87 [.int a,.int n] (.lst (zas (zhl n k a))):=by
 refine Fn.introE FI2d yf6 (by omega) rfl λ A env b K lv hlv hh hen E=>?_
 obtain⟨L,rfl⟩:=hen;have hq:((B6 (a:Int):Int)+(n:Int)-1).fdiv n=(k:Int):=by
  rw[show(B6 (a:Int):Int)+(n:Int)-1=((B6 (a:Int)+n-1:Nat):Int) from(T8 (A7 hn0 (J6 ..))).symm,zhk,hk]
 refine Wx.own (ds:=C1 k (.int 0)) 2 (show 2<4 by decide) rfl ?_ λ Da hDa=>?_
 ·rw[<-zp5,<-C0 k]
  refine Nl.bin (X1 (B8 D5 D9)).ev ((G4 (G4 (G4 (Ev.bits (B4 0 rfl rfl)) (B4 1 rfl rfl) zav) D5 zb0) (B4 1 rfl rfl) (Bi.div (by omega) (PyProof.noPylong_small (C2 hnb (by decide))))).eq (by rw[hq])) (Bn.mul (l:=[.int 0]) (x:=k) (by omega) (by omega) (by simp;omega))
 refine Wx.defn (cd:=86) (Pt:=82) (q:=G9 "_int2digits.<locals>.inner") 3 (show 3<4 by decide) rfl (λ env=>rfl) (λ x hx=>?_) ?_ rfl (by kernel_rfl) (.inl ⟨rfl,rfl,rfl,rfl,rfl⟩) (A6 (i:=3) rfl) rfl
  λ fa c' ct pm co hfa hcof hcr=>?_
 ·have:=freesIn.mem (sc:=zg0 znz) (l:=["a_digits","inner","n"]) (by decide+kernel) hx
  simp only[B9,D6,or_false] at this;rcases this with rfl|rfl|rfl
  ·exact⟨L+2,rfl⟩
  ·exact⟨L+3,rfl⟩
  ·exact⟨L+1,rfl⟩
 ·intro e
  have:(ziq (H3 FI2d.fd L FI2d.f) (zg0 znz).names []).length=3:=rfl;rw[show ziq (H3 FI2d.fd L FI2d.f) (zg0 znz).names []=[] from e] at this
  cases this
 obtain⟨cvs,hcv⟩:=hcof;refine W3 (zmj (B4 0 rfl rfl) Tv.int) (λ hp=>?_) λ hp=>?_
 ·have ha:a≠0:=by have:(a:Int)≠0:=by simpa using hp
                  omega
  have hb1:0<B6 (a:Int):=by
   rcases zbp (B6 (a:Int)) with q|q
   ·have:=(N8 (m:=0) (x:=(a:Int))).mp (by omega)
    simp at this;omega
   ·exact q
  have hk0:0<k:=by rw[hk];exact Nat.div_pos (zex (by rw[Q9];exact G3 hb1 n)) hn0
  have hak:a<2^(n*k):=by
   have h1:B6 (a:Int)<=n*k:=by rw[hk];exact zo3 hn0
   have:=(N8 (x:=(a:Int))).mp h1;simpa using this
  have cl:=zzz (w:=w) (a1:=L+2) (a2:=L+1) (a3:=L+3) (Da:=Da) (fa:=fa) (c':=c') (co:=co) (ct:=ct) (pm:=pm) (n:=n) ⟨by simp,by simp,by simp⟩ hn0 hnb hcr
   ⟨λ v e=>(by rw[hcv] at e;cases e),λ es ep e=>(by rw[hcv] at e;cases e),λ⟨_,_,e⟩=>(by rw[hcv] at e;cases e)⟩ k 0 a (C1 k (.int 0)) hk0 hk100 (by simp) (by simp;omega) hak
  have hput:putL (C1 k (D.int 0)) 0 (zas (zhl n k a))=zas (zhl n k a):=by
   unfold putL;simp[zas,zdt]
  rw[hput] at cl;refine Wx.exprCl 3 rfl rfl (B8 (B4 0 rfl rfl) (B8 D5 (B8 (((V0 (G7 0 rfl) (B8 (zed 2 rfl rfl A9) D9) (zb1 (by simp;omega))).close rfl).eq (by rw[zd1,zac])) D9))) cl (by show k+2<=lv+1;rw[show lv=k+3 from N3 (N3 hlv)];exact Q2 (by decide:2<=4) k) hh (λ p hp=>hp) A9 ?_ (λ a ha=>?_) rfl ?_
  ·refine⟨λ p hp=>?_⟩
   simp only[B9,D6,or_false] at hp;rcases hp with rfl|rfl|rfl
   ·exact⟨2,rfl,rfl,rfl,rfl⟩
   ·exact⟨1,rfl,rfl,rfl,rfl⟩
   ·exact⟨3,rfl,rfl,rfl,rfl⟩
  ·rw[show a=Da from B2.mp ha];exact hDa
  ·exact za3 (zed 2 rfl rfl A9) λ v s F r=>⟨F.go,r⟩
 ·have ha:a=0:=by have:(a:Int)=0:=by simpa using hp
                  omega
  subst ha;have hk0:k=0:=by
   rw[hk,show B6 ((0:Nat):Int)=0 from rfl]
   exact zer (by rw[zac];exact zg8 hn0 Nat.one_pos)
  subst hk0;exact za3 (zed 2 rfl rfl A9) λ v s F r=>⟨F.go,r⟩
noncomputable def V4 (n:Nat):List Int->Int
 |[]=>0
 |d::r=>V4 n r*2^n+d
theorem zpv (n:Nat)(a b:List Int):V4 n (a++b)=V4 n b*2^(n*a.length)+V4 n a:=by
 induction a with
 |nil=>exact(show V4 n b=V4 n b*1+0 by rw[zfq,zab])
 |cons d a ih=>
  show V4 n (a++b)*2^n+d=V4 n b*2^(n*(a.length+1))+(V4 n a*2^n+d);rw[ih,R6,W6,yay,zh2,W8,zbd]
noncomputable def zkj (l:List Int):List D:=l.map .int
theorem zrq (n B:Nat)(hn:0<n)(l:List Int):(∀d∈l,d.natAbs<2^B)->(V4 n l).natAbs<2^(n*l.length+B+l.length):=by
 induction l with
 |nil=>exact λ z=>J5 _
 |cons d r ih=>
  intro h;have ih:=ih λ x hx=>h x (B1 _ hx);have hd:=h d A9;show(V4 n r*2^n+d).natAbs<2^(n*(r.length+1)+B+(r.length+1));have e1:(V4 n r*2^n+d).natAbs<=(V4 n r).natAbs*2^n+d.natAbs:=by
   refine A7 (zd0 _ _) ?_;rw[Y7,zsr];exact D2 _
  have e2:(V4 n r).natAbs*2^n<2^(n*r.length+B+r.length+n):=by
   rw[P5 2 _ n];exact S1 ih (J5 n)
  have e3:2^B<=2^(n*r.length+B+r.length+n):=J1 (by decide) (by omega)
  have e4:n*(r.length+1)+B+(r.length+1)=(n*r.length+B+r.length+n)+1:=by rw[R6];omega
  rw[e4,zxo,Nat.mul_two];exact C2 e1 (Nat.add_lt_add_of_lt_of_le e2 (K3 (C9 hd e3)))
noncomputable def zny:Stmt:=((zs2 (stN 12))[0]?).getD (.Pass ⟨0,0,0,0⟩)
noncomputable def κJ:Kd where
 sc:=zg0 zny
 body:=zs2 zny
 ps:=["L","R"]
 lo:=["mid","shift"]
 fr:=["digits","n","inner"]
 gn:=[]
theorem yhv {G:Gt}:Kok G κJ where
 kind:=rfl
 gen:=rfl
 cor:=rfl
 snd:=by decide+kernel
 nocell:=by decide+kernel
 nd:=by decide+kernel
 dbg:=by decide+kernel
 loc:=by decide+kernel
 fre:=by decide+kernel
 gns:=λ p h=>nomatch h
noncomputable abbrev fvJ (a1 a2 a3:Addr)(ds:List Int)(n:Nat)(fa:Addr):List (Str×Addr×D):=[("digits",a1,.lst (zkj ds)),("n",a2,.int n),("inner",a3,.ptr fa)]
noncomputable abbrev clJ (a1 a2 a3:Addr):List (Str×Addr):=[("n",a2),("inner",a3),("digits",a1)]
theorem zwv {w:E3}{a1 a2 a3 fa c':Addr}{co:Obj}{ct pm:Value}{n B:Nat}{ds:List Int}(hap:a1≠a2/\a1≠a3/\a2≠a3)(hn0:0<n)(hnb:n<=20000)(hB:B<=1000000)(hds:ds.length<=200)(hd: ∀d∈ds,d.natAbs<2^B)
 (hcr: ∀hp:P9,hp.get? c'=some co->hp.CodeRec (.ref c') (G9 "_digits2int.<locals>.inner"))(hco:(∀v,co.data≠ .cell v)/\(∀es ep,co.data≠ .dict es ep)/\ ¬Sq co):
 ∀(k:Nat) (L:Nat),0<k->L+k<=ds.length->
  Cl G0 w (k+2) [(fa,zjn (zsj "inner" (G9 "_digits2int.<locals>.inner") (ya3 zny) κJ.body κJ.sc (clJ a1 a2 a3) ct (.ref c') pm)),(c',co)] (fvJ a1 a2 a3 ds n fa) fa
   [.int L,.int ((L+k:Nat):Int)] [] [] (.int (V4 n ((ds.drop L).take k))):=by
 intro k
 induction k using zq2 with
 |ind k ih=>
 intro L hk hL;refine Cl.intro yhv (κ:=κJ) (by omega) rfl A9 (B1 _ A9) hcr ?_ (all2 λ a b=>rfl) ?_ ?_ rfl ?_ ?_ rfl λ A env b K lv hlv hh hsc hcells E=>?_
 ·intro p hp
  rcases B9.mp hp with q|q
  ·subst q;exact⟨λ v e=>(by cases e),λ es ep e=>(by cases e),λ⟨_,_,e⟩=>(by cases e)⟩
  ·rw[B2] at q;subst q;exact hco
 ·obtain⟨p1,p2,p3⟩:=hap
  simp[p1,p2,p3,U8 p1,U8 p2,U8 p3]
 ·intro y a hm
  simp only[B9,zkq,D6,or_false] at hm;rcases hm with⟨rfl,_⟩|⟨rfl,_⟩|⟨rfl,_⟩<;>decide+kernel
 ·intro p hp
  simp only[B9,D6,or_false] at hp;rcases hp with rfl|rfl|rfl<;>rfl
 ·intro y a hy
  have hm:=mem_of_lookup hy;simp only[B9,zkq,D6,or_false] at hm;rcases hm with⟨rfl,_⟩|⟨rfl,_⟩|⟨rfl,_⟩
  ·exact⟨_,B1 _ A9,rfl⟩
  ·exact⟨_,B1 _ (B1 _ A9),rfl⟩
  ·exact⟨_,A9,rfl⟩
 have rr: ∀{s:A8} {v:Value} {d:D},Rp (hid K s.heap) d v->Rp (hid (K++([]:List (Addr×List D)).map (·.1)) s.heap) d v:=λ{s v d} h=>by rw[zcm,S0];exact h
 refine W3 (O5 (G4 (B4 0 rfl rfl) D5 zav) (B4 1 rfl rfl) Cm.eq) (λ hp=>?_) λ hp=>?_
 ·have hk1:k=1:=(yas (zdy (beq_iff_eq.mp hp))).symm
  subst hk1;have hLl:L<ds.length:=by omega
  have e:V4 n ((ds.drop L).take 1)=ds[L]:=by
   rw[zca hLl,zx7,List.take_zero];show 0*2^n+_=_;rw[zco,U0]
  rw[e];exact za3 (O1 (B4 4 rfl rfl) (B4 0 rfl rfl) (T6 (by omega) (by rw[C0];unfold zkj;rw[B7,B3 hLl];rfl) (by simp[zkj];omega))) λ v s F r=>F.retC rfl (rr r)
 ·obtain⟨k1,k2,hk2',hp1,hp2,hdv⟩:=ybg hk λ e=>beq_eq_false_iff_ne.mp hp (by rw[e];rfl)
  have hk1k:k1<k:=by rw[hk2'];exact zhz hp2
  have hk2k:k2<k:=by rw[hk2'];exact ziy hp1
  have hLk:L+k1+k2<=ds.length:=by rw[W7,<-hk2'];exact hL
  have hLk1:L+k1<=ds.length:=A7 (J9 ..) hLk;have hLd:((L+k1:Nat):Int)-(L:Int)=k1:=by rw[X3,za6,zbq]
  have hlv':=N3 (N3 hlv);have hk1c:k1<=200:=A7 (A7 (J6 k1 L) hLk1) hds;have hmid:((L:Int)+((L+k:Nat):Int)).fdiv (2^(1:Int).toNat)=((L+k1:Nat):Int):=by
   rw[show(2:Int)^(1:Int).toNat=((2:Nat):Int) from rfl,show(L:Int)+((L+k:Nat):Int)=((L+(L+k):Nat):Int) by push_cast;rfl,zhk]
   rw[hdv]
  have hsh:(((L+k1:Nat):Int)-(L:Int))*(n:Int)=((n*k1:Nat):Int):=by
   rw[hLd,I7];push_cast;rfl
  have hnk:n*k1<=20000*200:=S4 hnb hk1c;refine I9 2 (show 2<4 by decide) rfl (G4 (G4 (B4 0 rfl rfl) (B4 1 rfl rfl) zav) D5 (Bi.shr (by decide))) ?_
  rw[hmid];refine I9 3 (show 3<4 by decide) rfl (G4 (G4 (B4 2 rfl rfl) (B4 0 rfl rfl) zb0) (B4 5 rfl rfl) (zdf ?_)) ?_
  ·refine zob (m:=20) (n:=20) ?_ ?_ (by omega)
   ·rw[hLd];exact W2 (C2 hk1c (by decide))
   ·exact W2 (by omega)
  rw[hsh];have c1:=ih k1 hk1k L hp1 hLk1;have c2:=ih k2 hk2k (L+k1) hp2 hLk;rw[show L+k1+k2=L+k by rw[hk2',W7]] at c2
  have fvo: ∀V:List (Option D),V[4]? =some (some (.lst (zkj ds)))->V[5]? =some (some (.int n))->V[6]? =some (some (.ptr fa))->Fvo (κJ.cx A env b K [] lv) V (fvJ a1 a2 a3 ds n fa):=by
   intro V v7 v8 v9;refine⟨λ p hp=>?_⟩;simp only[B9,D6,or_false] at hp;have hce:(κJ.cx A env b K [] lv).env.cells=clJ a1 a2 a3:=hcells;rcases hp with rfl|rfl|rfl
   ·exact⟨4,rfl,v7,rfl,by rw[hce];rfl⟩
   ·exact⟨5,rfl,v8,rfl,by rw[hce];rfl⟩
   ·exact⟨6,rfl,v9,rfl,by rw[hce];rfl⟩
  have hbd:(B6 (V4 n ((ds.drop (L+k1)).take k2)):Int)+((n*k1:Nat):Int)<=2^27:=by
   have hl2:((ds.drop (L+k1)).take k2).length<=200:=by rw[U1];exact A7 (Nat.min_le_left ..) (A7 (A7 (J6 k2 (L+k1)) hLk) hds)
   have h1:=zrq n B hn0 ((ds.drop (L+k1)).take k2) λ d hd'=>hd d (zkc (zes hd'));have h2:=N8.mpr h1;have h3:n*((ds.drop (L+k1)).take k2).length<=20000*200:=S4 hnb hl2;exact E1 (H1.mpr (I5 (A7 h2 (I5 (I5 h3 hB) hl2)) hnk)) (by decide)
  refine za3 (G4 (G4 (Ev.callCl 6 rfl rfl (B8 (B4 2 rfl rfl) (B8 (B4 1 rfl rfl) D9)) c2 (by show k2+2<=lv+1;rw[hlv'];exact zbj hk2k) hh (λ p hp=>hp) A9 (fvo _ rfl rfl rfl) rfl) (B4 3 rfl rfl) (zoe (by omega) hbd))
   (Ev.callCl 6 rfl rfl (B8 (B4 0 rfl rfl) (B8 (B4 2 rfl rfl) D9)) c1 (by show k1+2<=lv+1;rw[hlv'];exact zbj hk1k) hh (λ p hp=>hp) A9 (fvo _ rfl rfl rfl) rfl) zav).open λ v s F r=>F.retC rfl (rr ?_)
  have e:V4 n ((ds.drop L).take k)=V4 n ((ds.drop (L+k1)).take k2)*2^(((n*k1:Nat):Int)).toNat+V4 n ((ds.drop L).take k1):=by
   rw[C0,hk2',List.take_add,zpv,zag];congr 3;have:((ds.drop L).take k1).length=k1:=by rw[U1,zeh];exact zfn (zex (by rw[Q9];exact hLk1))
   rw[this]
  rw[e];exact r
noncomputable def FD2i:Fd where
 f:=94
 c:=93
 fd:=yfj
 ps:=["digits","n"]
 nm:=["digits","n","inner"]
 kl:=[true,true,true]
 gn:=[("len",.builtin "len")]
theorem ygb:Fok G0 FD2i:=zgb (gi:=[]) (bj:=[1]) rfl (by decide+kernel) (A6 (i:=3) rfl) (A6 (i:=3) rfl) rfl rfl ⟨rfl,rfl,rfl,rfl,rfl,rfl⟩
 (all2 λ a b=>rfl)
theorem zf0 {w:E3}{n B:Nat}{ds:List Int}(hn0:0<n)(hnb:n<=20000)(hB:B<=1000000)(hds:ds.length<=200)(hd: ∀d∈ds,d.natAbs<2^B):
 Fn G0 w (ds.length+5) 94 [.lst (zkj ds),.int n] (.int (V4 n ds)):=by
 refine Fn.introE FD2i ygb (by omega) rfl λ A env b K lv hlv hh hen E=>?_
 obtain⟨L,rfl⟩:=hen;refine Wx.defn (cd:=93) (Pt:=89) (q:=G9 "_digits2int.<locals>.inner") 2 (show 2<3 by decide) rfl (λ env=>rfl) (λ x hx=>?_) ?_ rfl (by kernel_rfl) (.inr ⟨rfl,rfl,rfl,rfl,rfl⟩) (A6 (i:=3) rfl) rfl
  λ fa c' ct pm co hfa hcof hcr=>?_
 ·have:=freesIn.mem (sc:=zg0 zny) (l:=["digits","inner","n"]) (by decide+kernel) hx
  simp only[B9,D6,or_false] at this;rcases this with rfl|rfl|rfl
  ·exact⟨L+1,rfl⟩
  ·exact⟨L+3,rfl⟩
  ·exact⟨L+2,rfl⟩
 ·intro e
  have:(ziq (H3 FD2i.fd L FD2i.f) (zg0 zny).names []).length=3:=rfl;rw[show ziq (H3 FD2i.fd L FD2i.f) (zg0 zny).names []=[] from e] at this
  cases this
 obtain⟨cvs,hcv⟩:=hcof;refine za3 (Ev.open (Ev.ite (zmj (B4 0 rfl rfl) (Tv.lst (by simp[zkj];omega))) (λ hp=>?_) λ hp=>?_)) λ v s F r=>⟨F.go,r⟩
 ·have h0:0<ds.length:=by
   cases ds with
   |nil=>simp[zkj] at hp
   |cons d r=>simp
  have cl:=zwv (w:=w) (a1:=L+1) (a2:=L+2) (a3:=L+3) (fa:=fa) (c':=c') (co:=co) (ct:=ct) (pm:=pm) (n:=n) (B:=B) (ds:=ds) ⟨by simp,by simp,by simp⟩ hn0 hnb hB hds hd hcr
   ⟨λ v e=>(by rw[hcv] at e;cases e),λ es ep e=>(by rw[hcv] at e;cases e),λ⟨_,_,e⟩=>(by rw[hcv] at e;cases e)⟩ ds.length 0 h0 (by omega)
  rw[zia,V5] at cl;refine Ev.callCl 2 rfl rfl (B8 D5 (B8 ((V0 (G7 0 rfl) (B8 (B4 0 rfl rfl) D9) (zb1 (by simp[zkj];omega))).eq (by simp[zkj])) D9)) cl (by show ds.length+2<=lv+1;omega) hh (λ p hp=>hp) A9 ?_ rfl
  refine⟨λ p hp=>?_⟩;simp only[B9,D6,or_false] at hp;rcases hp with rfl|rfl|rfl
  ·exact⟨0,rfl,rfl,rfl,rfl⟩
  ·exact⟨1,rfl,rfl,rfl,rfl⟩
  ·exact⟨2,rfl,rfl,rfl,rfl⟩
 ·have h0:ds=[]:=by
   cases ds with
   |nil=>rfl
   |cons d r=>simp[zkj] at hp
  subst h0;exact D5
noncomputable def zwd (n b:Nat):List Nat->Nat×List Nat->Nat×List Nat
 |[],st=>st
 |d::r,(x,qs)=>zwd n b r ((x*2^n+d) % b,qs++[(x*2^n+d) / b])
theorem zqb (n b:Nat): ∀(l:List Nat) (d:Nat) (st:Nat×List Nat),zwd n b (l++[d]) st=zwd n b [d] (zwd n b l st)
 |[],d,st=>rfl
 |e::l,d,(x,qs)=>zqb n b l d _
noncomputable def val (n:Nat):List Nat->Nat
 |[]=>0
 |d::r=>val n r*2^n+d
theorem znn (n:Nat)(a b:List Nat):val n (a++b)=val n b*2^(n*a.length)+val n a:=by
 induction a with
 |nil=>exact(W6 _).symm
 |cons d a ih=>
  show val n (a++b)*2^n+d=val n b*2^(n*(a.length+1))+(val n a*2^n+d);rw[ih,R6,W6,P5,X8,zbb,W7]
theorem zsx (n:Nat)(k:Nat): ∀(x:Nat),x<2^(n*k)->val n (zhl n k x)=x:=by
 induction k with
 |zero=>exact λ x h=>(zpe.mp h).symm
 |succ k ih=>
  intro x h;show val n (zhl n k (x / 2^n))*2^n+x % 2^n=x;rw[ih _ (by rw[O6 (J5 n),<-P5];exact h),I7]
  exact zat _ _
theorem zzk (n b:Nat)(hb:0<b)(l:List Nat): ∀(x:Nat) (qs:List Nat),x<b->
 (zwd n b l (x,qs)).1<b/\val n (zwd n b l (x,qs)).2.reverse*b+(zwd n b l (x,qs)).1=(val n qs.reverse*b+x)*2^(n*l.length)+val n l.reverse:=by
 induction l with
 |nil=>exact λ x qs hx=>⟨hx,(W6 _).symm⟩
 |cons d l ih=>
  intro x qs hx;obtain⟨h1,h2⟩:=ih ((x*2^n+d) % b) (qs++[(x*2^n+d) / b]) (O9 _ hb);refine⟨h1,h2.trans ?_⟩;rw[List.reverse_append,ybw,List.reverse_nil,I2,List.singleton_append,ybw,znn];show((val n qs.reverse*2^n+_)*b+_)*2^(n*l.length)+val n l.reverse=_*2^(n*(l.length+1))+((0*2^n+d)*2^(n*l.reverse.length)+val n l.reverse);rw[zea,zac,ze9];have e:=zat (x*2^n+d) b;generalize (x*2^n+d) / b=q at e ⊢;generalize (x*2^n+d) % b=m at e ⊢;have e2:(val n qs.reverse*2^n+q)*b+m=(val n qs.reverse*b+x)*2^n+d:=by
   rw[X8,X8,Nat.mul_right_comm (val n qs.reverse)];rw[I7 q b];omega
  rw[e2,R6 n,W6,P5,X8,zbb,I7 (2^n)];omega
noncomputable def yho:Fd where
 f:=101
 c:=100
 fd:=yfi
 ps:=["a","b"]
 nm:=["a","b","n","a_digits","r","q_digits","a_digit","q_digit","q"]
 kl:=[false,false,false,false,false,false,false,false,false]
 gn:=[("_div2n1n",.ref 73),("_int2digits",.ref 87),("_digits2int",.ref 94),("reversed",.type "reversed")]
theorem yga:Fok G0 yho:=zgb (gi:=[1,4,5]) (bj:=[2]) rfl (by decide+kernel) (A6 (i:=4) rfl) (A6 (i:=4) rfl) rfl rfl ⟨rfl,rfl,rfl,rfl,rfl,rfl⟩
 (all2 λ a b=>rfl)
theorem zou {w:E3}{a b n K:Nat}(hb:0<b)(hn:n=B6 (b:Int))(hn':n<=7998)(hK:K=(B6 (a:Int)+n-1) / n)(hK100:K<=100)(hab:B6 (a:Int)<=2000000):
 Fn G0 w 110 101 [.int a,.int b] (.tup [.int ((a / b:Nat):Int),.int ((a % b:Nat):Int)]):=by
 have hbn:b<2^n:=by have:=(N8 (m:=n) (x:=(b:Int))).mp (by omega);simpa using this
 have hn0:0<n:=by
  rcases zbp n with q|q
  ·rw[q] at hbn;simp at hbn;omega
  ·exact q
 have hbl:2^(n-1)<=b:=by
  rcases O3 b (2^(n-1)) with q|q
  ·have:=W2 q;omega
  ·exact q
 obtain⟨ds,hds⟩: ∃ds,ds=(zhl n K a).reverse:=⟨_,rfl⟩;have hlen:ds.length=K:=by rw[hds];simp[zdt]
 let st:Nat->Nat×List Nat:=λ k=>zwd n b (ds.take k) (0,[])
 have hinv:=λ k=>zzk n b hb (ds.take k) 0 [] hb;have hst: ∀k d,ds[k]? =some d->st (k+1)=(((st k).1*2^n+d) % b,(st k).2++[((st k).1*2^n+d) / b]):=by
  intro k d hd;show zwd n b (ds.take (k+1)) (0,[])=_;rw[P4,hd];exact zqb n b (ds.take k) d (0,[])
 have hql: ∀k,k<=K->(st k).2.length=k:=by
  intro k
  induction k with
  |zero=>intro _;rfl
  |succ k ih=>
   intro hk;have hd:ds[k]? =some ds[k]:=B3 (by omega)
   rw[hst k _ hd,K1,ih (by omega)];rfl
 have hdig: ∀(k x:Nat),∀d∈zhl n k x,d<2^n:=by
  intro k
  induction k with
  |zero=>intro x d h;cases h
  |succ k ih=>
   intro x d h;rcases B9.mp h with q|q
   ·rw[q];exact O9 _ (J5 n)
   ·exact ih _ d q
 have hdn: ∀k d,ds[k]? =some d->d<2^n:=λ k d hd=>hdig K a d (by have:=A6 hd;rw[hds] at this;exact List.mem_reverse.mp this)
 refine Fn.intro yho yga (by omega) rfl λ A env bs Ks lv hlv hh hsc E=>?_
 refine I9 2 (show 2<9 by decide) rfl (Ev.bits (B4 1 rfl rfl)) ?_
 rw[<-hn];refine I9 3 (show 3<9 by decide) rfl (U5 (G7 1 rfl) (B8 (B4 0 rfl rfl) (B8 (B4 2 rfl rfl) D9)) (zjm hn0 (by omega) hK hK100 hab) (A6 (i:=2) rfl) (by show K+5<=lv+1;omega) hh) ?_
 refine I9 4 (show 4<9 by decide) rfl D5 ?_
 refine Wx.own 5 (show 5<9 by decide) rfl (X1 D9) λ Q hQ=>?_
 refine zni (Iv.rev hh (G7 3 rfl) (B8 (B4 3 rfl rfl) D9)) (λ k=>[(Q,zas (st k).2)])
  (λ k=>[some (.int a),some (.int b),some (.int n),some (.lst (zas (zhl n K a))),some (.int ((st k).1:Nat)),some (.ptr Q),none,none,none]) (λ z=>True) rfl rfl trivial (λ k=>rfl) (λ k d hd z fx gn=>?_) λ z=>?_
 ·have hd': ∃e:Nat,ds[k]? =some e/\d= .int e:=by
   unfold zas at hd;rw[<-zn9,<-hds,B7] at hd
   cases q:ds[k]? with
   |none=>rw[q] at hd;cases hd
   |some e=>rw[q] at hd;cases hd;exact⟨e,rfl,rfl⟩
  obtain⟨e,he,rfl⟩:=hd';have hkl:k<K:=by have:=(C7.mp he).1;omega
  have hr:=(hinv k).1;have hx:(st k).1*2^n+e<2^n*b:=by
   have h1:((st k).1+1)*2^n<=b*2^n:=I0 _ hr;rw[X8,zba] at h1;have:=hdn k e he;rw[I7 (2^n) b];omega
  refine⟨_,zen 6 (show 6<9 by decide) rfl,?_⟩
  refine Wx.asgT (U5 (G7 0 rfl) (B8 ((G4 (G4 (B4 4 rfl rfl) (B4 2 rfl rfl) (zoe (by omega) ?_)) (B4 6 rfl rfl) zav).eq (d':= .int (((st k).1*2^n+e:Nat):Int)) (by rw[C0];push_cast;rfl)) (B8 (B4 1 rfl rfl) (B8 (B4 2 rfl rfl) D9)))
   (yg2 hn' hbl hbn hx) (A6 (i:=0) rfl) (by show 6<=lv+1;omega) hh) (zgp hh 7 4 (show 7<9 by decide) rfl (show 4<9 by decide) rfl) ?_
  ·have h9:B6 (((st k).1:Nat):Int)<=n:=W2 (zgi hr hbn)
   omega
  refine Wx.mut 5 0 rfl rfl rfl hQ (B8 (B4 7 rfl rfl) D9) (zdc (by simp only[zas,B5];rw[hql k (by omega)];show k<2^24;omega)) M5 N5 ?_
  refine zbw λ s F=>⟨trivial,?_⟩;rw[hst k e he];have e1:zas ((st k).2++[((st k).1*2^n+e) / b])=zas (st k).2++[.int (((st k).1*2^n+e) / b:Nat)]:=by unfold zas;rw[J2];rfl
  rw[e1];exact F.weak (wkS (wkS (wkS (wkS (wkS (wkS (wkN (wkN (wkN wkE)))))))))
 have hL:(zas (zhl n K a)).reverse.length=K:=by simp[zas,zdt]
 rw[hL];have hak:a<2^(n*K):=by
  have h1:B6 (a:Int)<=n*K:=by rw[hK];exact zo3 hn0
  have:=(N8 (x:=(a:Int))).mp h1;simpa using this
 obtain⟨i1,i2⟩:=hinv K;have htk:ds.take K=ds:=S6 (by omega)
 rw[htk] at i1 i2;rw[hds,List.reverse_reverse,zsx n K a hak] at i2;have hsK:st K=zwd n b ds (0,[]):=by show zwd n b (ds.take K) (0,[])=_;rw[htk]
 rw[<-hds] at i2;rw[<-hsK] at i1 i2;rw[show val n ([]:List Nat).reverse*b+0=0 from zea b,zea,zac] at i2
 have hq:a / b=val n (st K).2.reverse:=by
  rw[<-i2,I7,zj1 hb,zer i1];rfl
 have hr:a % b=(st K).1:=by
  rw[<-i2,I7,zj0,zeq i1]
 have hlq:=hql K (D2 K);have eI:(zas (st K).2).reverse=zkj ((st K).2.reverse.map λ x:Nat=>(x:Int)):=by
  unfold zas zkj;rw[<-zn9,E6];rfl
 have hun: ∀l:List Nat,V4 n (l.map λ x:Nat=>(x:Int))=(val n l:Int):=by
  intro l
  induction l with
  |nil=>rfl
  |cons d r ih=>show V4 n (r.map λ x:Nat=>(x:Int))*2^n+d=((val n r*2^n+d:Nat):Int);rw[ih];push_cast;rfl
 have hle: ∀(l:List Nat),∀e∈l,e<=val n l:=by
  intro l
  induction l with
  |nil=>intro e h;cases h
  |cons d r ih=>
   intro e h;show e<=val n r*2^n+d;rcases B9.mp h with q|q
   ·rw[q];exact J6 _ _
   ·exact A7 (A7 (ih e q) (zdb _ (J5 n))) (J9 _ _)
 have hb1: ∀d∈(st K).2.reverse.map (λ x:Nat=>(x:Int)),d.natAbs<2^799800:=by
  intro d hd;obtain⟨e,he,rfl⟩:=C5.mp hd;have h1:=hle _ e he;rw[<-hq] at h1;have h2:a / b<=a:=zq4 _ _;have h3:2^(n*K)<=2^799800:=J1 (by decide) (A7 (S4 hn' hK100) (by decide))
  rw[K8];exact C2 (A7 h1 h2) (C9 hak h3)
 have cd:=zf0 (w:=w) (n:=n) (B:=799800) hn0 (by omega) (by omega) (by rw[B5,ze9,hlq];omega) hb1
 rw[hun,<-hq] at cd;refine Wx.mut 5 0 rfl rfl rfl hQ D9 (Lm.reverse (by simp only[zas,B5];rw[hlq];show K<=2^24;omega)) zo9 PySem.F.type_list_reverse ?_
 rw[eI];refine I9 8 (show 8<9 by decide) rfl ((U5 (G7 2 rfl) (B8 (zed 5 rfl rfl A9) (B8 (B4 2 rfl rfl) D9)) cd (A6 (i:=3) rfl)
  (by show _<=lv+1;rw[B5,ze9,hlq];omega) hh).close rfl) ?_
 rw[<-hr];exact za3 (Z1 (B8 (B4 8 rfl rfl) (B8 (B4 4 rfl rfl) D9))) λ v s F r=>⟨F.go,r⟩
theorem FnG.le {n:Bool}{G:Gt}{w:E3}{l l':Nat}{f:Addr}{ds:List D}{d:D}(h:FnG n G w l f ds d)(hl:l<=l'):FnG n G w l' f ds d:=
 ⟨λ A K s vs hr=>h.h A K s vs (hr.le hl)⟩
noncomputable def ygk:Fd where
 f:=108
 c:=107
 fd:=ydg
 ps:=["a","b"]
 nm:=["a","b","q","r"]
 kl:=[false,false,false,false]
 gn:=[("_divmod_pos",.ref 101),("int_divmod",.ref 108)]
theorem zxx:Fok G0 ygk:=zgb (gi:=[6,7]) (bj:=[]) rfl (by decide+kernel) (A6 (i:=5) rfl) (A6 (i:=5) rfl) rfl rfl ⟨rfl,rfl,rfl,rfl,rfl,rfl⟩
 (all2 λ a b=>rfl)
noncomputable def yd2 (a b:Nat):Prop:=B6 (b:Int)<=7998/\(B6 (a:Int)+B6 (b:Int)-1) / B6 (b:Int)<=100/\B6 (a:Int)<=2000000
theorem zwl {w:E3}{a b:Nat}(hb:0<b)(h:yd2 a b):Fn G0 w 112 108 [.int a,.int b] (.tup [.int ((a / b:Nat):Int),.int ((a % b:Nat):Int)]):=by
 refine Fn.intro ygk zxx (by omega) rfl λ A env bs Ks lv hlv hh hsc E=>?_
 have hb':=X2.mpr hb;refine Wx.ite0 ((O5 (B4 1 rfl rfl) D5 Cm.eq).eq (beq_eq_false_iff_ne.mpr (zxv hb'))) ?_;refine Wx.ite0 ((O5 (B4 1 rfl rfl) D5 Cm.lt).eq (decide_eq_false (R7.mpr (za2 hb')))) ?_;refine Wx.ite0 ((O5 (B4 0 rfl rfl) D5 Cm.lt).eq (decide_eq_false (R7.mpr (E9 a)))) ?_;exact za3 (U5 (G7 0 rfl) (B8 (B4 0 rfl rfl) (B8 (B4 1 rfl rfl) D9)) (zou hb rfl h.1 rfl h.2.1 h.2.2) (A6 (i:=4) rfl) (by show 110<=lv+1;rw[N3 (N3 hlv)];decide) hh) λ v s F r=>⟨F.go,r⟩
theorem bitNot_eq (x:Int):zhd x= -x-1:=by unfold zhd;omega
theorem yc0 {w:E3}{a b:Nat}(hb:0<b)(h:yd2 a b):Fn G0 w 114 108 [.int (-(a:Int)-1),.int b] (.tup [.int (-((a / b:Nat):Int)-1),.int ((b:Int)-((a % b:Nat):Int)-1)]):=by
 refine Fn.intro ygk zxx (by omega) rfl λ A env bs Ks lv hlv hh hsc E=>?_
 have hb':=X2.mpr hb;refine Wx.ite0 ((O5 (B4 1 rfl rfl) D5 Cm.eq).eq (beq_eq_false_iff_ne.mpr (zxv hb'))) ?_;refine Wx.ite0 ((O5 (B4 1 rfl rfl) D5 Cm.lt).eq (decide_eq_false (R7.mpr (za2 hb')))) ?_;refine Wx.ite1 ((O5 (B4 0 rfl rfl) D5 Cm.lt).eq (decide_eq_true (Int.sub_neg_of_lt (V8 (zhb (E9 a)) (by decide:(0:Int)<1))))) ?_
 ·refine Wx.asgT (U5 (G7 1 rfl) (B8 ((zk8 (B4 0 rfl rfl) Un.inv).eq (d':= .int (a:Int)) (by rw[bitNot_eq];congr 1;omega)) (B8 (B4 1 rfl rfl) D9)) (zwl hb h) (A6 (i:=5) rfl) (by show 112<=lv+1;rw[N3 (N3 hlv)];decide) hh) (zgp hh 2 3 (show 2<4 by decide) rfl (show 3<4 by decide) rfl) ?_
  exact za3 (Z1 (B8 ((zk8 (B4 2 rfl rfl) Un.inv).eq (by rw[bitNot_eq])) (B8 ((G4 (B4 1 rfl rfl) (zk8 (B4 3 rfl rfl) Un.inv) zav).eq (d':= .int ((b:Int)-((a % b:Nat):Int)-1)) (by rw[bitNot_eq];congr 1;omega)) D9))) λ v s F r=>⟨F.go,r⟩
theorem yeq {w:E3}{l:Nat}{a b q r:Int}(hb:0<b)(h:Fn G0 w l 108 [.int a,.int b] (.tup [.int q,.int r])):Fn G0 w (l+2) 108 [.int (-a),.int (-b)] (.tup [.int q,.int (-r)]):=by
 refine Fn.intro ygk zxx (by omega) rfl λ A env bs Ks lv hlv hh hsc E=>?_
 have hb':=zdd hb;refine Wx.ite0 ((O5 (B4 1 rfl rfl) D5 Cm.eq).eq (beq_eq_false_iff_ne.mpr (Int.ne_of_lt hb'))) ?_;refine Wx.ite1 ((O5 (B4 1 rfl rfl) D5 Cm.lt).eq (decide_eq_true hb')) ?_
 ·refine Wx.asgT (U5 (G7 1 rfl) (B8 ((zk8 (B4 0 rfl rfl) Un.neg).eq (d':= .int a) (by rw[zq7])) (B8 ((zk8 (B4 1 rfl rfl) Un.neg).eq (d':= .int b) (by rw[zq7])) D9)) h (A6 (i:=5) rfl) (by show l<=lv+1;rw[<-N3 (N3 hlv)];exact L6 lv) hh) (zgp hh 2 3 (show 2<4 by decide) rfl (show 3<4 by decide) rfl) ?_
  exact za3 (Z1 (B8 (B4 2 rfl rfl) (B8 (zk8 (B4 3 rfl rfl) Un.neg) D9))) λ v s F r=>⟨F.go,r⟩
theorem zfz {w:E3}{b q r:Int}(hb:b≠0)(hr:(0<b/\0<=r/\r<b)\/(b<0/\b<r/\r<=0))(hok: ∀x:Nat,x<=(q*b+r).natAbs->yd2 x b.natAbs):
 Fn G0 w 116 108 [.int (q*b+r),.int b] (.tup [.int q,.int r]):=by
 have key: ∀(b q r:Int),0<b->0<=r->r<b->(∀x:Nat,x<=(q*b+r).natAbs->yd2 x b.natAbs)->Fn G0 w 114 108 [.int (q*b+r),.int b] (.tup [.int q,.int r]):=by
  intro b q r h0 h1 h2 hok;obtain⟨b',rfl⟩:=K2 (za2 h0);obtain⟨r',rfl⟩:=K2 h1;have hb':0<b':=X2.mp h0;have hr':r'<b':=X2.mp h2;have hd:((b'-r'-1:Nat):Int)=b'-r'-1:=by rw[T8 (zex (by rw[Q9];exact hr')),T8 (K3 hr')];rfl
  have hd':b'-r'-1<b':=C9 (zg8 (zdv hr') (by decide)) (ze6 ..)
  rcases zxw (q*b'+r') 0 with hn|hn
  ·have hq:q<0:=by
    rcases zxw q 0 with h|h
    ·exact h
    ·exact absurd hn (R7.mpr (zcx (zss h (E9 b')) h1))
   obtain⟨q',rfl⟩: ∃q':Nat,q= -(q':Int)-1:=⟨(-q-1).toNat,by rw[L8 (Y2 (Int.le_neg_of_le_neg (zap hq)))];omega⟩
   have e:(-(q':Int)-1)*b'+r'= -((q'*b'+(b'-r'-1):Nat):Int)-1:=by
    rw[yax,zq8];push_cast;rw[hd];omega
   rw[e] at hok ⊢;have h:=yc0 (w:=w) hb' (hok (q'*b'+(b'-r'-1)) (by rw[Int.sub_eq_add_neg,<-Int.neg_add,zcw];exact L6 _))
   have d1:(q'*b'+(b'-r'-1)) / b'=q':=by rw[I7,zj1 hb',zer hd'];rfl
   have d2:(q'*b'+(b'-r'-1)) % b'=b'-r'-1:=by rw[I7,zj0,zeq hd']
   rw[d1,d2,show(b':Int)-((b'-r'-1:Nat):Int)-1=r' by rw[hd];omega] at h
   exact h
  ·have hq:0<=q:=by
    rcases zxw q 0 with h|h
    ·have:q*b'<= -1*b':=Int.mul_le_mul_of_nonneg_right (zap h) (E9 b')
     exact absurd (E1 hn (W9 this r')) (Int.not_le.mpr (by rw[zq8,W0,za6];exact Int.sub_neg_of_lt h2))
    ·exact h
   obtain⟨q',rfl⟩:=K2 hq;have e:(q':Int)*b'+r'=((q'*b'+r':Nat):Int):=by push_cast;rfl
   rw[e] at hok ⊢;have h:=(zwl (w:=w) hb' (hok (q'*b'+r') (D2 _))).le (l':=114) (by omega)
   have d1:(q'*b'+r') / b'=q':=by rw[I7,zj1 hb',zer hr'];rfl
   have d2:(q'*b'+r') % b'=r':=by rw[I7,zj0,zeq hr']
   rw[d1,d2] at h;exact h
 rcases hr with⟨h0,h1,h2⟩|⟨h0,h1,h2⟩
 ·exact(key b q r h0 h1 h2 hok).le (by omega)
 ·have e: -(q* -b+ -r)=q*b+r:=by rw[Int.mul_neg];omega
  have h:=yeq (w:=w) (yby h0) (key (-b) q (-r) (yby h0) (zt3 h2) (Int.neg_lt_neg h1) (by
   intro x hx;rw[zcw];exact hok x (by rw[<-e,zcw];exact hx)))
  rw[e,zq7,zq7] at h;exact h
noncomputable def zsk (cs:List Int)(p:Nat×Int):List Int:=
 let c1:=cs.set (p.1 % 5) (cs.getD (p.1 % 5) 0+p.2.fmod 1000000)
 c1.set ((p.1+3) % 5) (c1.getD ((p.1+3) % 5) 0+(p.2.fdiv 1000000).fmod 1000000)
noncomputable def zdk (sc:List Int)(k:Nat):List Int:=((sc.take k).zipIdx.map λ p=>(p.2,p.1)).foldl zsk [19,11,5,60,40008]
noncomputable def ztr (sc:List Int):List Int:=zdk sc (min 60 sc.length)
theorem zxb (cs:List Int)(p:Nat×Int):(zsk cs p).length=cs.length:=by simp[zsk]
theorem zmc {sc:List Int}{k:Nat}{x:Int}(h:sc[k]? =some x):zdk sc (k+1)=zsk (zdk sc k) (k,x):=by
 unfold zdk;have hk:=(C7.mp h).1;rw[P4,h,List.zipIdx_append];simp[zb3,zfn (K3 hk)]
theorem zkn (sc:List Int)(k:Nat):(zdk sc k).length=5:=by
 unfold zdk;generalize ((sc.take k).zipIdx.map λ p=>(p.2,p.1))=l;have: ∀(l:List (Nat×Int)) (cs:List Int),cs.length=5->(l.foldl zsk cs).length=5:=by
  intro l
  induction l with
  |nil=>intro cs h;exact h
  |cons p r ih=>intro cs h;exact ih _ (by rw[zxb];exact h)
 exact this l _ rfl
theorem getD_some {cs:List Int}{i:Nat}(h:i<cs.length):(izD cs)[i]? =some (.int (cs.getD i 0)):=by
 rw[B7,B3 h,C8,B3 h];rfl
theorem zr7 {cs:List Int}{i:Nat}{x:Int}:(izD cs).set i (.int x)=izD (cs.set i x):=by unfold izD;rw[List.map_set]
noncomputable def yhp:Fd where
 f:=280
 c:=279
 fd:=yfl
 ps:=["script"]
 nm:=["script","cells","k"]
 kl:=[false,false,false]
 gn:=[("len",.builtin "len"),("range",.type "range")]
theorem ygd:Fok G0 yhp:=zgb (gi:=[]) (bj:=[1,5]) rfl (by decide+kernel) (A6 (i:=18) rfl) (A6 (i:=18) rfl) rfl rfl ⟨rfl,rfl,rfl,rfl,rfl,rfl⟩
 (all1 λ a=>rfl)
theorem zz0 {w:E3}{sc:List Int}(hz:sc.length<=1000):FnG true G0 w 2 280 [.lst (izD sc)] (.lst (izD (ztr sc))):=by
 refine Fn.intro yhp ygd (by omega) rfl λ A env bs Ks lv hlv hh hsc E=>?_
 have hsl:H5=16777216:=by decide
 refine Wx.own 1 (show 1<3 by decide) rfl (X1 (B8 D5 (B8 D5 (B8 D5 (B8 D5 (B8 D5 D9)))))) λ R hR=>?_
 have hn:((zy8 none (some 60) (izD sc)).length:Int)=((min 60 sc.length:Nat):Int):=by
  show((zx8 60 (izD sc)).length:Int)=_;rw[U1,B5]
 refine zni (zbz (hh rfl) (G7 1 rfl) (B8 ((V0 (G7 0 rfl) (B8 (zmk (B4 0 rfl rfl) Pt.none (Pt.some D5) (by rw[B5];omega) ⟨λ a h=>(by cases h),λ b h=>(by cases h;decide),.inl rfl⟩).ev D9) (zb1 (by simp[zy8];omega))).eq (by rw[hn])) D9) (by omega) (by omega))
  (λ k=>[(R,izD (zdk sc k))]) (λ k=>[some (.lst (izD sc)),some (.ptr R),none]) (λ z=>True) rfl rfl trivial (λ k=>rfl) (λ k d hd z fx gn=>?_) λ z=>?_
 ·rw[C0] at hd
  have hk:k<min 60 sc.length/\d= .int k:=by have h:=zhi hd;rw[U0] at h;exact h
  obtain⟨hk,rfl⟩:=hk;have e:sc[k]? =some sc[k]:=B3 (by omega)
  obtain⟨x,hxk⟩: ∃x,sc[k]? =some x:=⟨_,e⟩;have hl:=zkn sc k;refine⟨_,zen 2 (show 2<3 by decide) rfl,?_⟩
  have hm1:((k:Int)).fmod 5=((k % 5:Nat):Int):=by rw[show(5:Int)=((5:Nat):Int) from rfl,zll]
  have hm2:((k:Int)+3).fmod 5=(((k+3) % 5:Nat):Int):=by rw[show(5:Int)=((5:Nat):Int) from rfl,show(k:Int)+3=((k+3:Nat):Int) by push_cast;rfl,zll]
  have hi1:k % 5<(zdk sc k).length:=by rw[hl];exact O9 _ (by decide)
  refine Wx.augSub (k:=((k % 5:Nat):Int)) (d0:= .int ((zdk sc k).getD (k % 5) 0)) 1 0 rfl rfl rfl hR ((G4 (B4 2 rfl rfl) D5 (zfs (by decide))).eq (by rw[hm1])) (by omega) (by rw[C0];exact getD_some hi1) (by rw[B5,hl];decide)
   (G4 (O1 (B4 0 rfl rfl) (B4 2 rfl rfl) (T6 (d:= .int x) (by omega) (by rw[C0,B7,hxk];rfl) (by rw[B5];omega))) D5 (zfs (by decide))) Ip.add ?_
  rw[C0,zr7];generalize hc1:(zdk sc k).set (k % 5) ((zdk sc k).getD (k % 5) 0+x.fmod 1000000)=c1;have hl1:c1.length=5:=by rw[<-hc1,zpq,hl]
  have hi2:(k+3) % 5<c1.length:=by rw[hl1];exact O9 _ (by decide)
  refine Wx.augSub (k:=(((k+3) % 5:Nat):Int)) (d0:= .int (c1.getD ((k+3) % 5) 0)) 1 0 rfl rfl rfl hR ((G4 (G4 (B4 2 rfl rfl) D5 zav) D5 (zfs (by decide))).eq (by rw[hm2])) (by omega) (by rw[C0];exact getD_some hi2) (by rw[B5,hl1];decide)
   (G4 (G4 (O1 (B4 0 rfl rfl) (B4 2 rfl rfl) (T6 (d:= .int x) (by omega) (by rw[C0,B7,hxk];rfl) (by rw[B5];omega))) D5 (Bi.div (by decide) (P3 (by decide)))) D5 (zfs (by decide))) Ip.add ?_
  rw[C0,zr7];refine zbw λ s F=>⟨trivial,?_⟩;have ek:zdk sc (k+1)=c1.set ((k+3) % 5) (c1.getD ((k+3) % 5) 0+(x.fdiv 1000000).fmod 1000000):=by
   rw[zmc hxk,<-hc1];rfl
  rw[ek];exact F.weak (wkS (wkS (wkN wkE)))
 ·rw[show(Q3 0 ((min 60 sc.length:Nat):Int).toNat).length=min 60 sc.length by simp[Q3]]
  exact za3 (zed 1 rfl rfl A9) λ v s F r=>⟨F.go,r⟩
noncomputable def zui (n:Nat):List (Nat×Int)->Int
 |[]=>0
 |p::r=>p.2*2^(n*p.1)+zui n r
noncomputable abbrev prD (l:List (Nat×Int)):List D:=l.map λ p=> .tup [.int p.1,.int p.2]
noncomputable def yhh:D->D
 | .tup (a::_)=>a
 |_=> .none
noncomputable def ziw (ds:List Int)(p:Nat×Int):List Int:=ds.set p.1 (ds.getD p.1 0+p.2)
theorem zqz (ds:List Int)(p:Nat×Int):(ziw ds p).length=ds.length:=by simp[ziw]
theorem zsc (l:List (Nat×Int)): ∀(ds:List Int),(l.foldl ziw ds).length=ds.length:=by
 induction l with
 |nil=>exact λ ds=>rfl
 |cons p r ih=>exact λ ds=>(ih _).trans (zqz ds p)
theorem zvh (n:Nat)(ds:List Int): ∀(i:Nat) (x:Int),i<ds.length->V4 n (ds.set i (ds.getD i 0+x))=V4 n ds+x*2^(n*i):=by
 induction ds with
 |nil=>exact λ i x h=>absurd h (zq3 _)
 |cons d r ih=>
  intro i x h
  cases i with
  |zero=>
   show V4 n r*2^n+(d+x)=V4 n r*2^n+d+x*1;rw[zfq,zbd]
  |succ i=>
   show V4 n (r.set i (r.getD i 0+x))*2^n+d=V4 n r*2^n+d+x*2^(n*i+n);rw[ih i x (zix h),zh2,W8,<-yay,yb0]
theorem zub (n:Nat)(l:List (Nat×Int)): ∀(ds:List Int),(∀p∈l,p.1<ds.length)->V4 n (l.foldl ziw ds)=V4 n ds+zui n l:=by
 induction l with
 |nil=>exact λ ds h=>(zab _).symm
 |cons p r ih=>
  intro ds h;refine(ih _ (λ q hq=>by rw[zqz];exact h q (B1 _ hq))).trans ?_
  show V4 n (ds.set p.1 (ds.getD p.1 0+p.2))+zui n r=V4 n ds+(p.2*2^(n*p.1)+zui n r);rw[zvh n ds p.1 p.2 (h p A9),zbd]
theorem zno (n k:Nat):V4 n (C1 k 0)=0:=by
 induction k with
 |zero=>rfl
 |succ k ih=>show V4 n (C1 k 0)*2^n+0=0;rw[ih,zco];rfl
theorem zot (l:List (Nat×Int)): ∀(ds:List Int) (X:Nat),(∀d∈ds,d.natAbs<=X)-> ∀d∈l.foldl ziw ds,d.natAbs<=X+(l.map λ p=>p.2.natAbs).sum:=by
 induction l with
 |nil=>exact λ ds X h=>h
 |cons p r ih=>
  intro ds X h d hd;rw[E5,H7,<-W7];refine ih (ziw ds p) (X+p.2.natAbs) (λ e he=>?_) d hd;unfold ziw at he;rcases zrk he with q|q
  ·exact Nat.le_add_right_of_le (h e q)
  ·have:(ds.getD p.1 0).natAbs<=X:=by
    rcases O3 p.1 ds.length with hl|hl
    ·exact h _ (by rw[C8,B3 hl];exact Q6 hl)
    ·rw[C8,H9 hl];exact Q7 _
   rw[q];exact A7 (zd0 _ _) (G3 this _)
noncomputable def FNum:Fd where
 f:=300
 c:=299
 fd:=yfb
 ps:=["pairs","width"]
 nm:=["pairs","width","digits","place","amount"]
 kl:=[false,false,false,false,false]
 gn:=[("_digits2int",.ref 94),("max",.builtin "max")]
theorem yf1:Fok G0 FNum:=zgb (gi:=[5]) (bj:=[7]) rfl (by decide+kernel) (A6 (i:=22) rfl) (A6 (i:=22) rfl) rfl rfl ⟨rfl,rfl,rfl,rfl,rfl,rfl⟩
 (all2 λ a b=>rfl)
theorem zqg {w:E3}{n B:Nat}{l:List (Nat×Int)}(hn0:0<n)(hnb:n<=20000)(hB:B<=1000000)(hne:l≠[])(hl:l.length<=1000)(hp: ∀p∈l,p.1<=100)(hb:(l.map λ p=>p.2.natAbs).sum<2^B):
 FnG true G0 w 110 300 [.lst (prD l),.int n] (.int (zui n l)):=by
 refine Fn.intro FNum yf1 (by omega) rfl λ A env bs Ks lv hlv hh hsc E=>?_
 have hsl:H5=16777216:=by decide
 have hpl:((prD l).filter λ z=>true).map yhh=izD (l.map λ p=>(p.1:Int)):=by
  rw[Q5];unfold izD;rw[E6,E6];rfl
 obtain⟨M,hM⟩: ∃M:Nat,zrs (l.map λ p=>(p.1:Int))=M:=by
  have:=zja (l.map λ p=>(p.1:Int)) (by simpa using hne)
  obtain⟨p,_,e⟩:=C5.mp this;exact⟨p.1,e.symm⟩
 have hM1: ∀p∈l,p.1<=M:=λ p hp'=>by
  have:=zly (l.map λ p=>(p.1:Int)) p.1 (I4 hp');rw[hM] at this;omega
 have hM2:M<=100:=by
  have:=zja (l.map λ p=>(p.1:Int)) (by simpa using hne)
  rw[hM] at this;obtain⟨p,h1,h2⟩:=C5.mp this;have:=hp p h1;omega
 refine Wx.own (ds:=izD (C1 (M+1) 0)) 2 (show 2<5 by decide) rfl ?_ λ R hR=>?_
 ·have e:izD (C1 (M+1) 0)=(C1 ((M:Int)+1).toNat [D.int 0]).flatten:=by
   rw[show((M:Int)+1).toNat=M+1 by omega,zp5];simp
  rw[e];refine Nl.bin (X1 (B8 D5 D9)).ev (G4 ((ze4 (hh rfl) (G7 1 rfl) (B8 ((za9 (lo:=["pair"]) (kx:=[false]) (fr:=[]) (λ z=>true) yhh (zbu (gj:=[]) (by show zii FNum.nm FNum.kl (FNum.gn.map (·.1)) _ _ _ _ _=true;decide+kernel)) (zgr (hh rfl) (B4 0 rfl rfl) zec) rfl (by rw[B5];omega) ?_).ev.eq (by rw[hpl])) D9) (Bh.maxL (by simpa using hne))).eq (by rw[hM])) D5 zav) (Bn.mul (l:=[.int 0]) (by omega) (by omega) (by simp;omega))
  intro L b d hd Da acc fx gs;obtain⟨p,_,rfl⟩:=C5.mp hd;exact⟨zc8,λ z=>O1 (B4 0 rfl rfl) D5 (Gi.tup (by decide) rfl (by simp))⟩
 have hln: ∀k,((l.take k).foldl ziw (C1 (M+1) 0)).length=M+1:=λ k=>by rw[zsc];simp
 refine zni (zgr (hh rfl) (B4 0 rfl rfl) zec) (λ k=>[(R,izD ((l.take k).foldl ziw (C1 (M+1) 0)))]) (λ k=>[some (.lst (prD l)),some (.int n),some (.ptr R),none,none]) (λ z=>True) rfl rfl trivial (λ k=>rfl) (λ k d hd z fx gn=>?_) λ z=>?_
 ·rw[B7] at hd
  cases e:l[k]? with
  |none=>rw[e] at hd;cases hd
  |some p=>
   rw[e] at hd;cases hd;have hpm:=hM1 p (A6 e);refine⟨_,zgp hh 3 4 (show 3<5 by decide) rfl (show 4<5 by decide) rfl,?_⟩
   have ek:(l.take (k+1)).foldl ziw (C1 (M+1) 0)=ziw ((l.take k).foldl ziw (C1 (M+1) 0)) p:=by rw[P4,e];simp[zb3]
   have hk1:=hln k;refine Wx.augSub (k:=(p.1:Int)) (d0:= .int (((l.take k).foldl ziw (C1 (M+1) 0)).getD p.1 0)) 2 0 rfl rfl rfl hR (B4 3 rfl rfl) (by omega) (by rw[C0];exact getD_some (by omega)) (by rw[B5,hk1];omega) (B4 4 rfl rfl) Ip.add ?_
   rw[C0,zr7];refine zbw λ s F=>⟨trivial,?_⟩;rw[ek];exact F.weak (wkS (wkS (wkS (wkN (wkN wkE)))))
 ·rw[B5,V5]
  have hu:V4 n (l.foldl ziw (C1 (M+1) 0))=zui n l:=by
   rw[zub n l _ (λ p hp'=>by rw[zd1];have:=hM1 p hp';omega),zno];omega
  have hll:=hln l.length;rw[V5] at hll;have cd:=zf0 (w:=w) (n:=n) (B:=B) (ds:=l.foldl ziw (C1 (M+1) 0)) hn0 hnb hB (by omega) (λ d hd=>by
   have:=zot l (C1 (M+1) 0) 0 (λ d hd=>by rw[X7 hd];simp) d hd
   omega)
  rw[hu] at cd;exact za3 (U5 (G7 0 rfl) (B8 (zed 2 rfl rfl A9) (B8 (B4 1 rfl rfl) D9)) cd (A6 (i:=3) rfl) (by show _<=lv+1;omega) (λ h=>by cases h)) λ v s F r=>⟨F.go,r⟩
section
open PySem.Sre PySem.Builtin.Re
structure IsPat (h:P9)(p:Addr)(cp:List Int):Prop where
 ob: ∃x t fl ft cd n,h.get? p=some (zh8 x t fl ft cd)/\h.get? cd=some (R4 (zet cp) n)
theorem IsPat.ty {s:A8}{p:Addr}{cp:List Int}(h:IsPat s.heap p cp):s.TypeIs (.ref p) "re.Pattern":=by
 obtain⟨x,t,fl,ft,cd,n,h1,h2⟩:=h.ob;exact⟨_,h1,rfl⟩
theorem zs3 (cp:List Int):((zet cp).toArray.map reRawOf).map (·.toNat)=(cp.map N7).toArray:=by
 have: ∀l:List Int,(zet l).map reRawOf=l:=by
  intro l
  induction l with
  |nil=>rfl
  |cons a r ih=>simp only[zet,E5] at ih ⊢;rw[ih];rfl
 rw[zn8,zn8,this]
section
variable{w:E3}{A:H2}{E:Value->A8->Prop}{s:A8}
theorem zh5 {cd:Addr}{cp:List Int}{n:Nat}{Q:Array Int->A8->Prop}(h:s.heap.get? cd=some (R4 (zet cp) n))(k:Q ((zet cp).toArray.map reRawOf) s):D0 (D1 pw w) A (reRawItems (.ref cd)) Q E s:=by
 unfold reRawItems;refine B0 (zrp h rfl ?_);exact C4 k
theorem zku {x:Str}{t:Tok}{Q:Array Nat×Nat->A8->Prop}(k:Q (x.cps,0) s):D0 (D1 pw w) A (reTextOf (.str x t)) Q E s:=by
 unfold reTextOf;exact B0 (C4 (C4 k))
theorem zpt {p:Addr}{cp:List Int}{x:Str}{t:Tok}{id f:String}(hp:IsPat s.heap p cp)(hx:x.length<=16777216){Q:ReTarget->A8->Prop}
 (k:Q {pattern:= .ref p,string:= .str x t,code:=(cp.map N7).toArray,text:=x.cps,kind:=0,groups:=0,pos:=0,lim:=x.cps.size} s)
 (hn:reNamed id f ["string","pos","endpos"] 1 [.str x t] []=pure [some (.str x t),none,none]):D0 (D1 pw w) A (reTarget id f ⟨[.ref p,.str x t],[]⟩) Q E s:=by
 obtain⟨u,tu,fl,ft,cd,n,h1,h2⟩:=hp.ob;unfold reTarget
 dsimp only
 rw[hn];refine B0 (C4 ?_);refine B0 (C4 ?_);refine B0 (C4 ?_);refine B0 (wpAny_fieldsOf h1 rfl ?_);refine B0 (zku ?_);refine B0 (C4 ?_);refine B0 (zh5 h2 ?_);refine C4 ?_;rw[zs3];have e1:min ((2^63-1:Int).toNat) x.cps.size=x.cps.size:=by
  have:x.cps.size<=16777216:=hx;rw[zh9];exact A7 this (by decide)
 rw[e1];exact k
theorem zie {code text:Array Nat}{lim body K pos:Nat}{Mt:Nat->Option Nat}(p:Prog code text lim body K Mt)(hp:pos<=lim)(hb:(header code).2=body)(h0:body≠0)(hl:(header code).1=1)(hK:K<=100)(hz:lim<=16777216)
 {Q:Option M->A8->Prop}
 (k1: ∀b e m',pos<=b->b<=lim->Mt b=some e->(∀q,pos<=q->q<b->Mt q=none)->m'.start=b->m'.handed=e->m'.lastmark= -1->m'.marks= #[]->Q (some m') s)
 (k0:(∀q,pos<=q->Mt q=none)->Q none s):D0 (D1 pw w) A (reRunToEnd (zc9 code text 0 pos lim false)) Q E s:=by
 obtain⟨k,hk,hs⟩:=p.search hp hb h0 hl;have hB:k<=4*1000000000000:=by
  have:(lim+1)*(K+2)<=16777217*102:=S4 (by omega) (by omega)
  omega
 rcases hs with⟨b,e,h1,h2,h3,h4,h5,h6,h7,h8,h9⟩|⟨h1,h2⟩
 ·have hr:(zc9 code text 0 pos lim false).runFor (4*1000000000000)=(zc9 code text 0 pos lim false).runFor k:=by
   have:4*1000000000000=k+(4*1000000000000-k):=by omega
   rw[this,zhh,zfy (by rw[h5];rfl)]
  exact zon hr (by decide) h5 (k1 b e _ h1 h2 h3 h4 h6 h7 h8 h9)
 ·have hr:(zc9 code text 0 pos lim false).runFor (4*1000000000000)=(zc9 code text 0 pos lim false).runFor k:=by
   have:4*1000000000000=k+(4*1000000000000-k):=by omega
   rw[this,zhh,zfy (by rw[h2];rfl)]
  exact zp6 hr (by decide) h2 (k0 h1)
theorem zm5 {m:M}{pt st:Value}{pos lim:Nat}(h1:m.lastmark= -1){Q:Value->A8->Prop}
 (k: ∀b1 b2 vs,Q (.ref (s.heap.objs.size+1)) {s with heap:=(s.heap.push (R4 [I6 b1,I6 b2] 0)).push {cls:= .type "re.Match",data:= .fields vs}}):D0 (D1 pw w) A (reNewMatch pt st 0 pos lim m) Q E s:=by
 show D0 _ _ (zr4 [I6 m.start,I6 m.handed] >>= λ t=>newFields "re.Match" [st,pt,I6 pos,I6 lim,I6 m.lastindex,t]) _ _ _;refine B0 (wpAny_newTuple ?_ (by simp[zbf]))
 unfold newFields;refine zah ?_ (by simp[sizeOk,zbf])
 have:=k m.start m.handed #[st,pt,I6 pos,I6 lim,I6 m.lastindex,.ref s.heap.objs.size];have e:(s.heap.push (R4 [I6 m.start,I6 m.handed] 0)).objs.size=s.heap.objs.size+1:=ze5 ..;rw[<-e] at this;exact this
theorem zkv {p:Addr}{cp:List Int}{x:Str}{t:Tok}{body K:Nat}{Mt:Nat->Option Nat}(hp:IsPat s.heap p cp)(hx:x.length<=16777216)
 (pr:Prog (cp.map N7).toArray x.cps x.cps.size body K Mt)(hb:(header (cp.map N7).toArray).2=body)(h0:body≠0)(hl:(header (cp.map N7).toArray).1=1)(hK:K<=100)
 {Q:Value->A8->Prop}
 (k1: ∀b e b1 b2 vs,Mt b=some e->Q (.ref (s.heap.objs.size+1)) {s with heap:=(s.heap.push (R4 [I6 b1,I6 b2] 0)).push {cls:= .type "re.Match",data:= .fields vs}})
 (k0:(∀q,Mt q=none)->Q .none s):D0 (D1 pw w) A (call (.builtin "re.Pattern.search") [.ref p,.str x t]) Q E s:=by
 refine zd3 ze1 hp.ty zma ?_ (znh _ _);unfold zcp.«re.Pattern.search»;refine B0 (zpt hp hx ?_ rfl);unfold reAnswer;refine B0 (zie pr (Q7 _) hb h0 hl hK hx ?_ ?_)
 ·intro b e m' h1 h2 h3 h4 h5 h6 h7 h8
  refine B0 (zm5 h7 λ b1 b2 vs=>?_);exact C4 ⟨_,rfl,k1 b e b1 b2 vs h3⟩
 ·intro hq
  exact C4 ⟨_,rfl,k0 λ q=>hq q (Q7 _)⟩
theorem zky:Z3 (.type "re.Match") "__bool__"=pure none:=by rw[R0,L3];kernel_rfl
theorem zl7:Z3 (.type "re.Match") "__len__"=pure none:=by rw[R0,L3];kernel_rfl
theorem zi8 {a:Addr}{Q:Bool->A8->Prop}(hT:s.TypeIs (.ref a) "re.Match")(k:Q true s):D0 (D1 pw w) A (zrr (.ref a)) Q E s:=by
 unfold zrr
 first
  |refine B0 (zyk (name:=G9 "__bool__") hT zky ?_)
  |refine B0 (C4 (B0 (zyk (name:=G9 "__bool__") hT zky ?_)))
 first
  |refine B0 (Y0 (name:=G9 "__len__") hT zl7 ?_)
  |refine B0 (C4 (B0 (Y0 (name:=G9 "__len__") hT zl7 ?_)))
 exact C4 k
end
inductive Subs (Mt:Nat->Option Nat)(text:Array Nat)(r:Str):Nat->List Str->Prop
 |stop {s:Nat}:(∀q,s<=q->Mt q=none)->Subs Mt text r s (if s<text.size then[⟨text.extract s text.size⟩] else[])
 |next {s b e:Nat} {l:List Str}:s<=b->b<e->e<=text.size->Mt b=some e->(∀q,s<=q->q<b->Mt q=none)->Subs Mt text r e l->
  Subs Mt text r s ((if s<b then[⟨text.extract s b⟩] else[])++r::l)
section
variable{w:E3}{A:H2}{E:Value->A8->Prop}
theorem zcq {s:A8}{p:Addr}{cp:List Int}{x:Str}{t:Tok}(hp:IsPat s.heap p cp){Q:ReTarget->A8->Prop}
 (k:Q {pattern:= .ref p,string:= .str x t,code:=(cp.map N7).toArray,text:=x.cps,kind:=0,groups:=0,pos:=0,lim:=x.cps.size} s):
 D0 (D1 pw w) A (reWholeTarget (.ref p) (.str x t)) Q E s:=by
 obtain⟨u,tu,fl,ft,cd,n,h1,h2⟩:=hp.ob;unfold reWholeTarget;refine B0 (wpAny_fieldsOf h1 rfl ?_);refine B0 (zku ?_);refine B0 (C4 ?_);refine B0 (zh5 h2 ?_);refine C4 ?_;rw[zs3];exact k
structure Pcs (L:Addr)(s0 s:A8)(ps:List (Str×Tok)):Prop where
 li: ∃n,s.heap.get? L=some (M8 (zih ps) n)
 bt: ∀a,a≠L->s.heap.get? a=s0.heap.get? a
 sz:s.heap.objs.size=s0.heap.objs.size
 gn:s.gens=s0.gens
 os:s.os=s0.os
theorem Pcs.toks {L:Addr}{s0 s:A8}{ps:List (Str×Tok)}(h:Pcs L s0 s ps)(t:Nat):Pcs L s0 {s with toks:=t} ps:=⟨h.li,h.bt,h.sz,h.gn,h.os⟩
theorem Pcs.pat {L:Addr}{s0 s:A8}{ps:List (Str×Tok)}(h:Pcs L s0 s ps){p:Addr}{cp:List Int}(hL: ∀o,s0.heap.get? L=some o->o.cls= .type "list")(hp:IsPat s0.heap p cp):IsPat s.heap p cp:=by
 obtain⟨u,tu,fl,ft,cd,n,h1,h2⟩:=hp.ob;refine⟨u,tu,fl,ft,cd,n,?_,?_⟩
 ·rw[h.bt p (λ e=>by rw[e] at h1;exact absurd (zhu (hL _ h1)) (by decide))];exact h1
 ·rw[h.bt cd (λ e=>by rw[e] at h2;exact absurd (zhu (hL _ h2)) (by decide))];exact h2
theorem zez {L:Addr}{s0 s:A8}{ps:List (Str×Tok)}{y:Str}{t:Tok}{Q:Unit->A8->Prop}(h:Pcs L s0 s ps)(hz:ps.length<=16777000)
 (k: ∀s',Pcs L s0 s' (ps++[(y,t)])->s'.toks=s.toks->Q () s'):D0 (D1 pw w) A (updateSeq L (·.push (.str y t))) Q E s:=by
 obtain⟨n,hl⟩:=h.li;have hlen:(zih ps).toArray.size=ps.length:=by simp[zih]
 have hsz:(16777216:Nat)=zbf:=by decide
 refine wpAny_updateSeq hl rfl (k _ ⟨⟨n+1,?_⟩,?_,?_,?_,?_⟩ rfl) (by rw[hlen];omega) (by rw[ze5,hlen];omega)
 ·rw[Y9 _ hl rfl]
  have:(((zih ps).toArray.push (.str y t)).size==(zih ps).toArray.size)=false:=by rw[ze5];simp
  show some (Obj.mk _ _ (.seq _ _) _)=_;rw[this];simp[M8,zih]
 ·intro a ha
  exact(Heap.get?_update_ne _ _ _ _ ha).trans (h.bt a ha)
 ·rw[<-h.sz];exact zlr ..
 ·exact h.gn
 ·exact h.os
theorem ztb (a b:List Str):L9 "" (a++b)=L9 "" a++L9 "" b:=by
 have e: ∀(x:Str),x++("":Str)=x:=λ x=>by show ybr (x.cps++ #[])=x;rw[Array.append_empty]
 have c: ∀(x:Str) (l:List Str),L9 "" (x::l)=x++L9 "" l:=by
  intro x l
  cases l with
  |nil=>exact(e x).symm
  |cons y l=>show x++("":Str)++L9 "" (y::l)=_;rw[e]
 induction a with
 |nil=>
  show L9 "" b=ybr (#[]++(L9 "" b).cps);rw[Array.empty_append]
 |cons x r ih=>
  rw[N9,c,c,ih];show ybr (_++(_++_))=ybr (_++_++_);rw[zye]
theorem ycy {L:Addr}{s0 s:A8}{ps:List (Str×Tok)}{tj:Tok}{Q:Value->A8->Prop}(h:Pcs L s0 s ps)(hz:(L9 "" (ps.map (·.1))).length<=16777216)
 (k: ∀tk s',Pcs L s0 s' ps->Q (.str (L9 "" (ps.map (·.1))) tk) s'):D0 (D1 pw w) A (call (.builtin "str.join") [.str "" tj,.ref L]) Q E s:=by
 obtain⟨n,hl⟩:=h.li;have hsz:zbf=16777216:=by decide
 have sl:(L9 "" (ps.map (·.1))).length=((ps.map (·.1)).map (·.length)).sum:=by
  generalize ps.map (·.1)=l
  induction l with
  |nil=>rfl
  |cons y l ih=>
   rw[show y::l=[y]++l from rfl,ztb]
   show(y.cps++(L9 "" l).cps).size=_;rw[zms];show y.length+(L9 "" l).length=_;rw[ih];simp
 have htl:R2 ((ps.map (·.1)).toArray.foldl (λ a p=>a+p.length+("":Str).length) 0)=false:=by
  rw[StrLaws.joinTotal,<-sl];unfold R2;have e0:("":Str).length=0:=rfl;rw[e0,zgh];exact decide_eq_false (by omega)
 refine zel U2 (zbt s "" tj) zrh (zq0 _ _) (meets_str_join_list "" tj L ps htl) ⟨(zho _ n).isList hl,?_⟩;rw[<-zhv] at k;have hf:=hz;rw[<-zhv] at hf
 match ps,h,k,hf with
 |[p],h,k,hf=>exact k p.2 s h
 |[],h,k,hf=>exact⟨by omega,k s.toks _ (h.toks _)⟩
 |a::b::r,h,k,hf=>exact⟨by rw[hsz];exact hf,k s.toks _ (h.toks _)⟩
noncomputable def zvn (L:Addr)(x:Str)(n:Int):Sem Fin:=do
 let joiner <-reSlice x.cps 0 0 0
 let it <-seqItems? (.ref L)
 if(it.getD #[]).isEmpty=true then do
    let text <-pure joiner
    if false=true then do
     let d <-zkz [text] do
      let i <-mkInt n
      zr4 [text,i]
     ret d
     else ret text
  else do
   let text <-call (.builtin (if(0==0)=true then "str.join" else "bytes.join")) [joiner,.ref L]
   if false=true then do
    let d <-zkz [text] do
     let i <-mkInt n
     zr4 [text,i]
    ret d
    else ret text
theorem zs0 {L:Addr}{x:Str}{n:Int}{s0 st:A8}{ps:List (Str×Tok)}(P:Pcs L s0 st ps){out:Str}(e:L9 "" (ps.map (·.1))=out)(ho:out.length<=16777216){R:zuy->A8->Prop}{A':H2}
 (k: ∀tk s' ps',Pcs L s0 s' ps'->R (.ok (.ret (.str out tk))) s'):
 D0 (D1 pw w) A.in1 (zvn L x n) (λ fin s'=>match fin with| .done f=>R (.ok f) s'| .again c'=>c'.quiet=true/\zek (D1 pw w) A' c' R s') (λ e s'=>R (.error e) s') st:=by
 subst e;have hsz:zbf=16777216:=by decide
 obtain⟨n',hl'⟩:=P.li;unfold zvn;refine B0 ?_;unfold reSlice;refine wpAny_mkStr ?_ (by rw[hsz];show(x.cps.extract 0 0).size<=_;simp)
 refine B0 (zrp hl' rfl ?_);have ej:(⟨x.cps.extract 0 0⟩:Str)= "":=by
  show ybr _=ybr #[];congr 1;simp
 rw[ej]
 cases ps with
 |nil=>exact B0 (C4 (C4 (k _ _ [] (P.toks _))))
 |cons a rr=>
  refine B0 (ycy (P.toks _) ho λ tk s' P''=>?_);exact C4 (k _ _ _ P'')
theorem zs1 {L p:Addr}{x r:Str}{t tr:Tok}{n:Int}{b e:Nat}{s0 st:A8}{ps:List (Str×Tok)}(P:Pcs L s0 st ps)(hz:ps.length<=16777000)(hbe:b<e){R:zuy->A8->Prop}
 (k: ∀st',Pcs L s0 st' (ps++[(r,tr)])->zek (D1 pw w) A (.builtin "re.Pattern.sub.loop" ⟨[.ref p,.str x t,.str r tr,I6 0,I6 0,I6 (n+1),I6 e,I6 e,.bool false,.ref L,.bool false],[]⟩) R st'):
 D0 (D1 pw w) A.in1 (do
  let item <-pure (za7 r tr)
  if(item != M7)=true then do
     updateSeq L λ x=>x.push item
     again (Code.builtin "re.Pattern.sub.loop" {pos:=[N0 p,za7 x t,za7 r tr,I6 0,I6 0,I6 (n+1),I6 ↑e,I6 ↑e,zem (e==b),N0 L,zem false]})
   else
    again (Code.builtin "re.Pattern.sub.loop" {pos:=[N0 p,za7 x t,za7 r tr,I6 0,I6 0,I6 (n+1),I6 ↑e,I6 ↑e,zem (e==b),N0 L,zem false]}))
  (λ fin s'=>match fin with| .done f=>R (.ok f) s'| .again c'=>c'.quiet=true/\zek (D1 pw w) A c' R s') (λ e s'=>R (.error e) s') st:=by
 refine B0 (C4 ?_);refine B0 (zez P hz λ s' P' z=>?_);have hf:(e==b)=false:=by simpa using(by omega:e≠b)
 rw[hf];exact C4 ⟨plainId_quiet zdq _,k s' P'⟩
theorem zyx {p L:Addr}{cp:List Int}{x r:Str}{t tr:Tok}{body K:Nat}{Mt:Nat->Option Nat}(pr:Prog (cp.map N7).toArray x.cps x.cps.size body K Mt)
 (hb:(header (cp.map N7).toArray).2=body)(h0:body≠0)(hl:(header (cp.map N7).toArray).1=1)(hK:K<=100)(hx:x.length<=1000000)
 {s0:A8}(hp:IsPat s0.heap p cp)(hL: ∀o,s0.heap.get? L=some o->o.cls= .type "list"){R:zuy->A8->Prop}:
 ∀(s:Nat) (l:List Str),Subs Mt x.cps r s l->s<=x.cps.size-> ∀(ps:List (Str×Tok)) (st:A8) (n:Int),Pcs L s0 st ps->ps.length+l.length<=16777000->(L9 "" (ps.map (·.1)++l)).length<=16777216->
  (∀tk s' ps',Pcs L s0 s' ps'->R (.ok (.ret (.str (L9 "" (ps.map (·.1)++l)) tk))) s')->
  zek (D1 pw w) A (.builtin "re.Pattern.sub.loop" ⟨[.ref p,.str x t,.str r tr,I6 0,I6 0,I6 n,I6 s,I6 s,.bool false,.ref L,.bool false],[]⟩) R st:=by
 have hx':x.cps.size<=1000000:=hx;have hsz:zbf=16777216:=by decide
 intro s l hs
 induction hs with
 | @stop s hn=>
   intro hsx ps st n P hlen hjl k;refine zqs zjp ?_;rw[zu3 zdq _];unfold zcp.«re.Pattern.sub.loop»
   dsimp only
   refine B0 (zcq (P.pat hL hp) ?_);refine B0 (C4 ?_);refine B0 (zie pr hsx hb h0 hl hK (by omega) ?_ ?_)
   ·intro b e m' h1 h2 h3 h4 h5 h6 h7 h8
    rw[hn b h1] at h3;cases h3
   intro hq
   dsimp only
   rw[C0];by_cases hlt:s<x.cps.size
   ·rw[if_pos hlt] at hjl k hlen ⊢
    refine B0 ?_;refine wpAny_mkStr (s:=st) ?_ (by rw[hsz];show(x.cps.extract s x.cps.size).size<=_;rw[zyd];omega)
    refine B0 (zez (P.toks _) (by simp at hlen;omega) λ s' P' z=>?_)
    exact zs0 P' (by rw[J2];rfl) hjl k
   ·rw[if_neg hlt] at hjl k ⊢
    rw[S0] at hjl k;exact zs0 P rfl hjl k
 | @next s b e l h1 h2 h3 h4 h5 hs ih=>
   intro hsx ps st n P hlen hjl k;refine zqs zjp ?_;rw[zu3 zdq _];unfold zcp.«re.Pattern.sub.loop»
   dsimp only
   refine B0 (zcq (P.pat hL hp) ?_);refine B0 (C4 ?_);refine B0 (zie pr hsx hb h0 hl hK (by omega) ?_ ?_)
   ·intro b' e' m' h1' h2' h3' h4' h5' h6' h7' h8'
    dsimp only
    have hbb:b'=b:=by
     by_cases ha:b'<b
     ·rw[h5 b' h1' ha] at h3';cases h3'
     ·by_cases hc:b<b'
      ·rw[h4' b h1 hc] at h4;cases h4
      ·omega
    subst hbb;rw[h4] at h3';cases h3';rw[h5',h6',C0];by_cases hlt:s<b'
    ·rw[if_pos hlt] at hjl k hlen ⊢
     refine B0 ?_;refine wpAny_mkStr (s:=st) ?_ (by rw[hsz];show(x.cps.extract s b').size<=_;rw[zyd];omega)
     refine B0 (zez (P.toks _) (by simp at hlen;omega) λ s' P' z=>?_)
     refine zs1 P' (by simp at hlen ⊢;omega) h2 λ s'' P''=>?_
     have ee:((ps++[((⟨x.cps.extract s b'⟩:Str),st.toks)])++[(r,tr)]).map (·.1)++l=ps.map (·.1)++([(⟨x.cps.extract s b'⟩:Str)]++r::l):=by simp
     exact ih h3 _ s'' (n+1) P'' (by simp at hlen ⊢;omega) (by rw[ee];exact hjl) (by rw[ee];exact k)
    ·rw[if_neg hlt] at hjl k hlen ⊢
     refine zs1 P (by simp at hlen ⊢;omega) h2 λ s'' P''=>?_
     have ee:(ps++[(r,tr)]).map (·.1)++l=ps.map (·.1)++([]++r::l):=by simp
     exact ih h3 _ s'' (n+1) P'' (by simp at hlen ⊢;omega) (by rw[ee];exact hjl) (by rw[ee];exact k)
   ·intro hq
    rw[hq b h1] at h4;cases h4
end
theorem zuj:Z3 (.type "str") "__call__"=pure none:=by rw[R0,L3];kernel_rfl
structure Makes (Mt:Nat->Option Nat)(text:Array Nat)(r:Str)(G:Nat->List Nat):Prop where
 skip: ∀q c,text[q]? =some c->Mt q=none->G q=c::G (q+1)
 hit: ∀q e,Mt q=some e->q<e/\e<=text.size/\G q=r.cps.toList++G e
 stop: ∀q,text.size<=q->Mt q=none/\G q=[]
theorem Subs.len {Mt:Nat->Option Nat}{text:Array Nat}{r:Str}{s:Nat}{l:List Str}(h:Subs Mt text r s l):s<=text.size->l.length<=2*(text.size-s)+1:=by
 induction h with
 | @stop s hn=>intro _;split<;>simp
 | @next s b e l h1 h2 h3 h4 h5 _ ih=>
   intro hs;have hse:=C2 h1 h2;have k:l.length+1<=2*(text.size-s):=A7 (G3 (ih h3) 1) (by rw[<-Nat.sub_add_sub_cancel h3 (K3 hse),R6];exact Q2 (G6 2 (zdv hse)) _)
   split<;>simp
   ·exact k
   ·exact zdw k
theorem zki (x:Str)(l:List Str):(L9 "" (x::l)).cps.toList=x.cps.toList++(L9 "" l).cps.toList:=by
 rw[show x::l=[x]++l from rfl,ztb]
 show(x.cps++(L9 "" l).cps).toList=_;rw[zch]
theorem Makes.subs {Mt:Nat->Option Nat}{text:Array Nat}{r:Str}{G:Nat->List Nat}(m:Makes Mt text r G): ∀(n p s:Nat),text.size-p<=n->s<=p->p<=text.size->(∀q,s<=q->q<p->Mt q=none)->
 ∃l,Subs Mt text r s l/\(L9 "" l).cps.toList=(text.extract s p).toList++G p:=by
 intro n
 induction n with
 |zero=>
  intro p s hn hs hp hq;have e:p=text.size:=Nat.le_antisymm hp (zdl.mp (Nat.le_zero.mp hn));subst e;refine⟨_,.stop (λ q h=>?_),?_⟩
  ·by_cases h':q<text.size
   ·exact hq q h h'
   ·exact(m.stop q (D7.mp h')).1
  ·rw[(m.stop _ (D2 _)).2,S0]
   split
   ·rfl
   ·have:s=text.size:=by omega
    subst this;simp;rfl
 |succ n ih=>
  intro p s hn hs hp hq;by_cases hpe:p=text.size
  ·exact ih p s (by rw[hpe,Nat.sub_self];exact Q7 n) hs hp hq
  have hpl:=zad hp hpe
  cases hM:Mt p with
  |none=>
   obtain⟨c,hc⟩: ∃c,text[p]? =some c:=⟨text[p]'hpl,W1 hpl⟩;obtain⟨l,h1,h2⟩:=ih (p+1) s (yhb hn) (G5 hs) hpl (λ q ha hb=>by
    by_cases hqp:q=p
    ·rw[hqp];exact hM
    ·exact hq q ha (zad (zdx hb) hqp))
   refine⟨l,h1,?_⟩;rw[h2,m.skip p c hc hM];have hx:(text.extract s (p+1)).toList=(text.extract s p).toList++[c]:=by
    simp only[Array.toList_extract,List.extract_eq_take_drop];rw[show p+1-s=(p-s)+1 from Nat.succ_sub hs,P4,List.getElem?_drop]
    rw[show s+(p-s)=p from Nat.add_sub_cancel' hs]
    rw[show text.toList[p]? =some c by rw[zi1];exact hc]
    rfl
   rw[hx,J3];rfl
  |some e=>
   obtain⟨h1,h2,h3⟩:=m.hit p e hM;obtain⟨l,g1,g2⟩:=ih e e (yha hn h1) (D2 _) h2 (λ q ha hb=>absurd (C2 ha hb) (H8 e));refine⟨_,.next hs h1 h2 hM hq g1,?_⟩;rw[show(text.extract e e).toList=[] by simp,I2] at g2
   have hj:(L9 "" (r::l)).cps.toList=G p:=by rw[zki,g2,h3]
   split
   ·rw[show([(⟨text.extract s p⟩:Str)]++r::l)=(⟨text.extract s p⟩:Str)::(r::l) from rfl,zki,hj]
   ·have:s=p:=by omega
    subst this;rw[I2,hj];simp
section
variable{w:E3}{A:H2}{E:Value->A8->Prop}
theorem zvb {s:A8}{p:Addr}{cp:List Int}{x r:Str}{t tr:Tok}{body K:Nat}{Mt:Nat->Option Nat}(pr:Prog (cp.map N7).toArray x.cps x.cps.size body K Mt)
 (hb:(header (cp.map N7).toArray).2=body)(h0:body≠0)(hl:(header (cp.map N7).toArray).1=1)(hK:K<=100)(hx:x.length<=1000000)(hp:IsPat s.heap p cp)(hr:r.cps.contains 92=false)
 {G:Nat->List Nat}(m:Makes Mt x.cps r G)(hG:(G 0).length<=16777216){Q:Value->A8->Prop}(k: ∀tk s',Go s s'->Q (.str ⟨(G 0).toArray⟩ tk) s'):
 D0 (D1 pw w) A (call (.builtin "re.Pattern.sub") [.ref p,.str r tr,.str x t]) Q E s:=by
 have hx':x.cps.size<=1000000:=hx;obtain⟨l,hs,hj⟩:=m.subs _ 0 0 (D2 _) (D2 _) (Q7 _) (λ q z h=>absurd h (zq3 _));have hjl:L9 "" l=⟨(G 0).toArray⟩:=by
  have e1:(L9 "" l).cps=(G 0).toArray:=by
   apply znl.mp;rw[hj];simp
  rw[<-e1]
 refine zif (codeAny_call_builtin slot_re_sub.plain zqo (slot_re_sub.check _ _ _ _ _ _ _ _ hp.ty (zsl _ _ _) ?_));unfold zcp.«re.Pattern.sub» reSubstitute
 dsimp only
 rw[show reNamed "re.Pattern.sub" "sub" ["repl","string","count"] 2 [za7 r tr,za7 x t] []=pure [some (.str r tr),some (.str x t),none] from rfl]
 refine B0 (C4 ?_)
 dsimp only
 refine B0 (C4 ?_);refine B0 (Y0 (name:=G9 "__call__") (zbt s r tr) zuj ?_);refine B0 (B0 (C4 (C4 ?_)))
 dsimp only
 rw[hr];refine B0 (C4 ?_);refine B0 (C4 ?_);refine B0 (J8 (zcq hp ?_));refine B0 (zyh ?_ (by simp))
 refine C4 ⟨plainId_quiet zdq _,?_⟩;have hpu:IsPat (s.heap.push (M8 [] 0)) p cp:=by
  obtain⟨u,tu,fl,ft,cd,n,h1,h2⟩:=hp.ob;exact⟨u,tu,fl,ft,cd,n,C3 _ h1,C3 _ h2⟩
 have hnew:(s.heap.push (M8 [] 0)).get? s.heap.objs.size=some (M8 [] 0):=D8 _ rfl;have hlen:=hs.len (Q7 _);refine zyx (L:=s.heap.objs.size) (s0:={s with heap:=s.heap.push (M8 [] 0)}) pr hb h0 hl hK hx hpu (λ o e=>?_) 0 l hs (Q7 _) [] _ 0 ⟨⟨0,hnew⟩,λ z z=>rfl,rfl,rfl,rfl⟩ (by simp;omega) ?_ ?_
 ·have e':(s.heap.push (M8 [] 0)).get? s.heap.objs.size=some o:=e
  rw[hnew] at e';cases e';rfl
 ·show(L9 "" ([]++l)).length<=_
  rw[I2,hjl];show(G 0).toArray.size<=_;simpa using hG
 ·intro tk s' ps' P
  show Q _ s';rw[show(([]:List (Str×Tok)).map (·.1)++l)=l from rfl,hjl]
  refine k tk s' (Go.of (λ b o e=>?_) ?_ P.gn P.os)
  ·have hlt:=C6 e
   have hne:b≠s.heap.objs.size:=λ e=>by rw[e] at hlt;exact H8 _ hlt
   rw[P.bt b hne];exact C3 _ e
  ·rw[P.sz]
   show _<=(s.heap.push _).objs.size;rw[G8];omega
end
noncomputable def fixL:List Nat->List Nat
 |[]=>[]
 |[c]=>if c=13\/c=10 then[13,10] else[c]
 |c::d::r=>if c=13 then(if d=10 then 13::10::fixL r else 13::10::fixL (d::r)) else if c=10 then 13::10::fixL (d::r) else c::fixL (d::r)
theorem zsd (c d:Nat)(r:List Nat):fixL (c::d::r)=if c=13 then(if d=10 then 13::10::fixL r else 13::10::fixL (d::r)) else if c=10 then 13::10::fixL (d::r) else c::fixL (d::r):=rfl
noncomputable def zmy:Bool->List Nat->List Nat
 |_,[]=>[]
 |b,c::r=>if b=true/\c=46 then 46::46::zmy false r else c::zmy (c==10) r
theorem zlm: ∀l,(fixL l).length<=2*l.length
 |[]=>D2 0
 |[c]=>by show(if c=13\/c=10 then[13,10] else[c]).length<=2;split;exact D2 2;exact L6 1
 |c::d::r=>by
  have h1:=zlm r;have h2:=zlm (d::r);have k: ∀x:List Nat,x.length<=2->(x++fixL (d::r)).length<=2*(r.length+1+1):=λ x hx=>by
   rw[K1,Nat.mul_succ,Q9];exact I5 h2 hx
  rw[zsd];split
  ·split
   ·exact A7 (G3 h1 2) (G3 (G6 2 (L6 _)) 2)
   ·exact k [13,10] (D2 2)
  ·split
   ·exact k [13,10] (D2 2)
   ·exact k [c] (L6 1)
theorem ztm (l:List Nat): ∀b,(zmy b l).length<=2*l.length:=by
 induction l with
 |nil=>exact λ b=>D2 0
 |cons c r ih=>
  intro b;show(if b=true/\c=46 then 46::46::zmy false r else c::zmy (c==10) r).length<=2*r.length+2;split
  ·exact G3 (ih false) 2
  ·exact G5 (G3 (ih (c==10)) 1)
theorem zc6 {text:Array Nat}{q c:Nat}(h:text[q]? =some c):text.toList.drop q=c::text.toList.drop (q+1):=by
 have:text.toList[q]? =some c:=by rw[zi1];exact h
 obtain⟨hq,e⟩:=C7.mp this;rw[zca hq,e]
theorem zwq {text:Array Nat}{q c:Nat}(h:text[q]? =some c):text.getD q 0=c/\q<text.size:=by
 obtain⟨hq,e⟩:=J4.mp h;refine⟨?_,hq⟩;rw[zpi,h];rfl
theorem zo0 {text:Array Nat}{q:Nat}(h:text.size<=q):text.toList.drop q=[]:=zu1 (by simpa using h)
theorem zte {text:Array Nat}{q:Nat}(h:q<text.size):text[q]? =some (text.getD q 0):=by
 rw[zpi,W1 h];rfl
theorem zww (text:Array Nat):Makes (zjh text text.size) text "\r\n" (λ p=>fixL (text.toList.drop p)) where
 skip:=by
  intro q c hc hM;obtain⟨e,hq⟩:=zwq hc;unfold zjh at hM;rw[if_pos hq,e] at hM;have h13: ¬c=13:=λ h=>by rw[if_pos h] at hM;split at hM<;>cases hM
  rw[if_neg h13] at hM;have h10: ¬c=10:=λ h=>by rw[if_pos h] at hM;cases hM
  show fixL (text.toList.drop q)=c::fixL (text.toList.drop (q+1));rw[zc6 hc]
  cases hd:text.toList.drop (q+1) with
  |nil=>exact if_neg (λ h=>h.elim h13 h10)
  |cons d r=>rw[zsd,if_neg h13,if_neg h10]
 hit:=by
  intro q e hM;unfold zjh at hM;by_cases hq:q<text.size
  ·rw[if_pos hq] at hM
   have hc:=zte hq;have er:("\r\n":Str).cps.toList=[13,10]:=by decide
   by_cases h13:text.getD q 0=13
   ·rw[if_pos h13] at hM
    by_cases hd:q+1<text.size/\text.getD (q+1) 0=10
    ·rw[if_pos hd] at hM
     cases hM;refine⟨zhz (by decide),hd.1,?_⟩
     have hc1:=zte hd.1;show fixL (text.toList.drop q)=_++fixL (text.toList.drop (q+2));rw[zc6 hc,zc6 hc1,h13,hd.2,er];rfl
    ·rw[if_neg hd] at hM
     cases hM;refine⟨S5 q,hq,?_⟩
     show fixL (text.toList.drop q)=_++fixL (text.toList.drop (q+1));rw[zc6 hc,h13,er];by_cases hq1:q+1<text.size
     ·have hc1:=zte hq1
      rw[zc6 hc1];have: ¬text.getD (q+1) 0=10:=λ z=>hd ⟨hq1,z⟩;rw[zsd,if_pos rfl,if_neg this];rfl
     ·rw[zo0 (D7.mp hq1)];rfl
   ·rw[if_neg h13] at hM
    by_cases h10:text.getD q 0=10
    ·rw[if_pos h10] at hM
     cases hM;refine⟨S5 q,hq,?_⟩
     show fixL (text.toList.drop q)=_++fixL (text.toList.drop (q+1));rw[zc6 hc,h10,er]
     cases hd:text.toList.drop (q+1) with
     |nil=>rfl
     |cons d r=>rfl
    ·rw[if_neg h10] at hM;cases hM
  ·rw[if_neg hq] at hM;cases hM
 stop:=λ q hq=>⟨if_neg (D7.mpr hq),by show fixL (text.toList.drop q)=[];rw[zo0 hq];rfl⟩
theorem zwz (text:Array Nat):Makes (ygh text text.size) text ".." (λ p=>zmy (p==0||text.getD (p-1) 0==10) (text.toList.drop p)) where
 skip:=by
  intro q c hc hM;obtain⟨e,hq⟩:=zwq hc;unfold ygh at hM;show zmy _ (text.toList.drop q)=c::zmy _ (text.toList.drop (q+1));rw[zc6 hc];have hn: ¬((q==0||text.getD (q-1) 0==10)=true/\c=46):=λ h=>by
   rw[if_pos ⟨hq,h.1,by rw[e];exact h.2⟩] at hM;cases hM
  rw[zmy,if_neg hn];have:((q+1==0)||text.getD (q+1-1) 0==10)=(c==10):=by
   rw[ybv,e];rfl
  rw[this]
 hit:=by
  intro q e hM;unfold ygh at hM;by_cases h:q<text.size/\(q==0||text.getD (q-1) 0==10)=true/\text.getD q 0=46
  ·rw[if_pos h] at hM
   cases hM;refine⟨S5 q,h.1,?_⟩
   show zmy _ (text.toList.drop q)=_++zmy _ (text.toList.drop (q+1));have hc:=zte h.1;rw[zc6 hc,zmy,if_pos ⟨h.2.1,h.2.2⟩];have:((q+1==0)||text.getD (q+1-1) 0==10)=false:=by
    rw[ybv,h.2.2];rfl
   rw[this];rfl
  ·rw[if_neg h] at hM;cases hM
 stop:=λ q hq=>⟨if_neg (λ z=>D7.mpr hq z.1),by show zmy _ (text.toList.drop q)=[];rw[zo0 hq];rfl⟩
noncomputable def zfh (x:Str):Str:=⟨(zmy true (fixL x.cps.toList)).toArray⟩
theorem IsPat.of {A:H2}{K:List Addr}{s:A8}(ok:Ok G0 A K s){p:Addr}{x:Str}{t:Tok}{fl:Int}{ft:Tok}{cd:Addr}{cp:List Int}{n:Nat}(h1:(p,zh8 x t fl ft cd)∈G0.otab)(h2:(cd,R4 (zet cp) n)∈G0.otab):IsPat s.heap p cp:=
 ⟨x,t,fl,ft,cd,n,(ok.gnd.ob _ h1).1,(ok.gnd.ob _ h2).1⟩
structure MeP (G:Gt)(w:E3)(T:String)(id:String)(d0:D)(ds:List D)(d:D):Prop where
 ty: ∀A K s v,Ok G A K s->Rp (hid K s.heap) d0 v->s.TypeIs v T/\ ∀a,v= .ref a-> ∃ob,s.heap.get? a=some ob/\ob.dict=none
 h: ∀A K s v0 vs,Ok G A K s->Rp (hid K s.heap) d0 v0->RpL (hid K s.heap) ds vs->Gv w A K s (call (.builtin id) (v0::vs)) d
section
variable{G:Gt}{w:E3}{c:Cx}{H:Hm}{V:List (Option D)}
theorem Ev.methP {b:Bool}{o:Expr}{name:Str}{T id:String}{ap ps:Pos}{args:List Expr}{d0 d:D}{ds:List D}(pa:PlainAttrs T)(slot:Slot T name id)(hty:typeOf (.builtin id)=pure (.type "method_descriptor"))
 (ho:Ev G w c H V b o d0)(ha:As G w c H V b args ds)(hm:MeP G w T id d0 ds d)
 (hbase:zdu o name c.env (M3 o c.env)=M3 o c.env:=by rfl)(hl:args.length<30:=by decide)(hline:(ap.endLine==ps.line)=true:=by rfl):
 Ev G w c H V b (.Call (.Attribute o name ap) args [] ps) d:=by
 refine .mk' λ s F Q E k=>?_;refine Z2 hbase ?_ hline pa slot hty (ho.r F λ v0 s1 g1 r1=>?_)
 ·rw[zqn (ha.ns ps)]
  exact decide_eq_true hl
 obtain⟨t1,t2⟩:=hm.ty c.A _ s1 v0 ((F.onto g1).okS b) r1;refine⟨t1,t2,?_⟩;refine O0 (ha.ns _) (N2 (ha.ns _) (ha.h _ s1 (F.onto g1) _ _ λ us s2 g2 r2=>?_));exact(hm.h c.A _ s2 v0 us (((F.onto g1).onto g2).okS b) (r1.go g2 (F.onto g1).tb) r2).h _ _ λ v s3 g3 r3=>k v s3 ((g1.trans g2).trans g3) r3
end
theorem ycn {p:Addr}{x:Str}{t:Tok}{fl:Int}{ft:Tok}{cd:Addr}(h1:(p,zh8 x t fl ft cd)∈G0.otab): ∀A K s v,Ok G0 A K s->Rp (hid K s.heap) (.ptr p) v->s.TypeIs v "re.Pattern"/\ ∀a,v= .ref a-> ∃ob,s.heap.get? a=some ob/\ob.dict=none:=by
 intro A K s v ok r;have e:v= .ref p:=r;subst e;have:=(ok.gnd.ob _ h1).1;exact⟨⟨_,this,rfl⟩,λ a e=>by cases e;exact⟨_,this,rfl⟩⟩
theorem MeP.sub {w:E3}{p:Addr}{u:Str}{tu:Tok}{fl:Int}{ft:Tok}{cd:Addr}{cp:List Int}{n:Nat}{x r:Str}{body K:Nat}{Mt:Nat->Option Nat}
 (h1:(p,zh8 u tu fl ft cd)∈G0.otab)(h2:(cd,R4 (zet cp) n)∈G0.otab)(pr:Prog (cp.map N7).toArray x.cps x.cps.size body K Mt)
 (hb:(header (cp.map N7).toArray).2=body)(h0:body≠0)(hl:(header (cp.map N7).toArray).1=1)(hK:K<=100)(hx:x.length<=1000000)(hr:r.cps.contains 92=false)
 {G:Nat->List Nat}(m:Makes Mt x.cps r G)(hG:(G 0).length<=16777216):MeP G0 w "re.Pattern" "re.Pattern.sub" (.ptr p) [.str r,.str x] (.str ⟨(G 0).toArray⟩):=by
 refine⟨ycn h1,λ A K s v0 vs ok r0 rs=>⟨λ Q E k=>?_⟩⟩;have e:v0= .ref p:=r0;subst e;obtain⟨v1,v2,rfl,r1,r2⟩:=zkp rs;obtain⟨t1,rfl⟩:=r1.str_inv;obtain⟨t2,rfl⟩:=r2.str_inv;exact zvb pr hb h0 hl hK hx (IsPat.of ok h1 h2) hr m hG λ tk s' g=>k _ s' g .str'
noncomputable def yhn:Fd where
 f:=125
 c:=124
 fd:=ye9
 ps:=["data"]
 nm:=["data"]
 kl:=[false]
 gn:=[("_twin_re_1",.ref 113),("_twin_re_2",.ref 118),("CRLF",.str "\r\n" 474)]
theorem yfz:Fok G0 yhn:=zgb (gi:=[12,13,14]) (bj:=[]) rfl (by decide+kernel) (A6 (i:=10) rfl) (A6 (i:=10) rfl) rfl rfl ⟨rfl,rfl,rfl,rfl,rfl,rfl⟩
 (all1 λ a=>rfl)
theorem zqf {w:E3}{x:Str}(hx:x.length<=100000):Fn G0 w 2 125 [.str x] (.str (zfh x)):=by
 refine Fn.intro yhn yfz (by omega) rfl λ A env bs Ks lv hlv hh hsc E=>?_
 have hx':x.cps.size<=100000:=hx;have h1:=zlm x.cps.toList;have h2:=ztm (fixL x.cps.toList) true;have hc:x.cps.toList.length=x.cps.size:=V9;have m1:MeP G0 w "re.Pattern" "re.Pattern.sub" (.ptr 118) [.str "\r\n",.str x] (.str ⟨(fixL x.cps.toList).toArray⟩):=by
  have:=MeP.sub (w:=w) (p:=118) (r:= "\r\n") (x:=x) (A6 (i:=9) rfl) (A6 (i:=5) rfl) (zzj x.cps x.cps.size) rfl (by decide) rfl (by decide) (by show x.cps.size<=_;omega) (by decide+kernel) (zww x.cps) (by show(fixL x.cps.toList).length<=_;omega)
  exact this
 have m2:MeP G0 w "re.Pattern" "re.Pattern.sub" (.ptr 113) [.str "..",.str ⟨(fixL x.cps.toList).toArray⟩] (.str (zfh x)):=by
  have:=MeP.sub (w:=w) (p:=113) (r:= "..") (x:=⟨(fixL x.cps.toList).toArray⟩) (A6 (i:=8) rfl) (A6 (i:=4) rfl) (ydk _ _) rfl (by decide) rfl (by decide) (by show(fixL x.cps.toList).toArray.size<=_;simp;omega) (by decide+kernel) (zwz _) (by show(zmy true (fixL x.cps.toList)).length<=_;omega)
  exact this
 refine za3 (Ev.methP zza slot_re_sub zlw (Ev.nv (G7 0 rfl) λ g=>by exact rfl) (B8 K0 (B8 (Ev.methP zza slot_re_sub zlw (Ev.nv (G7 1 rfl) λ g=>by exact rfl) (B8 (Ev.nvs (G7 2 rfl)) (B8 (B4 0 rfl rfl) D9)) m1) D9)) m2) λ v s F r=>⟨F.go,r⟩
end
theorem foldl_rep (c:Nat): ∀(k:Nat) (acc:Array Nat),(C1 k #[c]).foldl (· ++ ·) acc=acc++R9 k c
 |0,acc=>by simp
 |k+1,acc=>by
  rw[Q1,zpr,foldl_rep c k];rw[zye];congr 1;apply znl.mp;simp[Q1]
theorem zze {x:Str}{c:Nat}(hx:x=⟨#[c]⟩)(n:Int):zbn x n=⟨R9 n.toNat c⟩:=by
 subst hx;unfold zbn;by_cases h:n<1
 ·rw[if_pos h,show n.toNat=0 by omega];rfl
 ·rw[if_neg h]
  by_cases h1:n=1
  ·subst h1;rfl
  ·rw[if_neg (by simp[h1,zg6]),foldl_rep];simp
theorem zv7 {x:Str}{c:Nat}(hx:x=⟨#[c]⟩){n:Int}(h1: -1000000<=n)(h2:n<=1000000):MulOk x n:=by
 subst hx;refine⟨by simp;omega,λ h3 z h5=>?_,λ z z=>?_⟩
 ·have h1:((⟨#[c]⟩:Str).length:Int)=1:=rfl
  rw[h1] at h5;have:(1:Int)<=(2^63-1) / n:=by
   rw[Int.le_ediv_iff_mul_le (by omega)];omega
  omega
 ·unfold R2
  have:zbf=16777216:=by decide
  rw[decide_eq_false_iff_not,this];show ¬1*n.toNat>_;omega
noncomputable def zd5 (c:Nat)(n:Int):Str:=⟨R9 n.toNat c⟩
theorem zdo (c:Nat)(n:Int):(zd5 c n).length=n.toNat:=by show(R9 _ _).size=_;simp
theorem zhf {elt:Expr}{gens:List Comprehension}{sc sc0:Scope}{pos p:Pos}{t:Str}{ln:Nat}{env:Env}(h:env.scope=sc0)
 (hb:((if sc0.kind.isAnnotationScope then zt0 else sc0.kind)== .function&&sc0.names.lookup t==some .local&&p.line==pos.line&& !(sc.names.any λ(n,k)=>n==t&&(k== .local||k== .cell)))=true):
 U6 (.ListComp elt gens sc pos) (some (.Name t p)) ln env=pure true:=by
 subst h;unfold U6;exact congrArg pure hb
section
variable{G:Gt}{w:E3}{c:Cx}{H:Hm}{V:List (Option D)}{s s':A8}
theorem Ev.mulC {f:Bool}{e1 e:Expr}{q:Pos}{x:Str}(cc:Nat)(n:Int)(hx:x=⟨#[cc]⟩)(a: -1000000<=n)(b:n<=1000000)(h0:Ev G w c H V f e1 (.str x))(h:Ev G w c H V f e (.int n)):
 Ev G w c H V f (.BinOp e1 .Mult e q) (.str (zd5 cc n)):=
 (G4 h0 h (Bi.mulS (zv7 hx a b))).eq (by rw[zze hx];rfl)
theorem Bf.lenT {l:List D}(hz:l.length<2^62):Bf G w (.builtin "len") [.tup l] (.int l.length):=by
 refine⟨λ A K s vs ok r=>⟨λ Q E k=>?_⟩⟩;obtain⟨v,rfl,rv⟩:=zc0 r;obtain⟨a,n,vs,rfl,ho,hl⟩:=rv.tup_inv;rw[hid_some] at ho;have e:=hl.length;refine len_tuple (IsTup.of ho.2) (by simp only[I1];omega) ?_
 have k':=k (.int (vs.toArray.size:Nat) (s.toks+1)) _ (R1 s (s.toks+1+1)) (by simp only[I1,e];exact .int')
 exact k'
end
noncomputable def zgd (pieces:List Str)(word:List Nat)(at_:Nat)(stretch:Str):List Str:=
 if at_<=word.length then(word.map λ k=>pieces.getD k "").take at_++stretch::(word.map λ k=>pieces.getD k "").drop at_ else word.map λ k=>pieces.getD k ""
noncomputable def zpx (pieces:List Str)(word:List Nat)(at_:Nat)(stretch:Str):Str:=L9 "" (zgd pieces word at_ stretch)
noncomputable def U9 (gains:List Int)(word:List Nat):Int:=(word.map λ k=>gains.getD k 0).sum
noncomputable def zla (word:List Nat):D:= .tup (word.map λ k=> .int (k:Nat))
noncomputable def yeg (pieces:List Str):D->D
 | .int i=> .str (pieces.getD i.toNat "")
 |_=> .none
noncomputable def ycm (gains:List Int):D->D
 | .int i=> .int (gains.getD i.toNat 0)
 |_=> .none
noncomputable def FRea:Fd where
 f:=295
 c:=294
 fd:=ye8
 ps:=["word","row","number","pieces","gains","stretch","shift"]
 nm:=["word","row","number","pieces","gains","stretch","shift","parts","text","total","lack"]
 kl:=[false,false,false,true,true,false,false,false,false,false,false]
 gn:=[("_check_parenthesis",.ref 59),("len",.builtin "len"),("sum",.builtin "sum"),("max",.builtin "max")]
theorem yfy:Fok G0 FRea:=zgb (gi:=[10]) (bj:=[1,9,7]) rfl (by decide+kernel) (A6 (i:=21) rfl) (A6 (i:=21) rfl) rfl rfl ⟨rfl,rfl,rfl,rfl,rfl,rfl⟩
 (yh4 λ a b c d e f g=>rfl)
theorem yce (x:Str):(x != x)=false:=by simp
theorem ydc {w:E3}{word:List Nat}{pieces:List Str}{gains:List Int}{stretch:Str}{shift:Int}{number lack:Nat}
 (hw: ∀k∈word,k<pieces.length/\k<gains.length)(hwz:word.length<=10)(hpz:pieces.length<=10)(hgz:gains.length<=10)(hps: ∀x∈pieces,x.length<=10)(hst:stretch.length<=60)(hlz:lack<=100)
 (hto:(U9 gains word).natAbs<=100)(h1:zrd (zd5 40 lack++zpx pieces word (((number:Int)+shift).fmod 24).toNat stretch++zd5 41 (lack-U9 gains word))=true)
 (h2:((lack:Int)>max 0 (U9 gains word)/\(gains.length=2\/number % 2=1))->zrd (zd5 40 (lack-1)++zpx pieces word (((number:Int)+shift).fmod 24).toNat stretch++zd5 41 (lack-1-U9 gains word))=false):
 FnG true G0 w 6 295 [zla word,.str (zd5 46 (lack+1)),.int number,.lst (pieces.map D.str),.lst (izD gains),.str stretch,.int shift] (.int (lack+7*(lack-U9 gains word))):=by
 refine Fn.intro FRea yfy (by omega) rfl λ A env bs Ks lv hlv hh hsc E=>?_
 have h4:4<=lv+1:=by omega
 generalize hat:((number:Int)+shift).fmod 24=at_ at h1 h2;have hat0:0<=at_:=by rw[<-hat];rw[R8 _ (by decide)];exact zj4 _ (by decide)
 have e1:((word.map λ k=>D.int (k:Nat)).filter λ z=>true).map (yeg pieces)=(word.map λ k=>pieces.getD k "").map D.str:=by
  rw[Q5,E6,E6];rfl
 have e2:((word.map λ k=>D.int (k:Nat)).filter λ z=>true).map (ycm gains)=izD (word.map λ k=>gains.getD k 0):=by
  rw[Q5,E6];unfold izD;rw[E6];rfl
 refine Wx.ownD (lo:=["k"]) (kx:=[false]) (fr:=[3]) (λ z=>true) (yeg pieces) 7 (show 7<11 by decide) rfl (zbu (gj:=[]) (by show zii FRea.nm FRea.kl (FRea.gn.map (·.1)) _ _ _ _ _=true;decide+kernel)) (zgr (hh rfl) (B4 0 rfl rfl) Ib.tup) rfl (by rw[B5];omega) ?_ (zhf hsc (by decide+kernel)) (λ R hR=>?_)
 ·intro L b d hd Da acc fx gs
  obtain⟨k,hk,rfl⟩:=C5.mp hd;have hkz:=(hw k hk).1;refine⟨zc8,λ z=>O1 (B4 1 rfl rfl) (B4 0 rfl rfl) (T6 (by omega) ?_ (by rw[B5];omega))⟩
  rw[C0,B7,B3 hkz];show some (D.str pieces[k])=some (.str (pieces.getD k ""));rw[C8,B3 hkz];rfl
 rw[e1];have hwl: ∀y∈(word.map λ k=>pieces.getD k ""),y.length<=60:=by
  intro y hy;obtain⟨k,hk,rfl⟩:=C5.mp hy;have hkz:=(hw k hk).1;rw[C8,B3 hkz];exact A7 (hps _ (Q6 hkz)) (by omega)
 have rest: ∀ps:List Str,ps=zgd pieces word at_.toNat stretch->ps.length<=11->(∀y∈ps,y.length<=60)->
  Wx G0 w (FRea.cx A env bs Ks lv) ⟨[(R,ps.map D.str)],[],[]⟩ [some (zla word),some (.str (zd5 46 (lack+1))),some (.int number),some (.lst (pieces.map D.str)),some (.lst (izD gains)),some (.str stretch),some (.int shift),some (.ptr R),none,none,none] (FRea.body.drop 2) (yd1 (FRea.cx A env bs Ks lv) (.int (lack+7*(lack-U9 gains word)))) E:=by
  intro ps hp hpl hpb;have htx:L9 "" ps=zpx pieces word at_.toNat stretch:=by rw[hp];rfl
  generalize zpx pieces word at_.toNat stretch=text at htx h1 h2;have htl:text.length<=660:=by
   have h1:=zrf "" ps;have h2:=zxk ps hpb;have e0:("":Str).length=0:=rfl;rw[e0,zgh] at h1;rw[<-htx];have:ps.length*60<=11*60:=I0 _ hpl;exact A7 h1 (A7 h2 this)
  refine I9 8 (show 8<11 by decide) rfl (zgn (zh3 M6 U2 Z5 K0 (B8 (zed 7 rfl rfl A9) D9) (Me.joinS (B:=60) hpb (by show ps.length*60+ps.length*0<=_;rw[zgh,zgj];exact A7 (I0 60 hpl) (by decide+kernel)))) rfl) ?_
  rw[htx];refine I9 9 (show 9<11 by decide) rfl (ze4 (hh rfl) (G7 2 rfl) (B8 ((za9 (lo:=["k"]) (kx:=[false]) (fr:=[4]) (λ z=>true) (ycm gains) (zbu (gj:=[]) (by show zii FRea.nm FRea.kl (FRea.gn.map (·.1)) _ _ _ _ _=true;decide+kernel)) (zgr (hh rfl) (B4 0 rfl rfl) Ib.tup) rfl (by rw[B5];omega) ?_).ev.eq (by rw[e2])) D9) Bh.sum) ?_
  ·intro L b d hd Da acc fx gs
   obtain⟨k,hk,rfl⟩:=C5.mp hd;have hkz:=(hw k hk).2;refine⟨zc8,λ z=>O1 (B4 1 rfl rfl) (B4 0 rfl rfl) (T6 (by omega) ?_ (by rw[B5];omega))⟩
   rw[C0,B7,B3 hkz];simp[ycm,hkz]
  show Wx _ _ _ _ [some (zla word),some (.str (zd5 46 (lack+1))),some (.int number),some (.lst (pieces.map D.str)),some (.lst (izD gains)),some (.str stretch),some (.int shift),some (.ptr R),some (.str text),some (.int (U9 gains word)),none] _ _ _;generalize U9 gains word=total at h1 h2 hto;have ht1:total<=100:=E1 zke (H1.mpr hto);have ht2: -100<=total:=E1 (Int.neg_le_neg (H1.mpr hto)) (zi0 (by rw[<-zcw];exact zke))
  have l0:=E9 lack;have l1:(lack:Int)<=100:=H1.mpr hlz;have m1:(-1000000:Int)<=lack-total/\(lack:Int)-total<=220:=⟨E1 (by decide) (zcg l0 ht1),E1 (zcg l1 ht2) (by decide)⟩
  have m2:(-1000000:Int)<=lack-1/\(lack:Int)-1<=100:=⟨E1 (by decide) (zey l0 1),E1 (Int.sub_le_self _ (by decide)) l1⟩
  have m3:(-1000000:Int)<=lack-1-total/\(lack:Int)-1-total<=220:=⟨E1 (by decide) (zcg (zey l0 1) ht1),E1 (zcg m2.2 ht2) (by decide)⟩
  have hrl:(zd5 46 ((lack:Int)+1)).length=lack+1:=by rw[zdo];rfl
  refine I9 10 (show 10<11 by decide) rfl ((G4 (V0 (G7 1 rfl) (B8 (B4 1 rfl rfl) D9) (Bf.lenS (by rw[hrl];omega+splitNatSub))) D5 zb0).eq (d':= .int lack) (by rw[hrl];exact congrArg D.int (zbq (lack:Int) 1))) ?_
  have hb40:("(":Str)=⟨#[40]⟩:=by decide+kernel
  have hb41:(")":Str)=⟨#[41]⟩:=by decide+kernel
  have hb46:(".":Str)=⟨#[46]⟩:=by decide+kernel
  have hll: ∀(a b:Int),a<=101->b<=220->(zd5 40 a++text++zd5 41 b).length<=1000:=λ a b ha hb=>by
   show((R9 a.toNat 40++text.cps)++R9 b.toNat 41).size<=_;simp only[zms,zva];exact A7 (I5 (I5 (O4.mpr ha) htl) (O4.mpr hb)) (by decide:101+660+220<=1000)
  have hl2: ∀(a:Int),a<=101->(zd5 40 a++text).length<=800:=λ a ha=>by
   show((R9 a.toNat 40++text.cps)).size<=_;simp only[zms,zva];exact A7 (I5 (O4.mpr ha) htl) (by decide:101+660<=800)
  refine W3 (Ts.bo (Al.or (O5 (B4 1 rfl rfl) (Ev.mulC 46 (lack+1) hb46 (by omega+splitNatSub) (by omega+splitNatSub) K0 (G4 (B4 10 rfl rfl) D5 zav)) Cm.neS) λ z=>
   Al.or (O5 (U5 (G7 0 rfl) (B8 (G4 (G4 (Ev.mulC 40 lack hb40 (E1 (by decide) l0) (E1 l1 (by decide)) K0 (B4 10 rfl rfl)) (B4 8 rfl rfl) (zau (by rw[zdo];exact A7 (I5 hlz htl) (by decide+kernel)))) (Ev.mulC 41 (lack-total) hb41 m1.1 (E1 m1.2 (by decide)) K0 (G4 (B4 10 rfl rfl) (B4 9 rfl rfl) zb0)) (zau (by rw[zdo];exact A7 (I5 (hl2 lack (E1 l1 (by decide))) (O4.mpr m1.2)) (by decide+kernel:800+220<=H5)))) D9) (zov (hll _ _ (E1 l1 (by decide)) m1.2)) (A6 (i:=8) rfl) h4 hh) Ev.cbool Cm.isnot_bool) λ z=>zmt)) (λ hq=>?_) λ z=>?_
  ·rw[h1] at hq;simp at hq
  have ret:Wx G0 w (FRea.cx A env bs Ks lv) ⟨[(R,ps.map D.str)],[],[]⟩ [some (zla word),some (.str (zd5 46 (lack+1))),some (.int number),some (.lst (pieces.map D.str)),some (.lst (izD gains)),some (.str stretch),some (.int shift),some (.ptr R),some (.str text),some (.int total),some (.int lack)] (FRea.body.drop 7) (yd1 (FRea.cx A env bs Ks lv) (.int (lack+7*(lack-total)))) E:=
   by
   refine za3 (G4 (B4 10 rfl rfl) (G4 D5 (G4 (B4 10 rfl rfl) (B4 9 rfl rfl) zb0) (zdf (N1 (by decide)))) zav) λ v s F r=>⟨F.go,r⟩
  refine W3 (Ts.bo (Al.and (O5 (B4 10 rfl rfl) (ze4 (hh rfl) (G7 3 rfl) (B8 D5 (B8 (B4 9 rfl rfl) D9)) Bh.max2) Cm.gt) λ z=>
   Al.and (Ts.bo (Al.or (O5 (V0 (G7 1 rfl) (B8 (B4 4 rfl rfl) D9) (zb1 (by simp;omega))) D5 Cm.eq) λ z=>Al.or (O5 (G4 (B4 2 rfl rfl) D5 (zfs (by decide))) D5 Cm.eq) λ z=>zmt)) λ z=>Al.and_nil)) (λ hq=>?_) λ z=>ret
  have h2':=h2 (by
   simp only[Bool.and_true,Bool.or_false,O2,decide_eq_true_eq,Bool.or_eq_true,beq_iff_eq,B5] at hq;refine⟨?_,hq.2.imp (λ h=>zdy h) (λ h=>by rw[show(2:Int)=((2:Nat):Int) from rfl,zll] at h;exact zdy h)⟩
   have:=hq.1;split at this
   ·next h=>rwa [zgs (za2 h)]
   ·next h=>rwa [zeb (R7.mp h)])
  refine W3 (O5 (U5 (G7 0 rfl) (B8 (G4 (G4 (Ev.mulC 40 (lack-1) hb40 m2.1 (E1 m2.2 (by decide)) K0 (G4 (B4 10 rfl rfl) D5 zb0)) (B4 8 rfl rfl) (zau (by rw[zdo];exact A7 (I5 (O4.mpr m2.2) htl) (by decide+kernel:100+660<=H5)))) (Ev.mulC 41 (lack-1-total) hb41 m3.1 (E1 m3.2 (by decide)) K0 (G4 (G4 (B4 10 rfl rfl) D5 zb0) (B4 9 rfl rfl) zb0)) (zau (by rw[zdo];exact A7 (I5 (hl2 (lack-1) (E1 m2.2 (by decide))) (O4.mpr m3.2)) (by decide+kernel:800+220<=H5)))) D9) (zov (hll _ _ (E1 m2.2 (by decide)) m3.2)) (A6 (i:=8) rfl) h4 hh) Ev.cbool Cm.isnot_bool) (λ hq=>?_) λ z=>ret
  rw[h2'] at hq;simp at hq
 refine W3 (O5 ((G4 (G4 (B4 2 rfl rfl) (B4 6 rfl rfl) zav) D5 (zfs (by decide))).eq (by rw[hat])) (V0 (G7 1 rfl) (B8 (B4 0 rfl rfl) D9) (Bf.lenT (by rw[B5];omega))) Cm.le) (λ hq=>?_) λ hq=>?_
 ·have hq':at_.toNat<=word.length:=O4.mpr (by have:=of_decide_eq_true hq;rwa [B5] at this)
  refine Wx.mut 7 0 rfl rfl rfl hR (B8 ((G4 (G4 (B4 2 rfl rfl) (B4 6 rfl rfl) zav) D5 (zfs (by decide))).eq (by rw[hat])) (B8 (B4 5 rfl rfl) D9)) (Lm.insert (i:=at_.toNat) (L8 hat0).symm (by simpa using hq') (by simp;omega)) zpn PySem.F.type_list_insert ?_
  have hps': ∀y∈zgd pieces word at_.toNat stretch,y.length<=60:=by
   unfold zgd;rw[if_pos hq'];intro y hy;rcases G1.mp hy with h|h
   ·exact hwl y (zes h)
   ·rcases B9.mp h with h|h
    ·rw[h];omega
    ·exact hwl y (zkc h)
  have hpl':(zgd pieces word at_.toNat stretch).length<=11:=by
   unfold zgd;rw[if_pos hq'];simp;omega
  have e:(((word.map λ k=>pieces.getD k "").map D.str).take at_.toNat++D.str stretch::((word.map λ k=>pieces.getD k "").map D.str).drop at_.toNat)=(zgd pieces word at_.toNat stretch).map D.str:=by
   unfold zgd;rw[if_pos hq'];simp[zt1,List.map_drop]
  have key:=rest _ rfl hpl' hps';rw[<-e] at key;exact key
 ·have hq': ¬at_.toNat<=word.length:=λ h=>of_decide_eq_false hq (by rw[B5];exact O4.mp h)
  have e:(word.map λ k=>pieces.getD k "")=zgd pieces word at_.toNat stretch:=by
   unfold zgd;rw[if_neg hq']
  exact rest _ e (by simp;omega) hwl
structure FokB (G:Gt)(D:Fd):Prop where
 mem:(D.f,D.fd)∈G.ftab
 cmem:(D.c,D.fd.qualname)∈G.ctab
 code:D.fd.code= .ref D.c
 body:D.fd.body= .stmts D.body
 clo:D.fd.closure=[]
 gl:D.fd.globals=3
 bi:D.fd.builtins=0
 kind:D.fd.scope.kind= .function
 gen:D.fd.scope.isGenerator=false
 cor:D.fd.scope.isCoroutine=false
 nd:D.nm.Nodup
 nms: ∀x∈D.nm,(x==("__debug__":Str))=false/\(x==("__classdict__":Str))=false
 kns: ∀(i:Nat) (x:Str),D.nm[i]? =some x->(D.kl[i]? =some false/\D.fd.scope.names.lookup x=some .local)\/(D.kl[i]? =some true/\D.fd.scope.names.lookup x=some .cell)
 gns: ∀p∈D.gn,D.fd.scope.names.lookup p.1=some .globalImplicit/\(p.1==("__debug__":Str))=false/\(p∈G.gtab\/(p.1∈G.bnames/\p∈G.btab))
theorem Fok.b {G:Gt}{D:Fd}(h:Fok G D):FokB G D:=⟨h.mem,h.cmem,h.code,h.body,h.clo,h.gl,h.bi,h.kind,h.gen,h.cor,h.nd,h.nms,h.kns,h.gns⟩
theorem FokB.of {G:Gt}{D:Fd}{gi bj:List Nat}{b:List Stmt}(hg:D.gn=gi.filterMap (λ j=>G.gtab[j]?)++bj.filterMap λ j=>G.btab[j]?)
 (h:ygg (G.gtab.map (·.1)) (G.btab.map (·.1)) G.bnames D.ps D.nm D.kl D.fd.scope gi bj=true)
 (mem:(D.f,D.fd)∈G.ftab)(cmem:(D.c,D.fd.qualname)∈G.ctab)(code:D.fd.code= .ref D.c)(body:D.fd.body= .stmts b)
 (flat:D.fd.closure=[]/\D.fd.globals=3/\D.fd.builtins=0/\D.fd.scope.kind= .function/\D.fd.scope.isGenerator=false/\D.fd.scope.isCoroutine=false):FokB G D:=by
 unfold ygg at h;simp only[O2,decide_eq_true_eq] at h;obtain⟨⟨⟨⟨⟨⟨h1,h2⟩,h3⟩,h4⟩,h5⟩,h6⟩,h7⟩:=h;obtain⟨f1,f2,f3,f4,f5,f6⟩:=flat;refine{mem:=mem,cmem:=cmem,code:=code,body:=by rw[body];unfold Fd.body;rw[body],clo:=f1,gl:=f2,bi:=f3,kind:=f4,gen:=f5,cor:=f6,nd:=h1,nms:=λ x hx=>?_,kns:=λ i x hx=>?_,gns:=λ p hp=>?_}
 ·have:=K5.mp h4 x hx
  simpa using this
 ·have hi:=(C7.mp hx).1
  have hb:D.kl[i]? =some D.kl[i]:=B3 (by omega)
  have hz:(x,D.kl[i])∈D.nm.zip D.kl:=by
   refine K4.mpr ⟨i,?_⟩;rw[O8];exact⟨hx,hb⟩
  have:=K5.mp h5 _ hz;simp only[decide_eq_true_eq] at this
  cases q:D.kl[i] with
  |false=>rw[q] at this;exact .inl ⟨by rw[hb,q],by simpa using this⟩
  |true=>rw[q] at this;exact .inr ⟨by rw[hb,q],by simpa using this⟩
 ·rw[hg] at hp
  rcases G1.mp hp with hp|hp
  ·obtain⟨j,hj,e⟩:=T5.mp hp
   have:=K5.mp h6 j hj;rw[B7,e] at this;simp only[zak,O2,decide_eq_true_eq,zgy] at this;exact⟨this.1,this.2,.inl (A6 e)⟩
  ·obtain⟨j,hj,e⟩:=T5.mp hp
   have:=K5.mp h7 j hj;rw[B7,e] at this;simp only[zak,O2,decide_eq_true_eq,zgy] at this;exact⟨this.1.1,this.1.2,.inr ⟨this.2,A6 e⟩⟩
open Internal.FokB renaming of->zkt
noncomputable def Fd.cxw (Δ:Fd)(A:H2)(env:Env)(b:A8)(K wr:List Addr)(dk:List (Addr×Obj))(lv:Nat):Cx:={A:=A,env:=env,b:=b,K:=K,nm:=Δ.nm,ns:=Δ.nm.length,gn:=Δ.gn,lv:=lv,kl:=Δ.kl,wr:=wr,dk:=dk}
theorem GoW.refl {W:List Addr}(s:A8):GoW W s s:=(M4 s).toW
open Internal.GoW renaming refl->zj5
structure Bnd (Δ:Fd)(V:List (Option D))(K:List Addr)(binds:List (Str×Value))(s:A8):Prop where
 nd:(binds.map (·.1)).Nodup
 nm: ∀x∈binds,x.1∈Δ.nm
 v: ∀(i:Nat) (x:Str) (d:D),Δ.nm[i]? =some x->V[i]? =some (some d)-> ∃v,(x,v)∈binds/\Rp (hid K s.heap) d v
structure BsP (g:Addr->Option Obj)(nm:List Str)(V:List (Option D))(bs:List (Str×Value)):Prop where
 m: ∀x∈bs,x.1∈nm
 v: ∀(i:Nat) (x:Str) (d:D),nm[i]? =some x->V[i]? =some (some d)-> ∃v,(x,v)∈bs/\Rp g d v
theorem BsP.nil {g:Addr->Option Obj}{nm:List Str}{V:List (Option D)}(h:WkP V []):BsP g nm V []:=⟨fmn,λ i z d z e=>nomatch h i d e⟩
theorem BsP.cons {g:Addr->Option Obj}{nm:List Str}{V:List (Option D)}{bs:List (Str×Value)}{x:Str}{d:D}{v:Value}(r:Rp g d v)(h:BsP g nm V bs):BsP g (x::nm) (some d::V) ((x,v)::bs):=
 ⟨fmc A9 λ y hy=>B1 _ (h.m y hy),λ i y d' e1 e2=>match i with
  |0=>by cases e1;cases e2;exact⟨v,A9,r⟩
  |i+1=>(h.v i y d' e1 e2).imp λ z q=>⟨B1 _ q.1,q.2⟩⟩
theorem zg3 {Δ:Fd}{V:List (Option D)}{K:List Addr}{s:A8}{binds:List (Str×Value)}(hn:(binds.map (·.1)).Nodup)(h:BsP (hid K s.heap) Δ.nm V binds):Bnd Δ V K binds s:=⟨hn,h.m,h.v⟩
section
variable{G:Gt}{w:E3}
theorem Fn.enterX {X:Type}(Δ:Fd)(hD:FokB G Δ){l:Nat}{ps:List Value}{kw:List (Str×Value)}{A:H2}{K wr:List Addr}{s b:A8}{ow:List (Addr×List D)}{fx:X->Obs}{V:X->List (Option D)}{dk:List (Addr×Obj)}{Q E:Value->A8->Prop}
 (hl:2<=l)(rm:Rm A l)(gnd:Gnd0 G s.heap)(tb:Tb s.heap)(hd:HdA A s.heap)
 (gndB:Gnd0 G b.heap)(tbB:Tb b.heap)(go:GoW wr b s)(klB: ∀a∈K,a<b.heap.objs.size)(wrq: ∀a∈wr,∃vs n,b.heap.get? a=some (M8 vs n))
 (dkq: ∀p∈dk,p.1<b.heap.objs.size/\p.1∉wr/\p.1≠82/\p.1≠89)(dkv: ∀p∈dk,∃sl,s.heap.get? p.1=some {p.2 with slots:=sl})
 (ho:Ows K ow s)(hfx: ∀x,∀p∈fx x,(∀v,p.2.data≠ .cell v)/\ ¬Sq p.2)
 (bind: ∀(A:H2) (E':Value->A8->Prop) (Q':List (Str×Value)->A8->Prop),(∀x s₁ binds,Go s s₁->(∀p∈fx x,s₁.heap.get? p.1=some p.2/\p.1≠82/\p.1≠89)->Bnd Δ (V x) (K++ow.map (·.1)) binds s₁->Q' binds s₁)->D0 (D1 pw w) A (zay Δ.fd ⟨ps,kw⟩) Q' E' s)
 (body: ∀x L s₂,FrS G (Δ.cxw (A.deeper (H3 Δ.fd L Δ.f)) (H3 Δ.fd L Δ.f) b K wr dk (l-2)) ⟨ow,fx x,[]⟩ (V x) s₂->Go s s₂->s.toks<=s₂.toks->
   D0 (D1 pw w) (A.deeper (H3 Δ.fd L Δ.f)) (X5 Δ.body (H3 Δ.fd L Δ.f)) (λ f s'=>Q (match f with| .ret v=>v|_=> .none) s')
    (λ e s'=>D0 (D1 pw w) (A.deeper (H3 Δ.fd L Δ.f)) (zji (H3 Δ.fd L Δ.f) e) (λ z s''=>E e s'') (λ e' s''=>E e' s'') s') s₂):
 D0 (D1 pw w) A (call (.ref Δ.f) ps kw) Q E s:=by
 have hcr:s.heap.CodeRec Δ.fd.code Δ.fd.qualname:=by rw[hD.code];exact(gnd.cr _ hD.cmem).1
 refine zif (codeAny_call_function rm.room (gnd.fn _ hD.mem) rfl hD.cor hD.gen hD.body hcr ?_);refine S8 (D2 s.toks) (bind _ _ _ λ x s₁ binds g1 hf B hk1=>?_);have kd: ∀x∈Δ.nm,Δ.fd.scope.names.lookup x=some .local\/(Δ.fd.scope.names.lookup x=some .cell/\((T0 (s₁.heap.objs.size+1) Δ.fd.scope.names []).lookup x).isSome=true):=by
  intro x hx;obtain⟨i,hi⟩:=K4.mp hx;rcases hD.kns i x hi with⟨_,q⟩|⟨_,q⟩
  ·exact .inl q
  ·refine .inr ⟨q,?_⟩
   obtain⟨a,ha⟩:=zf4 (n:=s₁.heap.objs.size+1) (acc:=[]) (.inl (mem_of_lookup q));obtain⟨b,hb⟩:=zds ha;rw[hb];rfl
 rw[hD.clo];refine S8 hk1 (wpAny_newFunctionEnv_cells hD.kind (λ x hx=>kd _ (B.nm x hx)) λ env he s₂ I hk2=>?_);have he':env=H3 Δ.fd s₁.heap.objs.size Δ.f:=he;subst he';have gnd1:=gnd.go g1 tb;have tb1:=g1.tab tb;refine⟨gnd1.nl.keeps I.toInCall.keep,codeAny_func ?_⟩;have hgo:Go s₁ s₂:=by
  obtain⟨h',tk,e⟩:=I.toInCall.same;subst e;refine Go.of I.toInCall.keep ?_ rfl rfl;exact K3 (C2 I.toInCall.fresh I.toInCall.ns.lt)
 have g2:=g1.trans hgo;refine body x s₁.heap.objs.size s₂ ?_ g2 hk2;have hkk: ∀H:Hm,H.own=ow->Internal.hk (Δ.cxw (A.deeper (H3 Δ.fd s₁.heap.objs.size Δ.f)) (H3 Δ.fd s₁.heap.objs.size Δ.f) b K wr dk (l-2)) H true=K++ow.map (·.1):=λ H e=>by unfold Internal.hk;rw[e];rfl
 exact{
  ok:={
   rm:=⟨by show A.depth+1+(l-2+1)<=600;have:=rm.1;omega,by show A.units+3+20*(l-2+1)<=9000;have:=rm.2;omega⟩
   fn:=hD.kind
   gl:=hD.gl
   bi:=hD.bi
   lo:=A7 go.size g1.size
   nd:=hD.nd
   dbg:=λ x hx=>hD.nms x hx
   apart:=I.apart
   own:=λ i x a z z ha=>A7 (A7 go.size g1.size) (K3 (I.above x a (mem_of_lookup ha)))
   sto:=λ i x z hx=>(hD.kns i x hx).imp (·.2) (·.2)
   kd:=λ i x hx=>by
    rcases hD.kns i x hx with⟨h1,q⟩|⟨h1,q⟩
    ·exact .inl ⟨h1,q⟩
    ·rcases kd x (A6 hx) with q'|⟨_,q'⟩
     ·rw[q] at q';cases q'
     ·exact .inr ⟨h1,.inl q,zb2.mp q'⟩
   gns:=λ p hp=>⟨(hD.gns p hp).1,(hD.gns p hp).2⟩
   gnd:=gndB
   tb:=tbB
   kl:=klB
   wrq:=wrq
   dkq:=dkq}
  go:=go.trans g2
  ns:=⟨_,I.toInCall.ns⟩
  vars:=λ i x d' hx hdv=>by
   obtain⟨v,hz,hr⟩:=B.v i x d' hx hdv;refine⟨v,?_,?_⟩
   ·rcases kd x (A6 hx) with q'|⟨q',q''⟩
    ·exact .loc q' _ I.toInCall.ns (zmf q' B.nd hz)
    ·obtain⟨a,ha⟩:=zb2.mp q''
     refine .cel (.inl q') a ha ?_;have:=I.cell x a ha;rwa [zmg q' B.nd hz] at this
   ·rw[hkk _ rfl]
    exact hr.go hgo tb1
  own:=λ a es h=>by
   obtain⟨_,vs',n,e,r⟩:=ho.own a es h;refine⟨_,vs',g2.keepN tb (.seq ⟨_,_,rfl⟩) e,zho _ _,?_⟩;rw[hkk _ rfl];exact r.go g2 tb
  olo:=λ p h=>(ho.own p.1 p.2 h).1
  ond:=ho.nd
  fix:=λ a o h=>by
   obtain⟨e1,e2,e3⟩:=hf (a,o) h;obtain⟨n1,n3⟩:=hfx x (a,o) h;refine⟨hgo.keep _ _ e2 e3 e1,⟨e2,e3⟩,n1,λ q'=>?_,λ hm=>?_⟩
   ·have h4:=C6 e1
    rw[show a=s₁.heap.objs.size from q'] at h4
    exact H8 _ h4
   ·obtain⟨⟨b',es⟩,hp,rfl⟩:=C5.mp hm
    obtain⟨_,vs',n,e,_⟩:=ho.own b' es hp;have e:=g1.keepN tb (.seq ⟨_,_,rfl⟩) e;rw[show s₁.heap.get? b'=some o from e1] at e;cases e
    exact n3 ⟨_,_,rfl⟩
  gen:=λ p h=>nomatch h
  cells:=λ x a hm=>⟨_,I.cell x a hm⟩
  hdA:=hd.go g2 tb
  dk:=λ p hp=>by
   obtain⟨sl,e⟩:=dkv p hp;exact⟨sl,g2.keep _ _ (dkq p hp).2.2.1 (dkq p hp).2.2.2 e⟩}
theorem Fn.enterT (Δ:Fd)(hD:FokB G Δ){l:Nat}{ps:List Value}{kw:List (Str×Value)}{A:H2}{K wr:List Addr}{s b:A8}{ow:List (Addr×List D)}{fx:Obs}{V:List (Option D)}{dk:List (Addr×Obj)}{Q E:Value->A8->Prop}
 (hl:2<=l)(rm:Rm A l)(gnd:Gnd0 G s.heap)(tb:Tb s.heap)(hd:HdA A s.heap)
 (gndB:Gnd0 G b.heap)(tbB:Tb b.heap)(go:GoW wr b s)(klB: ∀a∈K,a<b.heap.objs.size)(wrq: ∀a∈wr,∃vs n,b.heap.get? a=some (M8 vs n))
 (dkq: ∀p∈dk,p.1<b.heap.objs.size/\p.1∉wr/\p.1≠82/\p.1≠89)(dkv: ∀p∈dk,∃sl,s.heap.get? p.1=some {p.2 with slots:=sl})
 (ho:Ows K ow s)(hf: ∀p∈fx,s.heap.get? p.1=some p.2/\p.1≠82/\p.1≠89)(hfx: ∀p∈fx,(∀v,p.2.data≠ .cell v)/\ ¬Sq p.2)
 (bind: ∀(M:ze7) (A:H2) (E':Value->A8->Prop) (Q':List (Str×Value)->A8->Prop),(∀s₁ binds,Go s s₁->Bnd Δ V (K++ow.map (·.1)) binds s₁->Q' binds s₁)->D0 M A (zay Δ.fd ⟨ps,kw⟩) Q' E' s)
 (body: ∀L s₂,FrS G (Δ.cxw (A.deeper (H3 Δ.fd L Δ.f)) (H3 Δ.fd L Δ.f) b K wr dk (l-2)) ⟨ow,fx,[]⟩ V s₂->Go s s₂->s.toks<=s₂.toks->
   D0 (D1 pw w) (A.deeper (H3 Δ.fd L Δ.f)) (X5 Δ.body (H3 Δ.fd L Δ.f)) (λ f s'=>Q (match f with| .ret v=>v|_=> .none) s')
    (λ e s'=>D0 (D1 pw w) (A.deeper (H3 Δ.fd L Δ.f)) (zji (H3 Δ.fd L Δ.f) e) (λ z s''=>E e s'') (λ e' s''=>E e' s'') s') s₂):
 D0 (D1 pw w) A (call (.ref Δ.f) ps kw) Q E s:=
 Fn.enterX (X:=Unit) (fx:=λ z=>fx) (V:=λ z=>V) Δ hD hl rm gnd tb hd gndB tbB go klB wrq dkq dkv ho (λ z=>hfx) (λ A E' Q' h=>bind (D1 pw w) A E' Q' λ s₁ binds g B=>h () s₁ binds g (λ p hp=>let ⟨h1,h2,h3⟩:=hf p hp;⟨g.keep _ _ h2 h3 h1,h2,h3⟩) B) λ z L s₂ F g ht=>body L s₂ F g ht
theorem Fn.enter (Δ:Fd)(hD:FokB G Δ){l:Nat}{ps:List Value}{kw:List (Str×Value)}{A:H2}{K wr:List Addr}{s b:A8}{ow:List (Addr×List D)}{fx:Obs}{V:List (Option D)}{dk:List (Addr×Obj)}{Q E:Value->A8->Prop}
 (hl:2<=l)(rm:Rm A l)(gnd:Gnd0 G s.heap)(tb:Tb s.heap)(hd:HdA A s.heap)
 (gndB:Gnd0 G b.heap)(tbB:Tb b.heap)(go:GoW wr b s)(klB: ∀a∈K,a<b.heap.objs.size)(wrq: ∀a∈wr,∃vs n,b.heap.get? a=some (M8 vs n))
 (dkq: ∀p∈dk,p.1<b.heap.objs.size/\p.1∉wr/\p.1≠82/\p.1≠89)(dkv: ∀p∈dk,∃sl,s.heap.get? p.1=some {p.2 with slots:=sl})
 (ho:Ows K ow s)(hf: ∀p∈fx,s.heap.get? p.1=some p.2/\p.1≠82/\p.1≠89)(hfx: ∀p∈fx,(∀v,p.2.data≠ .cell v)/\ ¬Sq p.2)
 (bind: ∀(M:ze7) (A:H2) (E':Value->A8->Prop) (Q':List (Str×Value)->A8->Prop),(∀s₁ binds,Go s s₁->Bnd Δ V (K++ow.map (·.1)) binds s₁->Q' binds s₁)->D0 M A (zay Δ.fd ⟨ps,kw⟩) Q' E' s)
 (body: ∀L s₂,FrS G (Δ.cxw (A.deeper (H3 Δ.fd L Δ.f)) (H3 Δ.fd L Δ.f) b K wr dk (l-2)) ⟨ow,fx,[]⟩ V s₂->Go s s₂->
   D0 (D1 pw w) (A.deeper (H3 Δ.fd L Δ.f)) (X5 Δ.body (H3 Δ.fd L Δ.f)) (λ f s'=>Q (match f with| .ret v=>v|_=> .none) s')
    (λ e s'=>D0 (D1 pw w) (A.deeper (H3 Δ.fd L Δ.f)) (zji (H3 Δ.fd L Δ.f) e) (λ z s''=>E e s'') (λ e' s''=>E e' s'') s') s₂):
 D0 (D1 pw w) A (call (.ref Δ.f) ps kw) Q E s:=
 Fn.enterT Δ hD hl rm gnd tb hd gndB tbB go klB wrq dkq dkv ho hf hfx bind λ L s₂ F g z=>body L s₂ F g
end
open Internal.Fn renaming enter->zmo
structure Scal (H:Hm)(V:List (Option D)):Prop where
 v: ∀d,some d∈V->Sc d=true
 o: ∀a ds,(a,ds)∈H.own-> ∀d∈ds,Sc d=true
theorem RpL.scalar {g g':Addr->Option Obj}: ∀{l:List D} {vs:List Value},(∀d∈l,Sc d=true)->RpL g l vs->RpL g' l vs
 |[],vs,_,h=>h
 |d::r,vs,hs,h=>by
  obtain⟨v,us,e,h1,h2⟩:=zgw h;exact⟨v,us,e,h1.scalar (hs d A9),RpL.scalar (λ d hd=>hs d (B1 _ hd)) h2⟩
section
variable{G:Gt}{w:E3}{c:Cx}{H:Hm}{V:List (Option D)}{s s':A8}
variable{P:Flow->A8->Prop}{E:Value->A8->Prop}{rest:List Stmt}
structure St2 (c:Cx)(H:Hm)(W:List Addr)(s s':A8):Prop where
 keep: ∀b o,b∉W->s.heap.get? b=some o->s'.heap.get? b=some o
 lo: ∀a∈W,c.b.heap.objs.size<=a/\a∉H.own.map (·.1)
 nof: ∀a∈W,∀o,s.heap.get? a=some o->NoF o/\(∀v,o.data≠ .cell v)/\a≠c.env.locals
 size:s.heap.objs.size<=s'.heap.objs.size
 gens:s'.gens=s.gens
 os:s'.os=s.os
 hdn: ∀a∈W,c.A.handled≠some (.ref a)
theorem FrS.stepS {W:List Addr}{fx':Obs}(S:Scal H V)(F:FrS G c H V s)(m:St2 c H W s s')
 (hf: ∀a o,(a,o)∈fx'->a∉W/\(a,o)∈H.fix):FrS G c ⟨H.own,fx',H.gen⟩ V s':=by
 have cell: ∀{a:Addr} {v:Option Value},s.heap.IsCell a v->s'.heap.IsCell a v:=λ{a v} ⟨o,h1,h2⟩=>⟨o,m.keep a o (λ hb=>(m.nof a hb o h1).2.1 v h2) h1,h2⟩;have ns: ∀{mm},s.heap.Ns c.env.locals mm->s'.heap.Ns c.env.locals mm:=λ{mm} ⟨o,es,ep,h1,h2,r⟩=>⟨o,es,ep,m.keep _ o (λ hb=>(m.nof _ hb o h1).2.2 rfl) h1,h2,r⟩;refine{ok:=F.ok,go:=?_,ns:=?_,vars:=?_,own:=?_,olo:=F.olo,ond:=F.ond,fix:=?_,gen:=?_,cells:=?_,hdA:=λ v e=>?_,dk:=λ p hp=>?_}
 ·have g:=F.go
  have keep: ∀a o,a≠82->a≠89->a∉c.wr->c.b.heap.get? a=some o->s'.heap.get? a=some o:=λ a o h1 h2 h3 e=>
   m.keep a o (λ hb=>absurd (C6 e) (D7.mpr (m.lo a hb).1)) (g.keep a o h1 h2 h3 e)
  refine⟨keep,λ t=>?_,A7 g.size m.size,λ i x e=>?_,λ i x e=>?_,m.os.trans g.os⟩
  ·exact(g.tab t).butW (W:=W) m.size (λ b o hb hn e=>m.keep b o hb e) λ a ha o e=>(m.nof a ha o e).1
  ·rw[m.gens];exact g.gens i x e
  ·rw[m.gens] at e;exact g.bare i x e
 ·obtain⟨mm,h⟩:=F.ns
  exact⟨mm,ns h⟩
 ·intro i x d h1 h2
  obtain⟨v,h3,h4⟩:=F.vars i x d h1 h2;refine⟨v,?_,h4.scalar (S.v d (A6 h2))⟩
  cases h3 with
  |loc hk mm hn hm=>exact .loc hk mm (ns hn) hm
  |cel hk a hc hv=>exact .cel hk a hc (cell hv)
 ·intro a ds h
  obtain⟨o,vs,h3,h4,h5⟩:=F.own a ds h;exact⟨o,vs,m.keep a o (λ hb=>(m.lo a hb).2 (I4 (f:=(·.1)) h)) h3,h4,RpL.scalar (S.o a ds h) h5⟩
 ·intro a o h
  obtain⟨h1,h2⟩:=hf a o h;obtain⟨h3,h4⟩:=F.fix a o h2;exact⟨m.keep a o h1 h3,h4⟩
 ·intro p hp
  rw[m.gens];exact F.gen p hp
 ·intro x a h
  obtain⟨v,h1⟩:=F.cells x a h;exact⟨v,cell h1⟩
 ·obtain⟨b,o,vs,e1,e2,e3⟩:=F.hdA v e
  exact⟨b,o,vs,e1,m.keep b o (λ hb=>m.hdn b hb (by rw[e,e1])) e2,e3⟩
 ·obtain⟨sl,e⟩:=F.dk p hp
  exact⟨sl,m.keep _ _ (λ hb=>absurd (F.ok.dkq p hp).1 (D7.mpr (m.lo _ hb).1)) e⟩
theorem Wx.freeze {ns:List Int}(i:Nat)(x:Str)(hx:c.nm[i]? =some x)(hv:V[i]? =some (some (.lst (izD ns))))
 (h: ∀m vs n,m∉c.K->RpL (λ z=>none) (izD ns) vs->Wx G w c ⟨H.own,(m,M8 vs n)::H.fix,H.gen⟩ (V.set i (some (.ptr m))) rest P E):Wx G w c H V rest P E:=by
 refine⟨λ s F=>?_⟩;obtain⟨v,h1,h2⟩:=F.vars i x _ hx hv;obtain⟨m,o,vs,rfl,ho,hL,hl⟩:=h2.lst_inv;obtain⟨n,rfl⟩:=hL;rw[hid_some] at ho;refine(h m vs n (λ q=>ho.1 (D3 _ q)) (RpL.scalar (λ d hd=>by obtain⟨k,_,rfl⟩:=C5.mp hd;rfl) hl)).h s ?_
 have hnot:m≠c.env.locals:=λ q=>by
  obtain⟨mm,oL,es,ep,hLd,hd,_⟩:=F.ns;rw[<-q,ho.2] at hLd;cases hLd;cases hd
 exact{
  ok:=F.ok,go:=F.go,ns:=F.ns,own:=F.own,olo:=F.olo,ond:=F.ond,gen:=F.gen,cells:=F.cells,hdA:=F.hdA,dk:=F.dk
  vars:=λ j y d hy hd=>by
   by_cases e:i=j
   ·subst e
    rw[zdj (C7.mp hv).1] at hd;cases hd;rw[hx] at hy;cases hy;exact⟨_,h1,rfl⟩
   ·rw[P8 e] at hd
    exact F.vars j y d hy hd
  fix:=λ a o' h=>by
   rcases B9.mp h with q|q
   ·cases q
    exact⟨ho.2,F.tb.off ho.2 (.seq ⟨_,_,rfl⟩),λ v e=>(by cases e),hnot,λ q=>ho.1 (D4 _ q)⟩
   ·exact F.fix a o' q}
theorem Wx.thaw {ns:List Int}{m:Addr}{vs:List Value}{n:Nat}{fx:Obs}(i:Nat)(hv:V[i]? =some (some (.ptr m)))(hr:RpL (λ z=>none) (izD ns) vs)(hm:(m,M8 vs n)∈H.fix)(hK:m∉c.K)(hfx: ∀p∈fx,p∈H.fix)
 (h:Wx G w c ⟨H.own,fx,H.gen⟩ (V.set i (some (.lst (izD ns)))) rest P E):Wx G w c H V rest P E:=by
 refine⟨λ s F=>h.h s ?_⟩;obtain⟨f1,f2,f3,f4,f5⟩:=F.fix m _ hm;exact{
  ok:=F.ok,go:=F.go,ns:=F.ns,own:=F.own,olo:=F.olo,ond:=F.ond,gen:=F.gen,cells:=F.cells,hdA:=F.hdA,dk:=F.dk
  vars:=λ j y d hy hd=>by
   by_cases e:i=j
   ·subst e
    rw[zdj (C7.mp hv).1] at hd;cases hd;obtain⟨v,h1,h2⟩:=F.vars i y _ hy hv;have e:v= .ref m:=h2;subst e;refine⟨_,h1,?_⟩;refine⟨m,M8 vs n,vs,rfl,?_,zho _ _,RpL.scalar (λ d hd=>by obtain⟨k,_,rfl⟩:=C5.mp hd;rfl) hr⟩
    rw[hid_some];exact⟨λ q=>(G1.mp q).elim hK f5,f1⟩
   ·rw[P8 e] at hd
    exact F.vars j y d hy hd
  fix:=λ a o h=>F.fix a o (hfx _ h)}
structure ItrZ (G:Gt)(w:E3)(A:H2)(K:List Addr)(t:Expr)(it:Value)(items:List D)(b:Nat)(wr:List Addr)(St:Nat->Obs->Prop):Prop where
 lo: ∀a∈wr,b<=a
 ob: ∀k ob,St k ob-> ∀p∈ob,NoF p.2/\(∀v,p.2.data≠ .cell v)/\p.1∉K/\(b<=p.1\/ ∀es ep,p.2.data≠ .dict es ep)
 wrin: ∀k ob,St k ob-> ∀a∈wr,a∈ob.map (·.1)
 nxt: ∀k d ob s,items[k]? =some d->St k ob->(∃K',Ok G A K' s)->(∀p∈ob,s.heap.get? p.1=some p.2)-> ∀(Q E:Value->A8->Prop),
  (∀v s' ob',(∀b o,b∉wr->s.heap.get? b=some o->s'.heap.get? b=some o)->s.heap.objs.size<=s'.heap.objs.size->s'.gens=s.gens->s'.os=s.os->St (k+1) ob'->(∀p∈ob',s'.heap.get? p.1=some p.2)->Ft ob' s s' d v->Q v s')->
  D0 (D1 pw w) A (zbh it) (λ r s1=> ∃v,r=some v/\D0 (D1 pw w) A (U3 t it v) (λ z s'=>Q v s') E s1) E s
 fin: ∀ob s,St items.length ob->(∃K',Ok G A K' s)->(∀p∈ob,s.heap.get? p.1=some p.2)-> ∀(Q:Option Value->A8->Prop) (E:Value->A8->Prop),
  (∀s',(∀b o,b∉wr->s.heap.get? b=some o->s'.heap.get? b=some o)->s.heap.objs.size<=s'.heap.objs.size->s'.gens=s.gens->s'.os=s.os->Q none s')->D0 (D1 pw w) A (zbh it) Q E s
structure IvZ (G:Gt)(w:E3)(c:Cx)(H:Hm)(V:List (Option D))(t iter:Expr)(items:List D):Prop where
 h: ∀s,FrS G c H V s-> ∀(Q E:Value->A8->Prop),
  (∀it s' wr St ob,Go s s'->ItrZ G w c.A (hk c H true) t it items s.heap.objs.size wr St->St 0 ob->(∀p∈ob,s'.heap.get? p.1=some p.2)->Q it s')->
  D0 (D1 pw w) c.A (M3 iter c.env) (λ x s1=>D0 (D1 pw w) c.A (zj8 x) Q E s1) E s
theorem FrS.enterZ {t:Expr}{it:Value}{items:List D}{s₀:A8}{wr:List Addr}{St:Nat->Obs->Prop}{ob:Obs}{k:Nat}{H₀:Hm}{V₀:List (Option D)}{K:List Addr}
 (F₀:FrS G c H₀ V₀ s₀)(F:FrS G c H V s)(hK: ∀a∈H.own.map (·.1),a∈K)(I:ItrZ G w c.A K t it items s₀.heap.objs.size wr St)(st:St k ob)(ho: ∀p∈ob,s.heap.get? p.1=some p.2):
 FrS G c (H.with ob []) V s where
 ok:=F.ok
 go:=F.go
 ns:=F.ns
 vars:=F.vars
 own:=F.own
 olo:=F.olo
 ond:=F.ond
 fix:=λ a o h=>by
  rcases G1.mp h with h|h
  ·obtain⟨h1,h2,h4,h5⟩:=I.ob k ob st _ h
   refine⟨ho _ h,F.tb.off (ho _ h) h1,h2,λ q=>?_,λ q=>h4 (hK _ q)⟩;obtain⟨mm,oL,es,ep,hL,hLd,_⟩:=F₀.ns;rcases h5 with h5|h5
   ·have:=C6 hL
    rw[<-q] at this;exact absurd this (D7.mpr h5)
   ·obtain⟨mm,oL,es,ep,hL,hLd,_⟩:=F.ns
    have:=ho _ h;rw[show(a,o).1=c.env.locals from q,hL] at this
    cases this;exact h5 es ep hLd
  ·exact F.fix a o h
 gen:=λ p h=>F.gen p h
 cells:=F.cells
 hdA:=F.hdA
 dk:=F.dk
theorem FrS.movedZ {t:Expr}{it:Value}{items:List D}{s₀:A8}{wr:List Addr}{St:Nat->Obs->Prop}{ob:Obs}{k:Nat}
 (F₀:FrS G c H V s₀){V':List (Option D)}{ow:List (Addr×List D)}(he:ow.map (·.1)=H.own.map (·.1))(S:Scal (H.owns ow) V')(F:FrS G c ((H.owns ow).with ob []) V' s)(I:ItrZ G w c.A (hk c H true) t it items s₀.heap.objs.size wr St)(st:St k ob)
 (keep: ∀b o,b∉wr->s.heap.get? b=some o->s'.heap.get? b=some o)(size:s.heap.objs.size<=s'.heap.objs.size)(gens:s'.gens=s.gens)(os:s'.os=s.os):
 FrS G c (H.owns ow) V' s':=by
 refine FrS.stepS (W:=wr) (H:=(H.owns ow).with ob []) ⟨S.v,S.o⟩ F ⟨keep,λ a ha=>⟨A7 F₀.go.size (I.lo a ha),λ hm=>?_⟩,λ a ha o e=>?_,size,gens,os,λ a ha q=>?_⟩ λ a o h=>?_
 ·rw[show((H.owns ow).with ob []).own.map (·.1)=ow.map (·.1) from rfl,he] at hm
  obtain⟨⟨a',ds'⟩,hp,e⟩:=C5.mp hm;obtain⟨o,vs,h1,_⟩:=F₀.own a' ds' hp;have:a<s₀.heap.objs.size:=by rw[<-show a'=a from e];exact C6 h1
  exact absurd this (D7.mpr (I.lo a ha))
 ·obtain⟨p,hp,rfl⟩:=C5.mp (I.wrin k ob st a ha)
  obtain⟨f1,f2,f3,f4,f5⟩:=F.fix p.1 p.2 (D3 _ hp);rw[f1] at e;cases e;exact⟨(I.ob k ob st p hp).1,f3,f4⟩
 ·obtain⟨b',o,vs,e1,e2,_⟩:=F₀.hdA _ q
  cases e1;exact absurd (C6 e2) (D7.mpr (I.lo a ha))
 ·exact⟨λ ha=>absurd (C6 (F₀.fix a o h).1) (D7.mpr (I.lo a ha)),D4 _ h⟩
theorem Wx.forZ {t iter:Expr}{body:List Stmt}{ps:Pos}{items:List D}(iv:IvZ G w c H V t iter items)
 (ow:Nat->List (Addr×List D))(V':List (Option D))(ho:ow 0=H.own)(hV: ∀(i:Nat) d,V'[i]? =some (some d)->V[i]? =some (some d))(hm: ∀k,(ow k).map (·.1)=H.own.map (·.1))(S: ∀k,Scal (H.owns (ow k)) V')
 (turn: ∀k d,items[k]? =some d-> ∀fx gn,∃V'',Tg G w c ⟨ow k,fx,gn⟩ V' t d V''/\Wx G w c ⟨ow k,fx,gn⟩ V'' body (LpP G c ⟨ow (k+1),fx,gn⟩ V' True P) (λ z z=>False))
 (h:Wx G w c (H.owns (ow items.length)) V' rest P E)
 (hs: ∀x,J0 iter c.env x=pure x:=by intro _;rfl):Wx G w c H V (.For t iter body [] ps::rest) P E:=by
 refine⟨λ s F=>?_⟩;refine E8 (wpAny_For (iv.h s F _ _ λ it s2 wr St ob g2 I st hob=>?_) hs);have F1:=F;have hown: ∀k,∀a∈(H.owns (ow k)).own.map (·.1),a∈hk c H true:=λ k a ha=>D4 _ (by rw[<-hm k];exact ha)
 have hkk: ∀k fx gn,hk c ⟨ow k,fx,gn⟩ true=hk c H true:=λ k fx gn=>by simp only[hk,if_true,hm]
 have start:FrS G c ((H.owns (ow 0)).with ob []) V' s2:=by
  rw[ho];exact(FrS.enterZ F1 (F1.onto g2) (λ a ha=>D4 _ ha) I st hob).weak hV
 refine zng (λ n s=> ∃k ob,n+k=items.length/\St k ob/\FrS G c ((H.owns (ow k)).with ob []) V' s) (λ n s3 hI=>?_) items.length ⟨0,ob,rfl,st,start⟩;obtain⟨k,ob3,hn,st3,F3⟩:=hI;have ok3:Ok G c.A (hk c H true) s3:=by have:=F3.okS true;rwa [hkk] at this
 have ob3': ∀p∈ob3,s3.heap.get? p.1=some p.2:=λ p hp=>(F3.fix p.1 p.2 (D3 _ hp)).1
 cases hd:items[k]? with
 |none=>
  have hk':k=items.length:=by have:=W4.mp hd;omega
  subst hk';refine I.fin ob3 s3 st3 ⟨_,ok3⟩ ob3' _ _ λ s4 m1 m2 m3 m4=>?_;refine C4 ?_;exact h.h s4 (FrS.movedZ F1 (hm _) (S _) F3 I st3 m1 m2 m3 m4)
 |some d=>
  have hk':=(C7.mp hd).1;refine E7 (I.nxt k d ob3 s3 hd st3 ⟨_,ok3⟩ ob3' (λ v s4=>D0 (D1 pw w) c.A (M9 t c.env v) (λ z s₂=>D0 (D1 pw w) c.A (X5 body c.env) (λ f s₃=>match f with
   | .next| .cont=> ∃m,m<n/\ ∃k ob,m+k=items.length/\St k ob/\FrS G c ((H.owns (ow k)).with ob []) V' s₃
   | .brk=>(match(zod zlu:zuy) with| .ok f=>(match f with| .next=>D0 (D1 pw w) c.A (X5 rest c.env) P E s₃|f=>P f s₃)| .error e=>zit (D1 pw w) c.A c.env E e s₃)
   | .ret v=>(match(zod (zph v):zuy) with| .ok f=>(match f with| .next=>D0 (D1 pw w) c.A (X5 rest c.env) P E s₃|f=>P f s₃)| .error e=>zit (D1 pw w) c.A c.env E e s₃)) (LpE w c E) s₂) (LpE w c E) s4) (LpE w c E) λ v s4 ob4 m1 m2 m3 m4 st4 hob4 r4=>?_) (λ r s4 h4=>?_) λ z z e=>e
  rotate_left
  ·obtain⟨v,rfl,h4⟩:=h4
   exact h4
  have F4:=FrS.movedZ F1 (hm k) (S k) F3 I st3 m1 m2 m3 m4;have F4':=FrS.enterZ F1 F4 (hown k) I st4 hob4;obtain⟨V'',ht,hb⟩:=turn k d hd (ob4++H.fix) ([]++H.gen);refine ht.h s4 v F4' (by rw[hkk];exact r4.rp (λ p hp=>(I.ob _ _ st4 p hp).2.2.1) ok3.kl) _ _ λ s5 F5 z=>?_
  refine E7 (hb.h s5 F5) (λ f s6 h6=>?_) λ v s6 e=>e.elim
  cases f with
  |next=>exact⟨n-1,by omega,k+1,ob4,by omega,st4,h6.2⟩
  |cont=>exact⟨n-1,by omega,k+1,ob4,by omega,st4,h6.2⟩
  |brk=>exact h6.elim
  |ret v=>exact h6
end
noncomputable abbrev yg9 (TI TO:Addr)(f0:Value):Obj:={cls:= .type "zip",dict:=none,data:= .fields #[f0,.bool false,.bool false,.ref TI,.ref TO],slots:= #[]}
noncomputable abbrev prO (a b:Value):Obj:={cls:= .type "tuple",data:= .seq #[a,b]}
noncomputable def zyf (l1 l2:List D):List D:=(l1.zip l2).map λ p=> .tup [p.1,p.2]
noncomputable def ZSt (z TI TO i1 i2 a1 a2:Addr)(L1 L2:Obj)(fo:Obs)(k:Nat)(ob:Obs):Prop:=
 ∃a b o1 o2,(o1.cls= .type "list_iterator"/\o1.data= .fields #[.ref a1,I6 k])/\(o2.cls= .type "list_iterator"/\o2.data= .fields #[.ref a2,I6 k])/\
  ob=(z,yg9 TI TO .none)::(TI,prO (.ref i1) (.ref i2))::(TO,prO a b)::(i1,o1)::(i2,o2)::(a1,L1)::(a2,L2)::fo
section
variable{G:Gt}{w:E3}{c:Cx}{H:Hm}{V:List (Option D)}{s s':A8}
theorem IvZ.zip {x y:Str}{p q ps' pz ps:Pos}{nx:Nat}{e1 e2:Expr}{l1 l2:List D}(hh:c.A.handled=none)(hf:Nv G w c (.Name "zip" pz) (.type "zip"))(ha:As G w c H V true [e1,e2] [.lst l1,.lst l2]):
 IvZ G w c H V (.Tuple [.Name x p,.Name y q] nx ps') (.Call (.Name "zip" pz) [e1,e2] [] ps) (zyf l1 l2):=by
 refine⟨λ s₀ F Q E kq=>?_⟩
 with_reducible refine L0 (hf.h H V s₀ F _ _ (O7 (ha.ns _) (N2 (ha.ns _) (ha.h _ s₀ F _ _ λ vs s g1 r1=>?_))))
 obtain⟨v1,v2,rfl,rv1,rv2⟩:=zkp r1;obtain⟨a1,L1,vs1,rfl,ho1,hL1,hl1⟩:=rv1.lst_inv;obtain⟨a2,L2,vs2,rfl,ho2,hL2,hl2⟩:=rv2.lst_inv;rw[hid_some] at ho1 ho2;obtain⟨fo1,f1a,f1b⟩:=RpL.foot _ _ hl1;obtain⟨fo2,f2a,f2b⟩:=RpL.foot _ _ hl2;have ok:=(F.onto g1).okS true;have lt1:=C6 ho1.2;have lt2:=C6 ho2.2;refine call_zip_2 (hL1.isList ho1.2) (hL2.isList ho2.2) λ h' hz hTI hTO hit1 hit2 hsz hkp=>?_;refine wpAny_pyIter_zip hz ?_;have D:=zipApart_new lt1 lt2;generalize hz':s.heap.objs.size+4=z at hz D;generalize hTI':s.heap.objs.size+2=TI at hz hTI D;generalize hTO':s.heap.objs.size+3=TO at hz hTO D;generalize hi2':s.heap.objs.size+1=i2 at hTI hit2 D;generalize hi1':s.heap.objs.size=i1 at hTI hit1 D;have hfo: ∀pq∈fo1++fo2,Sq pq.2/\pq.1∉hk c H true/\s.heap.get? pq.1=some pq.2:=fma (λ pq h=>⟨(f1a pq h).2,hid_some.mp (f1a pq h).1⟩) λ pq h=>⟨(f2a pq h).2,hid_some.mp (f2a pq h).1⟩;obtain⟨o1,ho1',hc1,hd1⟩:=hit1;obtain⟨o2,ho2',hc2,hd2⟩:=hit2;have gg:Go s {s with heap:=h'}:=Go.of hkp (by show _<=h'.objs.size;rw[hsz];omega) rfl rfl
 have hnK: ∀a,s.heap.objs.size<=a->a∉hk c H true:=λ a h hm=>absurd (ok.kl a hm) (D7.mpr h);refine kq _ _ [z,TO,i1,i2] (ZSt z TI TO i1 i2 a1 a2 L1 L2 (fo1++fo2)) _ (g1.trans gg) ?_ ⟨.none,.none,o1,o2,⟨hc1,hd1⟩,⟨hc2,hd2⟩,rfl⟩ ?_
 rotate_left
 ·exact fmc hz (fmc hTI (fmc hTO (fmc ho1' (fmc ho2' (fmc (hkp _ _ ho1.2) (fmc (hkp _ _ ho2.2) λ pq hp=>hkp _ _ (hfo pq hp).2.2))))))
 have hs0:s₀.heap.objs.size<=s.heap.objs.size:=g1.size;have hsq: ∀(o:Obj),Sq o->NoF o/\(∀v,o.data≠ .cell v)/\ ∀es ep,o.data≠ .dict es ep:=λ o ⟨vs,n,e⟩=>⟨.inl λ j q=>(by cases e.symm.trans q),(λ j q=>by cases e.symm.trans q),λ j j q=>by cases e.symm.trans q⟩
 have sq: ∀(a:Addr) (o:Obj),Sq o->a∉hk c H true->NoF o/\(∀v,o.data≠ .cell v)/\a∉hk c H true/\(s₀.heap.objs.size<=a\/ ∀es ep,o.data≠ .dict es ep):=λ a o h k=>⟨(hsq o h).1,(hsq o h).2.1,k,.inr (hsq o h).2.2⟩;have fl: ∀(a:Addr) (o:Obj) T fs,o.cls= .type T->T≠ "code"->o.data= .fields fs->s.heap.objs.size<=a->NoF o/\(∀v,o.data≠ .cell v)/\a∉hk c H true/\(s₀.heap.objs.size<=a\/ ∀es ep,o.data≠ .dict es ep):=λ a o T fs e1 e2 e3 h=>
  ⟨.inr ⟨λ q=>e2 (zhu (e1.symm.trans q)),(λ q=>by cases e1.symm.trans q)⟩,(λ j q=>by cases e3.symm.trans q),hnK a h,.inl (A7 hs0 h)⟩
 have lz:s.heap.objs.size<=z:=hz'▸J9 _ _;have lTI:s.heap.objs.size<=TI:=hTI'▸J9 _ _;have lTO:s.heap.objs.size<=TO:=hTO'▸J9 _ _;have li2:s.heap.objs.size<=i2:=hi2'▸J9 _ _;have li1:s.heap.objs.size<=i1:=hi1'▸D2 _;constructor
 ·exact fmc (A7 hs0 lz) (fmc (A7 hs0 lTO) (fmc (A7 hs0 li1) (fmc (A7 hs0 li2) fmn)))
 ·rintro k ob ⟨a,b,p1,p2,h1,h2,rfl⟩
  exact fmc (fl _ _ "zip" _ rfl (by decide) rfl lz) (fmc (sq _ _ ⟨_,_,rfl⟩ (hnK _ lTI)) (fmc (sq _ _ ⟨_,_,rfl⟩ (hnK _ lTO)) (fmc (fl _ _ _ _ h1.1 (by decide) h1.2 li1) (fmc (fl _ _ _ _ h2.1 (by decide) h2.2 li2)
   (fmc (sq _ _ hL1.sq ho1.1) (fmc (sq _ _ hL2.sq ho2.1) λ pq hp=>sq _ _ (hfo pq hp).1 (hfo pq hp).2.1))))))
 ·rintro k ob ⟨a,b,p1,p2,h1,h2,rfl⟩
  exact fmc A9 (fmc (.tail _ (.tail _ (.head _))) (fmc (.tail _ (.tail _ (.tail _ (.head _)))) (fmc (.tail _ (.tail _ (.tail _ (.tail _ (.head _))))) fmn)))
 ·rintro k d ob s1 hd ⟨a,b,p1,p2,h1,h2,rfl⟩ hok hob Q E kk
  have oz:=hob _ (.head _);have oTI:=hob _ (.tail _ (.head _));have oTO:=hob _ (.tail _ (.tail _ (.head _)));have oi1:=hob _ (.tail _ (.tail _ (.tail _ (.head _))));have oi2:=hob _ (.tail _ (.tail _ (.tail _ (.tail _ (.head _)))));have oa1:=hob _ (.tail _ (.tail _ (.tail _ (.tail _ (.tail _ (.head _))))));have oa2:=hob _ (.tail _ (.tail _ (.tail _ (.tail _ (.tail _ (.tail _ (.head _)))))));have ofo: ∀pq∈fo1++fo2,s1.heap.get? pq.1=some pq.2:=λ pq hp=>hob pq (.tail _ (.tail _ (.tail _ (.tail _ (.tail _ (.tail _ (.tail _ hp)))))));unfold zyf at hd;rw[B7] at hd
  cases hzp:(l1.zip l2)[k]? with
  |none=>rw[hzp] at hd;cases hd
  |some pr=>
   rw[hzp] at hd;cases hd;rw[O8] at hzp;obtain⟨va,hva,_⟩:=hl1.get hzp.1;obtain⟨vb,hvb,_⟩:=hl2.get hzp.2;refine wpAny_pyNext_zip_item D oz oTI oTO ⟨_,oi1,h1.1,h1.2⟩ ⟨_,oi2,h2.1,h2.2⟩ (hL1.isList oa1) (hL2.isList oa2) (x:=va) (y:=vb) (by simpa using hva) (by simpa using hvb) λ hp' b1 b2 b3 b4 b5 b6 b7=>?_
   refine⟨_,rfl,?_⟩;refine wpAny_letOwnedTupleGo_zip b1 λ hq' c1 c2=>?_;have hzlt:=C6 oz;have nT: ∀{ad:Addr} {o:Obj},s1.heap.get? ad=some o->s1.heap.objs.size≠ad:=λ e q=>H8 _ (q▸C6 e);have keep: ∀b o,b∉[z,TO,i1,i2]->s1.heap.get? b=some o->hq'.get? b=some o:=λ b o hb e=>by
    simp only[B9,D6,or_false,not_or] at hb;exact c2.extBut _ _ hb.1 (b7 b o hb.1 hb.2.1 hb.2.2.1 hb.2.2.2 e)
   obtain⟨p1',q1,q2,q3⟩:=b3;obtain⟨p2',q4,q5,q6⟩:=b4;have hTq:hq'.get? s1.heap.objs.size=some (prO va vb):=c2.extBut _ _ (nT oz) b5;have hfk: ∀pq∈fo1++fo2,hq'.get? pq.1=some pq.2:=λ pq hp=>by
    have hlt:=C6 (hfo pq hp).2.2;have ne: ∀a,s.heap.objs.size<=a->pq.1≠a:=λ a h=>za0 (C9 hlt h);exact c2.extBut _ _ (ne _ lz) (b7 _ _ (ne _ lz) (ne _ lTO) (ne _ li1) (ne _ li2) (ofo pq hp))
   refine kk _ _ ((z,yg9 TI TO .none)::(TI,prO (.ref i1) (.ref i2))::(TO,prO va vb)::(i1,p1')::(i2,p2')::(a1,L1)::(a2,L2)::(fo1++fo2)) keep ?_ rfl rfl ⟨va,vb,p1',p2',⟨q2,q3⟩,⟨q5,q6⟩,rfl⟩ ?_ ?_
   ·show _<=hq'.objs.size
    rw[c2.1,b6];omega
   ·exact fmc c1 (fmc (c2.extBut _ _ D.TIz (b7 _ _ D.TIz D.TITO D.TIi1 D.TIi2 oTI)) (fmc (c2.extBut _ _ D.TOz b2) (fmc (c2.extBut _ _ D.i1z q1) (fmc (c2.extBut _ _ D.i2z q4)
     (fmc (c2.extBut _ _ D.l1z (b7 _ _ D.l1z D.l1TO D.l1i1 D.l1i2 oa1)) (fmc (c2.extBut _ _ D.l2z (b7 _ _ D.l2z D.l2TO D.l2i1 D.l2i2 oa2)) hfk))))))
   ·refine⟨(s1.heap.objs.size,prO va vb)::(fo1++fo2),fmc ⟨.inr (D2 _),hTq⟩ λ pq hp=>⟨.inl (.tail _ (.tail _ (.tail _ (.tail _ (.tail _ (.tail _ (.tail _ hp))))))),hfk pq hp⟩,λ g' hg=>?_⟩
    ·have r1:=(f1b g' λ pq hp=>hg pq (B1 _ (D3 _ hp))).get hzp.1
     have r2:=(f2b g' λ pq hp=>hg pq (B1 _ (D4 _ hp))).get hzp.2;obtain⟨va',e1,r1⟩:=r1;obtain⟨vb',e2,r2⟩:=r2;rw[hva] at e1;cases e1;rw[hvb] at e2;cases e2;exact Rp.tup' (n:=0) (vs:=[va,vb]) (hg _ A9) (U4 r1 (U4 r2 Z8))
 ·rintro ob s1 ⟨a,b,p1,p2,h1,h2,rfl⟩ hok hob Q E kk
  have oz:=hob _ (.head _);have oTI:=hob _ (.tail _ (.head _));have oTO:=hob _ (.tail _ (.tail _ (.head _)));have oi1:=hob _ (.tail _ (.tail _ (.tail _ (.head _))));have oi2:=hob _ (.tail _ (.tail _ (.tail _ (.tail _ (.head _)))));have oa1:=hob _ (.tail _ (.tail _ (.tail _ (.tail _ (.tail _ (.head _))))));have oa2:=hob _ (.tail _ (.tail _ (.tail _ (.tail _ (.tail _ (.tail _ (.head _)))))));have e1:=hl1.length;have e2:=hl2.length;have hend:vs1.toArray[(zyf l1 l2).length]? =none\/vs2.toArray[(zyf l1 l2).length]? =none:=by
   have:(zyf l1 l2).length=min l1.length l2.length:=by unfold zyf;rw[B5,List.length_zip]
   rw[this];rcases zsq l1.length l2.length with h|h
   ·exact .inl (zt5 (by simp;omega))
   ·exact .inr (zt5 (by simp;omega))
  refine Q4 (wpAny_pyNext_zip_end hh D oz oTI oTO ⟨_,oi1,h1.1,h1.2⟩ ⟨_,oi2,h2.1,h2.2⟩ (hL1.isList oa1) (hL2.isList oa2) hend λ hp' b7 hsz'=>?_);refine kk _ (λ b o hb e=>?_) hsz' rfl rfl;simp only[B9,D6,or_false,not_or] at hb;exact b7 b o hb.1 hb.2.1 hb.2.2.1 hb.2.2.2 e
end
theorem zl1 {g:Addr->Option Obj}: ∀(l:List Str) (t:Nat),RpL g (l.map D.str) (strsFrom t l)
 |[],t=>Z8
 |x::r,t=>U4 .str' (zl1 r (t+1))
section
variable{G:Gt}{w:E3}{c:Cx}{H:Hm}{V:List (Option D)}{s s':A8}
theorem Me.split {x y:Str}(h1:(decide (x.length<y.length)||decide (P6 x<P6 y))=false)(hy:(y.length==0)=false)(hf:(L4 x y 0 x.length (x.length+1)).isEmpty=false)
 (hx:x.length<=H5)(hn:(zg5 x y).length<=H5):Me G w "str" "str.split" (.str x) [.str y] (.lst ((zg5 x y).map D.str)):=by
 refine⟨tyStr,λ A K s v0 vs ok r0 rs=>⟨λ Q E k=>?_⟩⟩;obtain⟨t,rfl⟩:=r0.str_inv;obtain⟨v,rfl,r1⟩:=zc0 rs;obtain⟨u,rfl⟩:=r1.str_inv;have e:zg5 x y=zm3 x (L4 x y 0 x.length (x.length+1)) y.length:=by
  unfold zg5;rw[if_neg (by rw[h1];exact N4),if_neg (by rw[hf];exact N4)]
 rw[e] at hn k;refine zel zrg (zbt s x t) PySem.F.entry_str_split (PySem.F.args_str_split_2 _ _) (meets_str_split_sep x y t u h1 hy hf hx hn) ?_;refine k _ _ (zmn s _ _) (Rp.lst' (n:=0) (vs:=strsFrom s.toks (zm3 x (L4 x y 0 x.length (x.length+1)) y.length)) ?_ (zl1 _ _));exact zli ok.kl rfl
structure FnO (n:Bool)(G:Gt)(w:E3)(l:Nat)(f:Addr)(rows:List D)(ds:List D)(d:D):Prop where
 h: ∀A K s a ws m vs,Rm A l->(n=true->A.handled=none)->Ok G A (K++[a]) s->a∉K->s.heap.get? a=some (M8 ws m)->RpL (hid (K++[a]) s.heap) rows ws->RpL (hid (K++[a]) s.heap) ds vs->
  ∀(Q E:Value->A8->Prop),(∀v s',GoW [a] s s'->Rp (hid (K++[a]) s'.heap) d v->Q v s')->D0 (D1 pw w) A (call (.ref f) (.ref a::vs)) Q E s
noncomputable def yg5 (c:Cx)(a:Addr)(d:D)(f:Flow)(s':A8):Prop:=GoW [a] c.b s'/\Rp (hid (c.K++[a]) s'.heap) d (match f with| .ret v=>v|_=> .none)
theorem FnO.intro {n:Bool}(Δ:Fd)(hD:Fok G Δ){l:Nat}{rows ds:List D}{d:D}(hl:2<=l)(hlen:ds.length+1=Δ.ps.length)
 (h: ∀A env b K a lv,lv+2=l->(n=true->A.handled=none)->env.scope=Δ.fd.scope->a∉K->OkW (Δ.cxw A env b K [a] [] lv) a-> ∀(E:Value->A8->Prop),Wx G w (Δ.cxw A env b K [a] [] lv) ⟨[(a,rows)],[],[]⟩ (some (.ptr a)::(ds.map some++C1 (Δ.nm.length-Δ.ps.length) none)) Δ.body (yg5 (Δ.cxw A env b K [a] [] lv) a d) E):FnO n G w l Δ.f rows ds d:=by
 refine⟨λ A K s a ws m vs hr hh ok haK ho hrw hv Q E k=>?_⟩;have hvl:(N0 a::vs).length=Δ.ps.length:=by rw[S7,hv.length];exact hlen
 refine zmo (b:=s) (wr:=[a]) (dk:=[]) (ow:=[(a,rows)]) (fx:=[]) (K:=K) (V:=some (.ptr a)::(ds.map some++C1 (Δ.nm.length-Δ.ps.length) none)) Δ hD.b hl hr ok.gnd ok.tb ok.hd ok.gnd ok.tb (zj5 s) (λ b hb=>ok.kl b (D3 _ hb)) (λ b hb=>?_) (λ p h=>nomatch h) (λ p h=>nomatch h)
  ⟨λ b es hb=>?_,by simp⟩ (λ p h=>nomatch h) (λ p h=>nomatch h) ?_ λ L s₂ F g=>?_
 ·rw[B2] at hb;subst hb;exact⟨ws,m,ho⟩
 ·rw[B2] at hb;cases hb
  exact⟨haK,ws,m,ho,hrw⟩
 ·intro M A' E' Q' kk
  rw[hD.bind _ hvl];refine C4 (kk s _ (M4 s) ⟨?_,λ x hx=>?_,λ i x d' hx hd=>?_⟩)
  ·rw[zdh (by omega)]
   have:Δ.ps.Sublist Δ.nm:=by
    have e:Δ.ps=Δ.nm.take Δ.ps.length:=by
     apply T3;intro i;rw[zkd];split
     ·rename_i hi
      have:=hD.pre i Δ.ps[i] (B3 hi);rw[this,B3 hi]
     ·rename_i hi
      exact H9 (by omega)
    rw[e];exact zxr _ _
   exact hD.nd.sublist this
  ·obtain⟨i,hi⟩:=K4.mp (zm0 hx).1
   exact A6 (hD.pre i _ hi)
  ·have hil:i<ds.length+1:=by
    rcases O3 i (ds.length+1) with q|q
    ·exact q
    ·obtain⟨i',rfl⟩: ∃i',i=i'+1:=⟨i-1,by omega⟩
     rw[zhn,M0 (by simp;omega),zgl] at hd
     split at hd<;>cases hd
   have hi:i<Δ.ps.length:=by omega
   have hpx:Δ.ps[i]? =some x:=by
    have:=hD.pre i Δ.ps[i] (B3 hi);rw[show Δ.nm[i]? =some x from hx] at this
    cases this;exact B3 hi
   have hvv: ∃v,(N0 a::vs)[i]? =some v/\Rp (hid (K++[a]) s.heap) d' v:=by
    cases i with
    |zero=>cases hd;exact⟨_,rfl,rfl⟩
    |succ i=>
     rw[zhn,I3 (by simp;omega),B7] at hd
     cases q:ds[i]? with
     |none=>rw[q] at hd;cases hd
     |some d''=>
      rw[q] at hd;cases hd;obtain⟨v,h1,h2⟩:=hv.get q;exact⟨v,by simpa using h1,h2⟩
   obtain⟨v,h1,h2⟩:=hvv;exact⟨v,K4.mpr ⟨i,by rw[O8];exact⟨hpx,h1⟩⟩,h2⟩
 ·have hw:=(h (A.deeper (H3 Δ.fd L Δ.f)) (H3 Δ.fd L Δ.f) s K a (l-2) (by omega) hh rfl haK (.inr (H4 _)) λ z z=>False).h s₂ F
  exact E7 hw (λ f s' hp=>k _ s' hp.1 hp.2) λ e s' hp=>hp.elim
theorem Ev.callO {n:Bool}{e0:Expr}{args:List Expr}{ps p:Pos}{x:Str}{f l:Nat}{rows ds:List D}{d:D}{fd:K9}(hf:Nv G w c (.Name x p) (.ref f))(h0:Nl G w c H V true e0 rows)
 (ha: ∀a,As G w c (H.owns ((a,rows)::H.own)) V true args ds)(hn:FnO n G w l f rows ds d)
 (hfd:(f,fd)∈G.ftab)(hl:l<=c.lv+1)(hh:n=true->c.A.handled=none)(hs:J7 (e0::args) c.env=(false,M3 e0 c.env)::J7 args c.env:=by rfl):Ev G w c H V true (.Call (.Name x p) (e0::args) [] ps) d:=by
 refine .mk' λ s F Q E k=>?_;have hb: ∀pos,zb6 pos (J7 (e0::args) c.env)=(false,M3 e0 c.env)::zb6 pos (J7 args c.env):=λ pos=>by rw[hs];rfl
 with_reducible refine L0 (hf.h H V s F _ _ ?_)
 refine R3 (o:={cls:= .type "function",data:= .func fd}) (fd:=fd) (N2 ?_ ?_)
 ·rw[hb];exact(ha 0).ns _
 rw[hb]
 with_reducible refine K6 (h0.h s F _ _ λ a s1 vs m g1 hfr e1 r1=>?_)
 have F1:=F.newown g1 hfr e1 r1;refine(ha a).h _ s1 F1 _ _ λ us s2 g2 r2=>?_;have F2:=F1.onto g2;refine⟨⟨F2.gnd.fn _ hfd,rfl⟩,?_⟩;rw[I2];have hkk: ∀b,b∈hk c (H.owns ((a,rows)::H.own)) true↔b∈hk c H true++[a]:=λ b=>by
  simp only[hk,if_true,E5,G1,B9,D6,or_false];constructor
  ·rintro(h|h|h)
   ·exact .inl (.inl h)
   ·exact .inr h
   ·exact .inl (.inr h)
  ·rintro((h|h)|h)
   ·exact .inl h
   ·exact .inr (.inr h)
   ·exact .inr (.inl h)
 have ok2:Ok G c.A (hk c H true++[a]) s2:=by
  have:=F2.okS true;exact⟨this.rm,this.tb,this.gnd,λ b hb=>this.kl b ((hkk b).mpr hb),this.hd⟩
 have haK:a∉hk c H true:=λ hm=>by
  have:=(F.okS true).kl a hm;exact absurd this (D7.mpr hfr)
 obtain⟨o,ws,e2,hL2,r3⟩:=F2.own a rows A9;obtain⟨m2,rfl⟩:=hL2;refine hn.h c.A (hk c H true) s2 a ws m2 us (F2.ok.rm.le hl) hh ok2 haK e2 (r3.sub λ b hb=>(hkk b).mpr hb) (r2.sub λ b hb=>(hkk b).mpr hb) _ _ λ v s3 g3 r4=>?_;have g12:=g1.trans g2;refine k v s3 ⟨λ b o h1 h2 e=>?_,λ t=>g3.tab (g12.tab t),A7 g12.size g3.size,λ i x e=>g3.gens i x (g12.gens i x e),λ i x e=>(g3.bare i x e).elim (g12.bare i x) .inr,g3.os.trans g12.os⟩ (r4.sub λ b hb=>D3 _ hb);refine g3.keep b o h1 h2 (λ hm=>?_) (g12.keep b o h1 h2 e);rw[B2] at hm;subst hm;exact absurd (C6 e) (D7.mpr hfr)
end
noncomputable def zjk:List (List Nat)->List Nat
 |[]=>[]
 |[p]=>p
 |p::q::r=>p++13::10::zjk (q::r)
noncomputable def znf:Nat->List (List Nat)->List Nat
 |_,[]=>[]
 |_,[_]=>[]
 |i,p::q::r=>(i+p.length)::znf (i+p.length+2) (q::r)
noncomputable def crlf:Str:= "\r\n"
theorem zjr:crlf.length=2:=by decide
theorem znp (x:Str)(i:Nat):Builtin.Str.subAt x crlf i=((x.cps.toList.drop i).take 2==[13,10]):=by
 rw[StrLaws.subAt_eq,zjr];rfl
open Builtin Builtin.Str StrLaws in
theorem zzc {x:Str}: ∀(m i:Nat) (p:List Nat) (r:List (List Nat)) (found:Array Nat) (free:Nat),x.length+1-i=m->i<=x.length->x.cps.toList.drop i=zjk (p::r)->(∀q∈p::r,13∉q)->free<=i->found.size<=i->
 (zzw (zya i m) (found,free) (occBody x crlf x.length (x.length+1))).run.fst.toList=found.toList++znf i (p::r):=by
 intro m
 induction m using zq2 with
 |_ m ih=>
 intro i p r found free hm hi hd hn hf hs;obtain⟨m',rfl⟩: ∃m',m=m'+1:=⟨m-1,(zaz (by rw[<-hm];exact zdv (zha hi))).symm⟩
 have hlen:(x.cps.toList.drop i).length=x.length-i:=by rw[zeh,V9];rfl
 rw[List.range'_succ,zbv];unfold occBody
 cases p with
 |cons c p'=>
  have hdc:x.cps.toList.drop i=c::zjk (p'::r):=by
   rw[hd];cases r<;>rfl
  have hc:c≠13:=λ e=>hn (c::p') A9 (by rw[e];exact A9)
  have hno: ¬(subAt x crlf i=true):=by
   rw[znp,hdc];intro h;have:=beq_iff_eq.mp h;simp only[zx7,List.cons.injEq] at this;exact hc this.1
  rw[if_neg (λ h=>hno h.2)];have hd1:x.cps.toList.drop (i+1)=zjk (p'::r):=by
   rw[<-zag,hdc];rfl
  have hi1:i+1<=x.length:=by rw[hdc] at hlen;exact Nat.lt_of_sub_pos (by rw[<-hlen];exact zjz _)
  have h1:=ih m' (S5 _) (i+1) p' r found free (yea hm) hi1 hd1 (λ q hq=>by
   rcases B9.mp hq with e|hq
   ·subst e;exact λ h=>hn (c::q) A9 (B1 _ h)
   ·exact hn q (B1 _ hq)) (G5 hf) (G5 hs)
  have e:znf (i+1) (p'::r)=znf i ((c::p')::r):=by
   cases r with
   |nil=>rfl
   |cons q r=>
    show(i+1+p'.length)::znf (i+1+p'.length+2) (q::r)=(i+(p'.length+1))::znf (i+(p'.length+1)+2) (q::r);rw[zae i 1];rfl
  rw[<-e,<-h1];rfl
 |nil=>
  cases r with
  |nil=>
   have hd0:x.cps.toList.drop i=[]:=hd;rw[hd0] at hlen;have:i=x.length:=Nat.le_antisymm hi (zdl.mp hlen.symm);have hm0:m'=0:=N3 (hm.symm.trans (by rw[this];exact zh0 ..))
   subst hm0;rw[if_neg (λ h=>by have:=h.1.2;rw[zjr] at this;omega)]
   show found.toList=found.toList++[];rw[S0]
  |cons q r=>
   have hdc:x.cps.toList.drop i=13::10::zjk (q::r):=hd;have hl2:i+2<=x.length:=by rw[hdc] at hlen;exact zxq hi (by rw[<-hlen];exact J6 2 _)
   have hyes:subAt x crlf i=true:=by rw[znp,hdc];rfl
   rw[if_pos ⟨⟨⟨zha (A7 hs hi),hf⟩,by rw[zjr];exact hl2⟩,hyes⟩]
   obtain⟨m'',rfl⟩: ∃m'',m'=m''+1:=⟨m'-1,(zaz (by rw[<-yea hm];exact zdv (zg9 hl2))).symm⟩
   have hstep:(zzw (zya (i+1) (m''+1)) (found.push i,i+crlf.length) (occBody x crlf x.length (x.length+1))).run.fst.toList=(zzw (zya (i+2) m'') (found.push i,i+2) (occBody x crlf x.length (x.length+1))).run.fst.toList:=by
    rw[List.range'_succ,zbv]
    conv=>lhs;unfold occBody
    rw[if_neg (λ h=>by have:=h.1.1.2;rw[show((found.push i,i+crlf.length):Array Nat×Nat).snd=i+2 from rfl] at this;omega)]
    rfl
   have hd2:x.cps.toList.drop (i+2)=zjk (q::r):=by
    rw[<-zag,hdc];rfl
   have h1:=ih m'' (by omega) (i+2) q r (found.push i) (i+2) (yea (yea hm)) hl2 hd2 (λ q' hq=>hn q' (B1 _ hq)) (D2 _) (by rw[ze5];omega)
   have e:znf i ([]::q::r)=i::znf (i+2) (q::r):=rfl;rw[e];refine Eq.trans hstep ?_;rw[h1,Array.toList_push,J3];rfl
open Builtin Builtin.Str StrLaws in
theorem zuh {x:Str}(r:List (List Nat)): ∀(p:List Nat) (i:Nat),i<=x.length->x.cps.toList.drop i=zjk (p::r)->partsFrom x 2 i (znf i (p::r))=(p::r).map λ l=>(⟨l.toArray⟩:Str):=by
 have hlen: ∀i,(x.cps.toList.drop i).length=x.length-i:=λ i=>by rw[zeh,V9];rfl
 induction r with
 |nil=>
  intro p i hi hd;have hd0:x.cps.toList.drop i=p:=hd;refine congrArg (· ::[]) (zby ?_);rw[zso,hd0];exact S6 (by rw[<-hd0,hlen];exact D2 _)
 |cons q r ih=>
  intro p i hi hd;have hd0:x.cps.toList.drop i=p++13::10::zjk (q::r):=hd;have hl:p.length+2<=x.length-i:=by rw[<-hlen,hd0,K1];exact Q2 (J6 2 _) _
  have hd2:x.cps.toList.drop (i+p.length+2)=zjk (q::r):=by
   rw[W7,<-zag,hd0,<-zag,zrm];rfl
  refine congr (congrArg List.cons (zby ?_)) (ih q (i+p.length+2) (by rw[W7];exact zxq hi hl) hd2)
  rw[zso,hd0,zh0,List.take_left]
theorem zrw {x:Str}{p q:List Nat}{r:List (List Nat)}(hd:x.cps.toList=zjk (p::q::r))(hn: ∀l∈p::q::r,13∉l):
 (decide (x.length<crlf.length)||decide (P6 x<P6 crlf))=false/\(L4 x crlf 0 x.length (x.length+1)).isEmpty=false/\zg5 x crlf=(p::q::r).map λ l=>(⟨l.toArray⟩:Str):=by
 have hocc:L4 x crlf 0 x.length (x.length+1)=znf 0 (p::q::r):=by
  rw[StrLaws.occ_eq];have:=zzc (x:=x) (x.length+1-0) 0 p (q::r) #[] 0 rfl (Q7 _) hd hn (D2 _) (D2 _);simpa using this
 have h1:(decide (x.length<crlf.length)||decide (P6 x<P6 crlf))=false:=by
  have hl:x.length=(zjk (p::q::r)).length:=by rw[<-hd,V9];rfl
  have:2<=x.length:=by rw[hl];show 2<=(p++13::10::zjk (q::r)).length;rw[K1];exact A7 (J6 2 _) (J6 _ _)
  rw[zjr];have hk:P6 crlf=1:=by decide+kernel
  have hx:1<=P6 x:=by unfold P6;split<;>(try split)<;>decide
  simp;omega
 have h2:(L4 x crlf 0 x.length (x.length+1)).isEmpty=false:=by rw[hocc];rfl
 refine⟨h1,h2,?_⟩;unfold zg5;rw[if_neg (by rw[h1];exact N4),if_neg (by rw[h2];exact N4),StrLaws.partsBetween_eq,hocc,zjr]
 exact zuh (q::r) p 0 (Q7 _) hd
noncomputable def nlL:Nat->List Nat
 |0=>[10]
 |1=>[13]
 |_=>[13,10]
noncomputable def mailTail:List Nat:=[13,10,45,46,10,46,120,10,46]
noncomputable def zci (l:List (Nat×Nat)):List Nat:=(l.flatMap λ p=>C1 p.1 46++nlL p.2)++mailTail
theorem zz2 (r:List Nat):fixL (46::r)=46::fixL r:=by
 cases r with
 |nil=>rfl
 |cons d r=>rfl
theorem zwx (n:Nat)(r:List Nat):fixL (C1 n 46++r)=C1 n 46++fixL r:=by
 induction n with
 |zero=>rfl
 |succ n ih=>rw[Q1,N9,zz2,ih];rfl
theorem ydd (k:Nat)(c:Nat)(r:List Nat)(hc:c≠10):fixL (nlL k++c::r)=13::10::fixL (c::r):=by
 cases k with
 |zero=>rfl
 |succ k=>
  cases k with
  |zero=>exact(if_pos rfl).trans (if_neg hc)
  |succ k=>rfl
theorem zv8 (l:List (Nat×Nat))(h: ∀p∈l,1<=p.1): ∃c r,zci l=c::r/\c≠10:=by
 cases l with
 |nil=>exact⟨13,[10,45,46,10,46,120,10,46],rfl,by decide⟩
 |cons p l=>
  obtain⟨n,hn⟩: ∃n,p.1=n+1:=⟨p.1-1,by have:=h p A9;omega⟩
  refine⟨46,C1 n 46++nlL p.2++(l.flatMap λ p=>C1 p.1 46++nlL p.2)++mailTail,?_,by decide⟩
  unfold zci;rw[Y6,hn,Q1];simp
noncomputable def zev (l:List (Nat×Nat)):List (List Nat):=l.map (λ p=>C1 (p.1+1) 46)++[[],[45,46],[46,46,120],[46,46]]
theorem zw0 (n:Nat)(r:List Nat):zmy false (C1 n 46++13::10::r)=C1 n 46++13::10::zmy true r:=by
 induction n with
 |zero=>rfl
 |succ n ih=>exact congrArg (46:: ·) ih
theorem zue (l:List (Nat×Nat)):(∀p∈l,1<=p.1)->zmy true (fixL (zci l))=zjk (zev l):=by
 induction l with
 |nil=>exact λ z=>by decide
 |cons p l ih=>
  intro h;have h': ∀p∈l,1<=p.1:=λ q hq=>h q (B1 _ hq);obtain⟨c,r,e,hc⟩:=zv8 l h';obtain⟨n,hn⟩: ∃n,p.1=n+1:=⟨p.1-1,by have:=h p A9;omega⟩
  have e1:zci (p::l)=C1 p.1 46++(nlL p.2++zci l):=by
   unfold zci;rw[Y6];simp
  have ih:=ih h';rw[e1,zwx,e,ydd _ _ _ hc,<-e,hn];have e2:zmy true (C1 (n+1) 46++13::10::fixL (zci l))=C1 (n+2) 46++13::10::zmy true (fixL (zci l)):=by
   exact congrArg (λ x=>46::46::x) (zw0 n _)
  rw[e2,ih];have e3:zev (p::l)=C1 (n+2) 46::zev l:=by unfold zev;rw[E5,hn];rfl
  rw[e3]
  cases hl:zev l with
  |nil=>unfold zev at hl;simp at hl
  |cons a b=>rfl
noncomputable def tailS:List Str:=["","-.","..x",".."]
theorem zwa (l:List (Nat×Nat))(h: ∀p∈l,1<=p.1):
 (decide ((zfh ⟨(zci l).toArray⟩).length<crlf.length)||decide (P6 (zfh ⟨(zci l).toArray⟩)<P6 crlf))=false/\
 (L4 (zfh ⟨(zci l).toArray⟩) crlf 0 (zfh ⟨(zci l).toArray⟩).length ((zfh ⟨(zci l).toArray⟩).length+1)).isEmpty=false/\
 zg5 (zfh ⟨(zci l).toArray⟩) crlf=(l.map λ p=>zd5 46 (p.1+1))++tailS:=by
 have hx:(zfh ⟨(zci l).toArray⟩).cps.toList=zjk (zev l):=by
  unfold zfh;show(zmy true (fixL (zci l).toArray.toList)).toArray.toList=_;rw[ze8,ze8,zue l h]
 have hn: ∀q∈zev l,13∉q:=λ q hq=>by
  unfold zev at hq;rcases G1.mp hq with hq|hq
  ·obtain⟨p,_,rfl⟩:=C5.mp hq
   intro hm;have:=X7 hm;omega
  ·simp only[B9,D6,or_false] at hq
   rcases hq with rfl|rfl|rfl|rfl<;>decide
 have hm:(zev l).map (λ l=>(⟨l.toArray⟩:Str))=(l.map λ p=>zd5 46 (p.1+1))++tailS:=by
  unfold zev;rw[J2,E6];congr 1
 rw[<-hm]
 match hL:zev l,hx,hn with
 |[],hx,hn=>unfold zev at hL;simp at hL
 |[a],hx,hn=>unfold zev at hL;have:=congrArg zfb hL;simp at this
 |a::b::c,hx,hn=>exact zrw hx hn
noncomputable def zar (rs:List Nat)(ms:List Int)(u k:Nat):Nat:=rs.getD k 0+min u (ms.getD k 0).toNat
noncomputable def Z4 (ms:List Int)(n u:Nat):List Nat:=(G2 n).filter λ k=>decide (ms.getD k 0>(u:Int))
noncomputable def zff (rs:List Nat)(ms:List Int)(n u j:Nat):List Nat:=(G2 n).map λ k=>zar rs ms u k+if k∈(Z4 ms n u).take j then 1 else 0
noncomputable def zrx (rs:List Nat)(ms:List Int):List Nat:=(G2 rs.length).map λ k=>max 1 ((rs.getD k 0:Int)+ms.getD k 0).toNat
noncomputable abbrev zd9 (l:List Nat):List D:=l.map λ r:Nat=>D.str (zd5 46 (r:Int))
theorem zjc {rs:List Nat}{ms:List Int}{n u j:Nat}:(zff rs ms n u j).length=n:=by simp[zff]
theorem zl3 {rs:List Nat}{ms:List Int}{n u j k:Nat}(h:k<n):(zff rs ms n u j)[k]? =some (zar rs ms u k+if k∈(Z4 ms n u).take j then 1 else 0):=by
 unfold zff;rw[B7,N6 h];rfl
theorem zhg {ms:List Int}{n u k:Nat}(h:k∈Z4 ms n u):k<n/\ms.getD k 0>(u:Int):=by
 unfold Z4 at h;rw[zi5,I8] at h;exact⟨h.1,by simpa using h.2⟩
theorem znr {rs:List Nat}{ms:List Int}{n u:Nat}:zff rs ms n u 0=(G2 n).map (zar rs ms u):=by
 unfold zff;simp
theorem zvv {rs:List Nat}{ms:List Int}{n u:Nat}:zff rs ms n u (Z4 ms n u).length=zff rs ms n (u+1) 0:=by
 rw[znr];unfold zff;rw[V5];apply H6;intro k hk;have hk':k<n:=I8.mp hk;have:k∈Z4 ms n u↔ms.getD k 0>(u:Int):=by
  unfold Z4;rw[zi5];simp[hk']
 unfold zar;by_cases h:ms.getD k 0>(u:Int)
 ·have h':=zoc.mpr h
  rw[if_pos (this.mpr h),zfn (K3 h'),zfn h'];rfl
 ·have h':=O4.mpr (R7.mp h)
  rw[if_neg (λ q=>h (this.mp q)),zh9 h',zh9 (G5 h')];rfl
theorem zvu {rs:List Nat}{ms:List Int}{n u j k:Nat}(h:(Z4 ms n u)[j]? =some k):(zff rs ms n u j).set k (zar rs ms u k+1)=zff rs ms n u (j+1):=by
 have hk:=zhg (A6 h);apply T3;intro i;rcases O3 i n with hi|hi
 ·rw[zl3 hi,zfo]
  have ht:(Z4 ms n u).take (j+1)=(Z4 ms n u).take j++[k]:=by rw[P4,h];rfl
  by_cases e:k=i
  ·subst e
   rw[if_pos rfl,if_pos (by rw[zjc];exact hi),ht,if_pos (by simp)]
  ·rw[if_neg e,zl3 hi,ht]
   simp[U8 e]
 ·rw[H9 (by rw[zpq,zjc];exact hi),H9 (by rw[zjc];exact hi)]
noncomputable def FSen:Fd where
 f:=290
 c:=289
 fd:=ye6
 ps:=["rows","moves","turn"]
 nm:=["rows","moves","turn","unit","sent","mail","back","k","row"]
 kl:=[true,true,true,true,false,false,false,false,false]
 gn:=[("quotedata",.ref 125),("range",.type "range"),("max",.builtin "max"),("len",.builtin "len"),("zip",.type "zip")]
theorem yfw:Fok G0 FSen:=zgb (gi:=[15]) (bj:=[5,7,1,6]) rfl (by decide+kernel) (A6 (i:=20) rfl) (A6 (i:=20) rfl) rfl rfl ⟨rfl,rfl,rfl,rfl,rfl,rfl⟩
 (yd0 λ a b c=>rfl)
noncomputable def nlK (k u:Nat)(turn:Int):Nat:=(((k:Int)+u+turn).fmod 3).toNat
noncomputable def ycs (ms:List Int)(u:Nat):D->Bool
 | .int i=>decide (ms.getD i.toNat 0>(u:Int))
 |_=>false
noncomputable def ya6 (rs:List Nat)(ms:List Int)(u:Nat)(turn:Int):D->D
 | .int i=> .str ⟨(C1 (zar rs ms u i.toNat) 46++nlL (nlK i.toNat u turn)).toArray⟩
 |_=> .none
theorem ycg (ms:List Int)(n u:Nat):((Q3 0 n).filter (ycs ms u)).map id=(Z4 ms n u).map λ k=>D.int (k:Nat):=by
 unfold Q3 Z4;rw[zfc,E6];have:(ycs ms u∘λ i:Nat=>D.int (0+(i:Int)))=λ k=>decide (ms.getD k 0>(u:Int)):=by
  funext k;show decide (ms.getD (0+(k:Int)).toNat 0>(u:Int))=_;rw[z0]
 rw[this];apply H6;intro k _;simp
noncomputable def zjg (rs:List Nat)(ms:List Int)(n u:Nat)(turn:Int):List (Nat×Nat):=(Z4 ms n u).map λ k=>(zar rs ms u k,nlK k u turn)
theorem zwf (l:List (List Nat)):(L9 "" (l.map λ p=>(⟨p.toArray⟩:Str)))=⟨l.flatten.toArray⟩:=by
 apply zby
 induction l with
 |nil=>rfl
 |cons p l ih=>rw[E5,zki,ih];simp
theorem zv9 (rs:List Nat)(ms:List Int)(n u:Nat)(turn:Int):L9 "" ((Z4 ms n u).map λ k=>(⟨(C1 (zar rs ms u k) 46++nlL (nlK k u turn)).toArray⟩:Str))++("\r\n-.\n.x\n.":Str)=⟨(zci (zjg rs ms n u turn)).toArray⟩:=by
 have e0:=zwf ((Z4 ms n u).map λ k=>C1 (zar rs ms u k) 46++nlL (nlK k u turn));rw[E6] at e0;have e1:L9 "" ((Z4 ms n u).map λ k=>(⟨(C1 (zar rs ms u k) 46++nlL (nlK k u turn)).toArray⟩:Str))=⟨((Z4 ms n u).map λ k=>C1 (zar rs ms u k) 46++nlL (nlK k u turn)).flatten.toArray⟩:=e0;rw[e1];apply zby;show((_:Array Nat)++(_:Array Nat)).toList=_;rw[zch,ze8];unfold zci zjg;rw[zaa];have:("\r\n-.\n.x\n.":Str).cps.toList=mailTail:=by decide+kernel
 rw[this];rfl
theorem yba (k u:Nat)(turn:Int):nlK k u turn<3:=by
 unfold nlK;rw[R8 _ (by decide)]
 exact(zxt (zj4 _ (by decide))).mpr (ybz _ (by decide))
theorem zwb {rs:List Nat}{ms:List Int}{n u:Nat}{turn:Int}{B:Nat}(hB: ∀k,k<n->zar rs ms u k<=B):(zci (zjg rs ms n u turn)).length<=n*(B+2)+9:=by
 unfold zci zjg;have e0:((Z4 ms n u).map λ k=>(zar rs ms u k,nlK k u turn)).flatMap (λ p:Nat×Nat=>C1 p.1 46++nlL p.2)=((Z4 ms n u).map λ k=>C1 (zar rs ms u k) 46++nlL (nlK k u turn)).flatten:=by
  rw[zaa];rfl
 rw[K1,e0,zyb,E6];have:((Z4 ms n u).map λ k=>(C1 (zar rs ms u k) 46++nlL (nlK k u turn)).length).sum<=(Z4 ms n u).length*(B+2):=by
  have: ∀l:List Nat,(∀k∈l,k<n)->(l.map λ k=>(C1 (zar rs ms u k) 46++nlL (nlK k u turn)).length).sum<=l.length*(B+2):=by
   intro l
   induction l with
   |nil=>intro _;simp
   |cons k l ih=>
    intro h;have h1:=hB k (h k A9);have h2:=ih λ q hq=>h q (B1 _ hq);have h3:(nlL (nlK k u turn)).length<=2:=by
     have:=yba k u turn;exact n3 (P:=λ j=>(nlL j).length<=2) (by decide) (by decide) (by decide) this
    simp only[E5,H7,S7,K1,zd1,zgg] at h2 ⊢;rw[Q9];exact I5 h2 (I5 h1 h3)
  exact this _ λ k hk=>(zhg hk).1
 have h2:(Z4 ms n u).length<=n:=by
  unfold Z4;refine A7 (zd2 _ _) (by simp)
 have h3:(Z4 ms n u).length*(B+2)<=n*(B+2):=I0 _ h2;have h4:mailTail.length=9:=rfl;have e:(zt2 (zfb∘λ k=>C1 (zar rs ms u k) 46++nlL (nlK k u turn)) (Z4 ms n u)).sum=((Z4 ms n u).map λ k=>(C1 (zar rs ms u k) 46++nlL (nlK k u turn)).length).sum:=rfl;omega
theorem zuc {c:Nat}{r j:Nat}(h:j<=r):T9 (zd5 c r) none (some (j:Int))=zd5 c j:=by
 have e:T9 (zd5 c r) none (some (j:Int))=zld (zd5 c r) none (some (j:Int)):=rfl;rw[e,StrLaws.sliceText_to ⟨by omega,by
  show(j:Int)<=((zd5 c r).cps.toList.length:Nat);unfold zd5;simp;omega⟩]
 unfold zd5;congr 1;apply znl.mp;simp;omega
noncomputable def nlS (j:Nat):Str:=⟨(nlL j).toArray⟩
theorem yem {j:Nat}(h:j<3):([D.str "\n",D.str "\r",D.str "\r\n"]:List D)[j]? =some (.str (nlS j)):=n3 (P:=λ j=>([D.str "\n",D.str "\r",D.str "\r\n"]:List D)[j]? =some (.str (nlS j))) rfl rfl rfl h
theorem zv5 (j:Nat):(nlS j).length<=2:=by
 match j with
 |0=>decide
 |1=>decide
 |j+2=>show([13,10]:List Nat).toArray.size<=2;decide
noncomputable def ygz (rs:List Nat)(ms:List Int):D->D
 | .int i=> .str (zd5 46 (max 1 ((rs.getD i.toNat 0:Int)+ms.getD i.toNat 0).toNat:Nat))
 |_=> .none
section
variable{G:Gt}{w:E3}{c:Cx}{H:Hm}{V:List (Option D)}{P:Flow->A8->Prop}{E:Value->A8->Prop}{rest:List Stmt}
theorem Ev.sliceT {f:Bool}{value:Expr}{lower upper:Option Expr}{p pos:Pos}{x:Str}{lo hi:Option Int}(h:Ev G w c H V f value (.str x))(hl:Pt G w c H V lower lo)(hu:Pt G w c H V upper hi)(hz:x.length<=H5):
 Ev G w c H V f (.Subscript value (.Slice lower upper none p) pos) (.str (T9 x lo hi)):=by
 refine .mk' λ s F Q E k=>?_;rw[zmx];refine B0 (h.r F λ v s1 g1 r1=>B0 (J8 (wpAny_Slice (hl.h s1 (F.onto g1) _ _ λ l s2 g2 e1=>hu.h s2 ((F.onto g1).onto g2) _ _ λ u s3 g3 e2=>?_))));rw[zz7];refine C4 ?_;refine B0 (K7 ?_);obtain⟨t,rfl⟩:=r1.str_inv;refine B0 ?_;rw[ze3 (zbt s x t).not_modules];refine B0 (Y0 (zbt _ x t) zf6.lookup ?_);refine C4 (B0 ?_);refine zk9 (zyj (l:=l) (u:=u) (st:=none) ⟨_,D8 _ rfl,rfl,rfl⟩ rfl ?_);subst e1 e2;refine zug ⟨A7 (zjw x _ _) hz,λ t' tk=>?_⟩
 with_reducible refine B0 (zft (C4 ?_))
 exact k (.str (T9 x (l.map (·.1)) (u.map (·.1))) t') _ (((g1.trans g2).trans g3).trans (zmn s3 _ tk)) .str'
theorem Wx.retT {e:Expr}{ps:Pos}{d:D}(he:Ev G w c H V true e d)(k: ∀v s',FrS G c H V s'->Rp (hid (hk c H true) s'.heap) d v->P (.ret v) s'):Wx G w c H V (.Return (some e) ps::rest) P E:=by
 refine⟨λ s F=>?_⟩
 with_reducible refine E8 (zgu (he.r F λ v s1 g1 r1=>?_))
 exact k v s1 (F.onto g1) r1
end
theorem ydb {w:E3}{rs:List Nat}{ms:List Int}{turn:Int}(hlen:ms.length=rs.length)(hne:rs≠[])(hn:rs.length<=100)(hr: ∀r∈rs,1<=r/\r<=50)(hm: ∀m∈ms,-3<=m/\m<=3):
 FnO true G0 w 4 290 (zd9 rs) [.lst (izD ms),.int turn] (.lst (zd9 (zrx rs ms))):=by
 refine FnO.intro FSen yfw (by omega) rfl λ A env bs Ks a lv hlv hh hsc haK haW E=>?_
 generalize hn':rs.length=n at hlen hn;have hn63:n<=2^62:=A7 hn (by decide)
 have hn62:n<2^62:=C2 hn (by decide)
 have hmne:ms≠[]:=λ e=>hne (W5 (by rw[hn',<-hlen,e];rfl))
 have hrk: ∀k,k<n->1<=rs.getD k 0/\rs.getD k 0<=50:=λ k hk=>by
  rw[C8,B3 (lq hk hn')];exact hr _ (Q6 _)
 have hmk: ∀k,k<n-> -3<=ms.getD k 0/\ms.getD k 0<=3:=λ k hk=>by
  rw[C8,B3 (lq hk hlen)];exact hm _ (Q6 _)
 have hmg: ∀k,k<n->(izD ms)[k]? =some (.int (ms.getD k 0)):=λ k hk=>getD_some (lq hk hlen);have hrow: ∀u k,k<n->1<=zar rs ms u k/\zar rs ms u k<=53:=λ u k hk=>
  ⟨A7 (hrk k hk).1 (J9 ..),I5 (hrk k hk).2 (A7 (Nat.min_le_right ..) (O4.mpr (hmk k hk).2))⟩
 have hown: ∀u j k,k<n->(zd9 (zff rs ms n u j))[k]? =some (.str (zd5 46 ((zar rs ms u k+if k∈(Z4 ms n u).take j then 1 else 0:Nat):Int))):=λ u j k hk=>by
  rw[B7,zl3 hk];rfl
 have hown0: ∀u k,k<n->(zd9 (zff rs ms n u 0))[k]? =some (.str (zd5 46 (zar rs ms u k:Int))):=λ u k hk=>by
  rw[hown u 0 k hk];simp
 have hol: ∀u j,(zd9 (zff rs ms n u j)).length=n:=λ u j=>by rw[B5,zjc]
 have h00:zd9 rs=zd9 (zff rs ms n 0 0):=by
  congr 1;rw[znr];apply T3;intro i;rw[B7];rcases O3 i n with hi|hi
  ·rw[N6 hi,B3 (lq hi hn')]
   unfold zar;simp[C8,B3 (lq hi hn')]
  ·rw[H9 (by rw[hn'];exact hi),H9 (by simpa using hi)];rfl
 have htop:=zja ms hmne;obtain⟨htb1,htb2⟩:=hm _ htop;have hUe: ∃U:Nat,(if zrs ms>1 then zrs ms else 1)=(U:Int)/\1<=U/\U<=3/\ ∀m∈ms,m<=(U:Int):=by
  by_cases h:zrs ms>1
  ·have e:=L8 (E1 (by decide) (za2 h))
   exact⟨(zrs ms).toNat,(if_pos h).trans e.symm,zoc.mpr (Int.lt_trans (by decide) h),O4.mpr htb2,λ m hm'=>by rw[e];exact zly ms m hm'⟩
  ·exact⟨1,if_neg h,D2 _,by decide,λ m hm'=>E1 (zly ms m hm') (R7.mp h)⟩
 obtain⟨U,hU,hU1,hU2,hU3⟩:=hUe;refine zni (zbz (hh rfl) (G7 1 rfl) (B8 ((ze4 (hh rfl) (G7 2 rfl) (B8 D5 (B8 (ze4 (hh rfl) (G7 2 rfl) (B8 (B4 1 rfl rfl) D9) (Bh.maxL hmne)) D9)) Bh.max2).eq (by rw[hU])) D9) (H1.mpr (A7 hU2 (by decide))) (nlb U))
  (λ u=>[(a,zd9 (zff rs ms n u 0))]) (λ u=>[some (.ptr a),some (.lst (izD ms)),some (.int turn),none,none,none,none,none,none]) (λ z=>True) (by rw[h00]) rfl trivial (λ k=>rfl) (λ u d hd z fx gn=>?_) λ z=>?_
 ·rw[C0] at hd
  obtain⟨huU,rfl⟩:u<U/\d= .int u:=by have h:=zhi hd;rw[U0] at h;exact h
  have hsl1:(Z4 ms n u).length<=n:=A7 (zd2 _ _) (by simp)
  have eP:(((Z4 ms n u).map λ k=>D.int (k:Nat)).filter λ z=>true).map (ya6 rs ms u turn)=((Z4 ms n u).map λ k=>(⟨(C1 (zar rs ms u k) 46++nlL (nlK k u turn)).toArray⟩:Str)).map D.str:=by
   rw[Q5,E6,E6];rfl
  have hmb:=zwa (zjg rs ms n u turn) (λ p hp=>by
   obtain⟨k,hk,rfl⟩:=C5.mp hp;exact(hrow u k (zhg hk).1).1)
  obtain⟨hb1,hb2,hb3⟩:=hmb;have hml:(zci (zjg rs ms n u turn)).length<=6000:=by
   have:=zwb (rs:=rs) (ms:=ms) (n:=n) (u:=u) (turn:=turn) (B:=53) (λ k hk=>(hrow u k hk).2);exact A7 this (A7 (G3 (I0 55 hn) 9) (by decide))
  have hbk:zg5 (zfh ⟨(zci (zjg rs ms n u turn)).toArray⟩) crlf=((Z4 ms n u).map λ k=>zd5 46 ((zar rs ms u k+1:Nat):Int))++tailS:=by
   rw[hb3];unfold zjg;rw[E6];rfl
  have hql:(zfh ⟨(zci (zjg rs ms n u turn)).toArray⟩).length<=24000:=by
   unfold zfh;show((zmy true (fixL (zci (zjg rs ms n u turn)).toArray.toList)).toArray).size<=_;have h1:=zlm (zci (zjg rs ms n u turn));have h2:=ztm (fixL (zci (zjg rs ms n u turn))) true;simp only[I1];exact A7 h2 (G6 2 (A7 h1 (G6 2 hml)))
  have hje:(L9 "" ((Z4 ms n u).map λ k=>(⟨(C1 (zar rs ms u k) 46++nlL (nlK k u turn)).toArray⟩:Str))).length<=6000:=by
   have e:=congrArg zg6 (zv9 rs ms n u turn);rw[Str.length_append] at e;exact A7 (Nat.le.intro e) (by show(zci (zjg rs ms n u turn)).toArray.size<=_;rw[I1];exact hml)
  have htl:tailS.length=4:=rfl;have hbl:(((Z4 ms n u).map λ k=>zd5 46 ((zar rs ms u k+1:Nat):Int))++tailS).length=(Z4 ms n u).length+4:=by simp[htl]
  have hz4:(Z4 ms n u).length+4<=H5:=A7 (G3 (A7 hsl1 hn) 4) (by decide+kernel)
  have hzl:(zyf ((Z4 ms n u).map λ k=>D.int (k:Nat)) ((((Z4 ms n u).map λ k=>zd5 46 ((zar rs ms u k+1:Nat):Int))++tailS).map D.str)).length=(Z4 ms n u).length:=by
   unfold zyf;simp
  refine⟨_,zen 3 (show 3<9 by decide) rfl,?_⟩
  refine Wx.asgE (lo:=["k"]) (kx:=[false]) (fr:=[1,3]) (ycs ms u) id 4 (show 4<9 by decide) rfl (zbu (gj:=[]) (by show zii FSen.nm FSen.kl (FSen.gn.map (·.1)) _ _ _ _ _=true;decide+kernel))
   (zbz (hh rfl) (G7 1 rfl) (B8 ((zgn (V0 (G7 3 rfl) (B8 (zed 0 rfl rfl A9) D9) (zb1 (by rw[hol];exact hn62))) rfl).eq (by rw[hol])) D9) (H1.mpr (A7 hn (by decide))) (nlb n)) rfl (by simp[Q3];exact A7 hn (by decide+kernel)) ?_ (zhf hsc (by decide+kernel)) (by rw[C0,ycg]) ?_
  ·intro L b d hd Da acc fx gs
   rw[C0] at hd;obtain⟨i,hi,rfl⟩:=C5.mp hd;have hi':i<n:=I8.mp hi;refine⟨Tl.one ((O5 (O1 (B4 1 rfl rfl) (B4 0 rfl rfl) (T6 (d:= .int (ms.getD i 0)) (zn i) (by rw[z0];exact hmg i hi') (by rw[B5,hlen];exact hn63))) (B4 2 rfl rfl) Cm.gt).eq ?_),λ z=>B4 0 rfl rfl⟩
   show decide _=decide _;rw[z0]
  refine I9 5 (show 5<9 by decide) rfl (zh3 M6 U2 Z5 K0 (B8 ((za9 (lo:=["k"]) (kx:=[false]) (fr:=[0,3,2]) (λ z=>true) (ya6 rs ms u turn) (zbu (gj:=[]) (by show zii FSen.nm FSen.kl (FSen.gn.map (·.1)) _ _ _ _ _=true;decide+kernel)) (zgr (hh rfl) (B4 4 rfl rfl) zec) rfl (by rw[B5];exact A7 hsl1 (A7 hn (by decide+kernel))) ?_).ev.eq (by rw[eP])) D9) (Me.joinS (B:=55) ?_ ?_)) ?_
  ·intro L b d hd Da acc fx gs
   obtain⟨k,hk,rfl⟩:=C5.mp hd;have hkn:=(zhg hk).1;have h1:=hrow u k hkn;have h3:=yba k u turn;refine⟨zc8,λ z=>zgn ((G4 (O1 (zed 1 rfl rfl (B1 _ A9)) (Ev.open (B4 0 rfl rfl)) (T6 (d:= .str (zd5 46 (zar rs ms u k:Int))) (by omega) (by rw[C0];exact hown0 u k hkn) (by rw[hol];exact hn63)))
    (Ev.open (O1 (X1 (B8 K0 (B8 K0 (B8 K0 D9)))).ev (G4 (G4 (G4 (B4 0 rfl rfl) (B4 2 rfl rfl) zav) (B4 3 rfl rfl) zav) D5 (zfs (by decide))) (T6 (d:= .str (nlS (nlK k u turn))) ?_ (yem h3) (by simp)))) (zau ?_)).eq ?_) rfl⟩
   ·rw[R8 _ (by decide)];exact zj4 _ (by decide)
   ·have:=zv5 (nlK k u turn)
    rw[zdo];exact A7 (I5 h1.2 this) (by decide+kernel)
   ·show D.str _=D.str _
    congr 1;apply zby;show((R9 (zar rs ms u k:Int).toNat 46)++(nlL (nlK k u turn)).toArray).toList=_;rw[C0,zch,Array.toList_replicate,ze8];show _=C1 (zar rs ms u ((k:Nat):Int).toNat) 46++nlL (nlK ((k:Nat):Int).toNat u turn);rw[C0]
  ·intro y hy
   obtain⟨k,hk,rfl⟩:=C5.mp hy;have hkn:=(zhg hk).1;have h1:=hrow u k hkn;have h2:=zv5 (nlK k u turn);show(C1 (zar rs ms u k) 46++nlL (nlK k u turn)).toArray.size<=55;have h2':(nlL (nlK k u turn)).toArray.size<=2:=h2;simp only[I1] at h2' ⊢;simp only[K1,zd1];exact I5 h1.2 h2'
  ·show((Z4 ms n u).map _).length*55+((Z4 ms n u).map _).length*0<=_
   rw[B5,zgh,zgj];exact A7 (I0 55 (A7 hsl1 hn)) (by decide+kernel)
  refine I9 6 (show 6<9 by decide) rfl (zh3 M6 zrg PySem.F.type_str_split (U5 (G7 0 rfl) (B8 ((G4 (B4 5 rfl rfl) K0 (zau (A7 (G3 hje _) (by decide+kernel)))).eq (by rw[zv9])) D9) (zqf (by show(zci (zjg rs ms n u turn)).toArray.size<=_;simp;omega)) (A6 (i:=10) rfl) (by show 2<=lv+1;rw[N3 (N3 hlv)];decide) (λ h=>by cases h)) (B8 K0 D9) (Me.split (y:=crlf) hb1 rfl hb2 (by omega) (by rw[hbk,hbl];exact hz4))) ?_
  rw[hbk];refine W3 (p:=false) (O5 ((zmk (B4 6 rfl rfl) (Pt.some (V0 (G7 3 rfl) (B8 (B4 4 rfl rfl) D9) (zb1 (by rw[B5];exact C2 hsl1 hn62)))) Pt.none (by rw[B5,hbl];exact hz4) ⟨λ a h=>(by cases h;omega),λ b h=>(by cases h),.inr rfl⟩).ev.eq ?_) (X1 (B8 K0 (B8 K0 (B8 K0 (B8 K0 D9))))).ev (zkf (by rfl))) (λ hq=>by cases hq) λ z=>?_
  ·show D.lst (zq5 _ _)=D.lst [.str "",.str "-.",.str "..x",.str ".."]
   rw[J2,B5,C0,List.drop_left' (by simp)]
   rfl
  refine Wx.freeze 1 "moves" rfl rfl λ m vs nn hmK hrv=>?_;refine Wx.forZ (V':=[some (.ptr a),some (.ptr m),some (.int turn),some (.int u),none,none,none,none,none]) (IvZ.zip (hh rfl) (G7 4 rfl) (B8 (B4 4 rfl rfl) (B8 (B4 6 rfl rfl) D9))) (λ j=>[(a,zd9 (zff rs ms n u j))]) rfl (λ i d h=>?_) (λ k=>rfl) (λ j=>⟨λ d h=>?_,λ a' ds h=>?_⟩) (λ j d hd fx' gn'=>?_) ?_
  ·exact wkS (wkS (wkS (wkS (wkN (wkN (wkN (wkN (wkN wkE)))))))) i _ h
  ·simp only[B9,D6,or_false,zck,reduceCtorEq] at h
   rcases h with rfl|rfl|rfl|rfl<;>rfl
  ·have e:ds=zd9 (zff rs ms n u j):=by
    rcases B2.mp h with e
    cases e;rfl
   intro d hd;rw[e] at hd;obtain⟨r,_,rfl⟩:=C5.mp hd;rfl
  ·unfold zyf at hd
   rw[B7] at hd
   cases hzp:(((Z4 ms n u).map λ k=>D.int (k:Nat)).zip ((((Z4 ms n u).map λ k=>zd5 46 ((zar rs ms u k+1:Nat):Int))++tailS).map D.str))[j]? with
   |none=>rw[hzp] at hd;cases hd
   |some pr=>
    rw[hzp] at hd;cases hd;rw[O8] at hzp;obtain⟨z1,z2⟩:=hzp;rw[B7] at z1
    cases hsj:(Z4 ms n u)[j]? with
    |none=>rw[hsj] at z1;cases z1
    |some k=>
     rw[hsj] at z1;have hjl:=(C7.mp hsj).1;rw[B7,I3 (by rw[B5];exact hjl),B7,hsj] at z2
     simp only[zak,zck] at z1 z2;have hkn:=(zhg (A6 hsj)).1;obtain⟨pa,pb⟩:=pr;simp only at z1 z2;subst z1;subst z2;refine⟨_,zgp hh 7 8 (show 7<9 by decide) rfl (show 8<9 by decide) rfl,?_⟩
     refine Wx.setSub 0 0 rfl rfl rfl haW (B4 8 rfl rfl) (B4 7 rfl rfl) (E9 _) (by rw[hol];exact X2.mpr hkn) (by rw[hol];exact hn62) (zbw λ s F=>⟨trivial,?_⟩)
     have e:(zd9 (zff rs ms n u j)).set ((k:Nat):Int).toNat (.str (zd5 46 ((zar rs ms u k+1:Nat):Int)))=zd9 (zff rs ms n u (j+1)):=by
      rw[C0,<-zvu hsj];simp only[zd9,List.map_set]
     rw[<-e];exact F.weak (wkS (wkS (wkS (wkS (wkN (wkN (wkN (wkN (wkN wkE)))))))))
  ·rw[hzl,zvv]
   refine Wx.thaw (fx:=fx) 1 rfl hrv A9 hmK (λ p hp=>B1 _ hp) (zbw λ s F=>⟨trivial,?_⟩);exact F.weak (wkS (wkS (wkS (wkN (wkN (wkN (wkN (wkN (wkN wkE)))))))))
 ·rw[show(Q3 0 ((U:Nat):Int).toNat).length=U by simp[Q3]]
  have hrU: ∀k,k<n->zar rs ms U k=rs.getD k 0+(ms.getD k 0).toNat:=λ k hk=>by
   have h1:ms.getD k 0<=(U:Int):=by
    refine hU3 _ ?_;rw[C8,B3 (lq hk hlen)];exact Q6 _
   exact congrArg (rs.getD k 0+ ·) (zh9 (O4.mpr h1))
  have eE:((Q3 0 n).filter λ z=>true).map (ygz rs ms)=zd9 (zrx rs ms):=by
   rw[Q5];unfold Q3 zd9 zrx;rw[E6,E6,hn'];apply H6;intro k _;show D.str _=D.str _;rw[z0]
  have fin:yg5 (FSen.cxw A env bs Ks [a] [] lv) a (.lst (((Q3 0 n).filter λ z=>true).map (ygz rs ms)))=yg5 (FSen.cxw A env bs Ks [a] [] lv) a (.lst (zd9 (zrx rs ms))):=by rw[eE]
  rw[<-fin];refine Wx.retT (za9 (lo:=["k"]) (kx:=[false]) (fr:=[0,1]) (λ z=>true) (ygz rs ms) (Sco.ofX (gj:=[2,3]) [0] (by show zii FSen.nm FSen.kl (FSen.gn.map (·.1)) _ _ _ _ _=true;decide+kernel) (by decide+kernel))
   ((zbz (n:=((n:Nat):Int)) (hh rfl) (G7 1 rfl) (B8 ((zgn (V0 (G7 3 rfl) (B8 (zed 0 rfl rfl A9) D9) (zb1 (by rw[hol];exact hn62))) rfl).eq (by rw[hol])) D9) (H1.mpr (A7 hn (by decide))) (nlb n))) rfl (by simp[Q3];exact A7 hn (by decide+kernel)) ?_).ev λ v s F r=>⟨F.go,r⟩
  intro L b d hd Da acc fx gs;rw[C0] at hd;obtain⟨k,hk,rfl⟩:=C5.mp hd;have hkn:k<n:=I8.mp hk;have hk0:=z0 k;have h1:=hrow U k hkn;have h2:=hrk k hkn;have h3:=hmk k hkn;have h4:=hrU k hkn;have hJ:=nmx ((rs.getD k 0:Int)+ms.getD k 0);generalize eJ:max 1 ((rs.getD k 0:Int)+ms.getD k 0).toNat=J at hJ;refine⟨zc8,λ z=>zgn ((Ev.sliceT (x:=zd5 46 (zar rs ms U k:Int)) (lo:=none) (hi:=some (J:Int)) (O1 (zed 1 rfl rfl (B1 _ A9)) (Ev.open (B4 0 rfl rfl)) (T6 (d:= .str (zd5 46 (zar rs ms U k:Int))) (zn k) (by rw[hk0];exact hown0 U k hkn) (by rw[hol];exact hn63))) Pt.none
   (Pt.some ((ze4 (hh rfl) (G7 0 rfl) (B8 D5 (B8 (G4 (zgn (V0 (G7 1 rfl) (B8 (O1 (zed 1 rfl rfl (B1 _ A9)) (Ev.open (B4 0 rfl rfl)) (T6 (d:= .str (zd5 46 (zar rs ms U k:Int))) (zn k) (by rw[hk0];exact hown0 U k hkn) (by rw[hol];exact hn63))) D9) (Bf.lenS (by rw[zdo];exact V8 (H1.mpr h1.2) (by decide+kernel)))) rfl)
     (ze4 (hh rfl) (G7 2 rfl) (B8 D5 (B8 (O1 (B4 2 rfl rfl) (B4 0 rfl rfl) (T6 (d:= .int (ms.getD k 0)) (zn k) (by rw[hk0];exact hmg k hkn) (by rw[B5,hlen];exact hn63))) D9)) Bh.min2) zav) D9)) Bh.max2).eq ?_)) (by rw[zdo];exact A7 h1.2 (by decide+kernel:53<=H5))).eq ?_) rfl⟩
  ·congr 1
   rw[zdo,C0,h4];rw[ifx,X3,zbd,mpn,hJ]
  ·rw[zuc (H1.mp (by rw[hJ];exact zt4.mpr ⟨H1.mpr h1.1,by rw[h4];exact zbc (Int.self_le_toNat _) _⟩))]
   show D.str _=D.str (zd5 46 (max 1 ((rs.getD (0+(k:Int)).toNat 0:Int)+ms.getD (0+(k:Int)).toNat 0).toNat:Nat));rw[hk0,eJ]
theorem zsh (elt t1 i1 t2 i2:Expr)(scope:Scope)(pos:Pos)(it acc:Value)(env:Env):
 compTurn (.ListComp elt [⟨t1,i1,[],0⟩,⟨t2,i2,[],0⟩] scope pos) 0 it acc env=(do
  zfe i1.pos
  match <-zbh it with
  |none=>pure (.done .next)
  |some v=>
   U3 t1 it v
   zuw t1 env v
   let x <-M3 i2 env
   zfe i2.pos
   let x <-J0 i2 env x
   let _ <-runOwn (.compStart (.ListComp elt [⟨t1,i1,[],0⟩,⟨t2,i2,[],0⟩] scope pos) 1 (<-zkz [x] (zj8 x)) acc env) env
   again (.compLoop (.ListComp elt [⟨t1,i1,[],0⟩,⟨t2,i2,[],0⟩] scope pos) 0 it acc env)):=by rfl
theorem zsg (elt t1 i1 t2 i2:Expr)(scope:Scope)(pos:Pos)(it acc:Value)(env:Env):
 compTurn (.ListComp elt [⟨t1,i1,[],0⟩,⟨t2,i2,[],0⟩] scope pos) 1 it acc env=(do
  zfe i2.pos
  match <-zbh it with
  |none=>pure (.done .next)
  |some v=>
   U3 t2 it v
   zuw t2 env v
   (do let _ <-call (.builtin "list.append") [acc,<-M3 elt env])
   again (.compLoop (.ListComp elt [⟨t1,i1,[],0⟩,⟨t2,i2,[],0⟩] scope pos) 1 it acc env)):=by rfl
section
variable{w:E3}{A:H2}{E:Value->A8->Prop}{R:zuy->A8->Prop}{s:A8}
theorem zio {elt t1 i1 t2 i2:Expr}{scope:Scope}{pos:Pos}{it acc:Value}{env:Env}(I:Nat->A8->Prop)
 (turn: ∀n s,I n s->D0 (D1 pw w) A (zbh it) (λ r s₁=>match r with
   |none=>R (.ok .next) s₁
   |some v=>D0 (D1 pw w) A (zuw t1 env v) (λ z s₂=>D0 (D1 pw w) A (M3 i2 env) (λ x s₃=>D0 (D1 pw w) A (zj8 x) (λ it2 s₄=>
    zek (D1 pw w) A (.compStart (.ListComp elt [⟨t1,i1,[],0⟩,⟨t2,i2,[],0⟩] scope pos) 1 it2 acc env) (λ r s₅=>match r with| .ok _=> ∃m,m<n/\I m s₅| .error e=>zit (D1 pw w) A env (zje (D1 pw w) A env λ e s'=>R (.error e) s') e s₅) s₄)
    (zje (D1 pw w) A env λ e s'=>R (.error e) s') s₃) (zje (D1 pw w) A env λ e s'=>R (.error e) s') s₂) (zje (D1 pw w) A env λ e s'=>R (.error e) s') s₁) (zje (D1 pw w) A env λ e s'=>R (.error e) s') s)
 (n:Nat)(h:I n s)(ht: ∀v,U3 t1 it v=pure ():=by intro _;rfl)(hs: ∀x,J0 i2 env x=pure x:=by intro _;rfl):
 zek (D1 pw w) A (.compLoop (.ListComp elt [⟨t1,i1,[],0⟩,⟨t2,i2,[],0⟩] scope pos) 0 it acc env) R s:=by
 refine codeAny_loop rfl I (λ n s hI=>?_) n h;show D0 _ A ((compTurn (.ListComp elt [⟨t1,i1,[],0⟩,⟨t2,i2,[],0⟩] scope pos) 0 it acc env).onRaise (λ x=>do zdr x env;zlb x)) _ _ s
 refine wpAny_noted ?_;rw[zsh];refine B0 (K7 (B0 (E7 (turn n s hI) (λ r s₁ h₁=>?_) λ z z h'=>h')))
 cases r with
 |none=>exact C4 h₁
 |some v=>
  refine B0 (zbe (ht v) ?_);refine B0 (E7 h₁ (λ z s₂ h₂=>?_) λ z z h'=>h');refine B0 (E7 h₂ (λ x s₃ h₃=>?_) λ z z h'=>h');refine B0 (K7 (B0 (zbe (hs x) ?_)));refine B0 (J8 (E7 h₃ (λ it2 s₄ h₄=>?_) λ z z h'=>h'));refine B0 (wpAny_runOwn (codeAny_mono h₄ λ r s₅ h₅=>?_))
  cases r with
  |ok f=>exact C4 ⟨rfl,h₅⟩
  |error e=>exact h₅
theorem zin {elt t1 i1 t2 i2:Expr}{scope:Scope}{pos:Pos}{it acc:Value}{env:Env}(I:Nat->A8->Prop)
 (turn: ∀n s,I n s->D0 (D1 pw w) A (zbh it) (λ r s₁=>match r with
   |none=>R (.ok .next) s₁
   |some v=>D0 (D1 pw w) A (zuw t2 env v) (λ z s₂=>D0 (D1 pw w) A (M3 elt env) (λ x s₃=>
    D0 (D1 pw w) A (call (.builtin "list.append") [acc,x]) (λ z s₄=> ∃m,m<n/\I m s₄) (zje (D1 pw w) A env λ e s'=>R (.error e) s') s₃)
    (zje (D1 pw w) A env λ e s'=>R (.error e) s') s₂) (zje (D1 pw w) A env λ e s'=>R (.error e) s') s₁) (zje (D1 pw w) A env λ e s'=>R (.error e) s') s)
 (n:Nat)(h:I n s)(ht: ∀v,U3 t2 it v=pure ():=by intro _;rfl):
 zek (D1 pw w) A (.compLoop (.ListComp elt [⟨t1,i1,[],0⟩,⟨t2,i2,[],0⟩] scope pos) 1 it acc env) R s:=by
 refine codeAny_loop rfl I (λ n s hI=>?_) n h;show D0 _ A ((compTurn (.ListComp elt [⟨t1,i1,[],0⟩,⟨t2,i2,[],0⟩] scope pos) 1 it acc env).onRaise (λ x=>do zdr x env;zlb x)) _ _ s
 refine wpAny_noted ?_;rw[zsg];refine B0 (K7 (B0 (E7 (turn n s hI) (λ r s₁ h₁=>?_) λ z z h'=>h')))
 cases r with
 |none=>exact C4 h₁
 |some v=>
  refine B0 (zbe (ht v) ?_);exact B0 (E7 h₁ (λ z s₂ h₂=>B0 (B0 (E7 h₂ (λ x s₃ h₃=>B0 (E7 h₃
   (λ z s₄ h₄=>C4 (C4 ⟨rfl,h₄⟩)) λ z z h'=>h')) λ z z h'=>h'))) λ z z h'=>h')
theorem zim {elt t1 i1 t2 i2 scope pos it acc env}
 (h0:zek (D1 pw w) A (.compLoop (.ListComp elt [⟨t1,i1,[],0⟩,⟨t2,i2,[],0⟩] scope pos) 1 it acc env) R s)
 (h:D0 (D1 pw w) A (zj8 it) (λ it' s'=>zek (D1 pw w) A (.compLoop (.ListComp elt [⟨t1,i1,[],0⟩,⟨t2,i2,[],0⟩] scope pos) 1 it' acc env) R s')
   (zje (D1 pw w) A env λ x s'=>R (.error x) s') s):
 zek (D1 pw w) A (.compStart (.ListComp elt [⟨t1,i1,[],0⟩,⟨t2,i2,[],0⟩] scope pos) 1 it acc env) R s:=by
 refine codeAny_of_tree ?_;show D0 _ _ ((compStart (.ListComp elt [⟨t1,i1,[],0⟩,⟨t2,i2,[],0⟩] scope pos) 1 it acc env).onRaise (λ x=>do zdr x env;zfe theWindowsPlace)) _ _ s
 refine wpAny_notedAt ?_;unfold compStart;show D0 _ _ (ask >>= _) _ _ s;refine B0 (wpAny_askSetting (wpAny_ite ?_));split
 ·first
   |exact B0 (C4 (C4 (zxz rfl h0)))
   |exact C4 (zxz rfl h0)
 ·first
   |exact B0 (zid (B0 (K7 (B0 (E7 h (λ it' s' h'=>C4 (zxz rfl h')) λ z z x=>x)))))
   |(refine B0 (zid ?_);show D0 _ _ (zfe i2.pos >>= _) _ _ s;exact B0 (K7 (B0 (E7 h (λ it' s' h'=>C4 (zxz rfl h')) λ z z x=>x))))
end
noncomputable def zhs (more:Nat->List D)(n:Nat):List D:=(G2 n).flatMap more
theorem zn0 (more:Nat->List D)(n:Nat):zhs more (n+1)=zhs more n++more n:=by
 unfold zhs;rw[X0,List.flatMap_append];simp
section
variable{G:Gt}{w:E3}{c:Cx}{H:Hm}{V:List (Option D)}{s s':A8}
variable{sc:Scope}{L:Addr}{lo:List Str}{kx:List Bool}{fr:List Nat}{gn:List (Str×Value)}
theorem zur {x y:Str}{px py pos:Pos}{elt iter iter2:Expr}{items:List D}(more:Nat->List D)(S:Sco c sc lo kx fr gn)(iv:Iv G w c H V (.Name x px) iter items)(hx:lo[0]? =some x)
 (inner: ∀c',Cof c sc lo kx fr gn c'-> ∀k d,items[k]? =some d-> ∀D fx gs s7,OkW c' D->FrS G c' ⟨(D,zhs more k)::H.own,fx,gs⟩ ((cV lo fr V).set 0 (some d)) s7-> ∀(E2:Value->A8->Prop) (EE:Value->A8->Prop) (Q:A8->Prop),
   (∀s',FrS G c' ⟨(D,zhs more k++more k)::H.own,fx,gs⟩ ((cV lo fr V).set 0 (some d)) s'->Q s')->
   D0 (D1 pw w) c.A (M3 iter2 c'.env) (λ xv s₃=>D0 (D1 pw w) c.A (zj8 xv) (λ it2 s₄=>zek (D1 pw w) c.A (.compStart (.ListComp elt [⟨.Name x px,iter,[],0⟩,⟨.Name y py,iter2,[],0⟩] sc pos) 1 it2 (.ref D) c'.env) (λ r s₅=>match r with| .ok _=>Q s₅| .error e=>EE e s₅) s₄) E2 s₃) E2 s7)
 (hs2: ∀env v,J0 iter2 env v=pure v)
 (hs: ∀v,J0 iter c.env v=pure v:=by intro _;rfl)(F:FrS G c H V s){use:Option (Value->Sem Unit)}{Q E:Value->A8->Prop}{fp:Pos}
 (kq: ∀D s6,s.heap.objs.size<=D->FrS G (cc c sc (D+1) lo kx fr gn s) ⟨(D,zhs more items.length)::H.own,H.fix,[]⟩ (cV lo fr V) s6->ztp (D1 pw w) c.A E use Q (.ref D) (D+1) (.ok .next) s6):
 D0 (D1 pw w) c.A (yad (.ListComp elt [⟨.Name x px,iter,[],0⟩,⟨.Name y py,iter2,[],0⟩] sc pos) sc c.env fp (newList []) false (M3 iter c.env) use) Q E s:=by
 have okc:=F.ok;refine zx0 (use:=use) (cl:=ziq c.env sc.names []) rfl hs (zf3 λ y hy=>let ⟨a,h,_⟩:=zko (G:=G) (L:=0) (b:=s) S okc hy;⟨a,h⟩) S.kind (λ y hy e=>zcb S.nd (by rw[<-e];exact hy)) ?_
 refine iv.h s F _ _ λ it s2 wr gw St ob gs g2 I st hob hgs=>?_;have hgl: ∀k ob gs,St k ob gs-> ∀p∈gs,s.gens.size<=p.1:=I.gs;have F2:FrS G c (H.with ob gs) V s2:=zlt F (F.onto g2) (λ a ha=>D4 _ ha) I.toItrG st hob hgs;have start:=zts S F g2 F2 (hgl 0 ob gs st);refine zyh ?_;refine zmb ?_;simp only[G8,newEnv];have hz2:(s2.heap.push (M8 [] 0)).objs.size=s2.heap.objs.size+1:=by rw[G8]
 try dsimp only at start ⊢
 generalize hD:s2.heap.objs.size=D at start hz2 ⊢
 let c':=cc c sc (D+1) lo kx fr gn s
 have hcof:Cof c sc lo kx fr gn c':=⟨_,_,rfl⟩;have hDs:s.heap.objs.size<=D:=hD▸g2.size;generalize hs4:({s2 with heap:=zdp ((s2.heap.push (M8 [] 0)).push {cls:= .type "dict",data:= .dict #[]}) sc.names}:A8)=s4 at start ⊢;have s4ob: ∀p∈ob,s4.heap.get? p.1=some p.2:=λ p hp=>(start.fix p.1 p.2 (D3 _ hp)).1;have s4gs: ∀p∈gs,s4.gens[p.1]? =some p.2:=λ p hp=>(start.gen p hp).1;have obD: ∀k ob' gs',St k ob' gs'-> ∀p∈ob',p.1∉hk c' ⟨(D,[])::H.own,ob++H.fix,gs⟩ true:=by
  intro k ob' gs' st' p hp hK;rcases G1.mp hK with q|q
  ·exact(I.ob k ob' gs' st' p hp).2.2.2.1 (D3 _ q)
  ·rcases B9.mp q with q|q
   ·have:p.1∈ob'.map (·.1):=I4 (f:=(·.1)) hp
    rw[<-I.adr 0 k ob ob' gs gs' st st'] at this;obtain⟨p',hp',e⟩:=C5.mp this;have:=C6 (hob p' hp');rw[hD,e,q] at this;exact H8 _ this
   ·exact(I.ob k ob' gs' st' p hp).2.2.2.1 (D4 _ q)
 have hlo0:0<lo.length:=(C7.mp hx).1;have hnm0:c'.nm[0]? =some x:=by
  show(lo++_)[0]? =some x;rw[I3 hlo0];exact hx
 have hweak: ∀d (i:Nat) d',(cV lo fr V)[i]? =some (some d')->((cV lo fr V).set 0 (some d))[i]? =some (some d'):=by
  intro d i d' h
  cases i with
  |zero=>
   exfalso;unfold cV at h;rw[I3 (by simpa using hlo0),B7] at h
   cases q:lo[0]? with
   |none=>rw[q] at h;cases h
   |some y=>rw[q] at h;cases h
  |succ i=>rw[P8 (by omega)];exact h
 have key: ∀it',it'=it->zek (D1 pw w) c.A (.compLoop (.ListComp elt [⟨.Name x px,iter,[],0⟩,⟨.Name y py,iter2,[],0⟩] sc pos) 0 it' (.ref D) c'.env) (ztp (D1 pw w) c.A E use Q (.ref D) (D+1)) s4:=by
  rintro it' rfl;refine zio (λ n s5=> ∃k ob' gs',n+k=items.length/\St k ob' gs'/\FrS G c' ⟨(D,zhs more k)::H.own,ob'++H.fix,gs'⟩ (cV lo fr V) s5) (λ n s5 hI=>?_) items.length ⟨0,ob,gs,rfl,st,start⟩ (λ v=>rfl) (hs2 _);obtain⟨k,ob5,gs5,hn,st5,F5⟩:=hI;have ob5': ∀p∈ob5,s5.heap.get? p.1=some p.2:=λ p hp=>(F5.fix p.1 p.2 (D3 _ hp)).1;have gs5': ∀p∈gs5,s5.gens[p.1]? =some p.2:=λ p hp=>(F5.gen p hp).1;have ok5:=F5.okS true;have stp: ∀{s6:A8},Mv wr gw s.heap.objs.size s5 s6-> ∀ob6 gs6,(∀p∈ob6,s6.heap.get? p.1=some p.2/\(p.1≠82/\p.1≠89)/\(∀v,p.2.data≠ .cell v)/\p.1≠c'.env.locals/\p.1∉D::H.own.map (·.1))->
   (∀p∈gs6,s6.gens[p.1]? =some p.2/\s.gens.size<=p.1)->FrS G c' ⟨(D,zhs more k)::H.own,ob6++H.fix,gs6⟩ (cV lo fr V) s6:=by
   intro s6 m ob6 gs6 h6 hg6;have m1:St1 c' ⟨(D,zhs more k)::H.own,ob5++H.fix,gs5⟩ wr gw s.heap.objs.size s5 s6:={
    llo:=D2 _
    hdl:=λ b q=>let ⟨b',_,_,e1,e2,_⟩:=F.hdA _ q;by cases e1;exact C6 e2
    keep:=m.keep
    lo:=λ a ha=> .inl (I.lo0 a ha)
    nof:=λ a ha o e=>by
     obtain⟨p',hp',rfl⟩:=C5.mp (I.wrin k ob5 gs5 st5 a ha);obtain⟨f1,f2,f3,f4,f5⟩:=F5.fix p'.1 p'.2 (D3 _ hp');rw[f1] at e;cases e;exact⟨(I.ob k ob5 gs5 st5 p' hp').1,f3,f4,λ q=>absurd q ((I.ob k ob5 gs5 st5 p' hp').2.2.1 ha)⟩
    size:=m.size
    gens:=m.gens
    bare:=m.bare
    os:=m.os
    glo:=I.glo
    hdn:=λ a ha q=>by
     obtain⟨b',o,vs,e1,e2,_⟩:=F.hdA _ q;cases e1;exact absurd (C6 e2) (D7.mpr (I.lo0 a ha))}
   have wlt: ∀a∈wr,∀b o,s.heap.get? b=some o->b≠a:=λ a ha b o e q=>absurd (C6 e) (by rw[q];exact D7.mpr (I.lo0 a ha))
   refine F5.step m1 rfl (λ a ds h=> .inl ⟨λ ha=>?_,h⟩) (λ a o h=>?_) λ p' h=> .inr (hg6 p' h)
   ·obtain⟨p',hp',e⟩:=C5.mp (I.wrin k ob5 gs5 st5 a ha)
    have:=(F5.fix p'.1 p'.2 (D3 _ hp')).2.2.2.2;rw[show p'.1=a from e] at this
    exact this (I4 (f:=(·.1)) h)
   ·rcases G1.mp h with h|h
    ·exact .inr (h6 _ h)
    ·refine .inl ⟨λ ha=>?_,D4 _ h,.inl (C6 (F.fix a o h).1)⟩
     exact wlt a ha a o (F.fix a o h).1 rfl
  cases hd:items[k]? with
  |none=>
   have hk':k=items.length:=by have:=W4.mp hd;omega
   subst hk';refine I.fin ob5 gs5 s5 st5 ⟨_,ok5⟩ ob5' gs5' _ _ λ s6 m=>?_;have F6:=stp m [] [] (λ p hp=>nomatch hp) (λ p hp=>nomatch hp)
   exact kq D s6 hDs F6
  |some d=>
   have hk':=(C7.mp hd).1;refine I.nextN hd st5 ⟨_,ok5⟩ ob5' gs5' ?_;intro v s6 ob6 gs6 m st6 hob6 hgs6 r6;have tb6:Tb s6.heap:=(stp m [] [] (λ p hp=>nomatch hp) (λ p hp=>nomatch hp)).tb
   have F6:=stp m ob6 gs6 (λ p hp=>by
    obtain⟨q1,q2,q3,q4,q5⟩:=I.ob _ _ _ st6 p hp;refine⟨hob6 p hp,tb6.off (hob6 p hp) q1,q2,λ q=>?_,λ q=>?_⟩
    ·have:p.1∈ob6.map (·.1):=I4 (f:=(·.1)) hp
     rw[<-I.adr 0 (k+1) ob ob6 gs gs6 st st6] at this;obtain⟨p',hp',e⟩:=C5.mp this;have:=C6 (hob p' hp');rw[hD,e,show p.1=D+1 from q] at this
     exact absurd this (D7.mpr (L6 _))
    ·exact obD _ _ _ st6 p hp (D4 _ q)) (λ p hp=>⟨hgs6 p hp,hgl _ _ _ st6 p hp⟩)
   have hK6:hk c' ⟨(D,zhs more k)::H.own,ob6++H.fix,gs6⟩ true=hk c' ⟨(D,[])::H.own,ob++H.fix,gs⟩ true:=rfl;have rv6:Rp (hid (hk c' ⟨(D,zhs more k)::H.own,ob6++H.fix,gs6⟩ true) s6.heap) d v:=r6.rp (by rw[hK6];exact obD _ _ _ st6) ok5.kl
   refine(zen (w:=w) (d:=d) (p:=px) 0 hlo0 hnm0).h s6 v F6 rv6 _ _ λ s7 F7 u7=>?_;refine inner c' hcof k d hd D (ob6++H.fix) gs6 s7 (.inl hDs) F7 _ _ _ λ s8 F8=>?_;refine⟨n-1,by omega,k+1,ob6,gs6,by omega,st6,?_⟩
   rw[zn0];exact F8.weak (hweak d)
 exact ybp (key _ rfl) (I.slf 0 ob gs s4 st s4ob s4gs _ _ (key _ rfl))
theorem zuq {c':Cx}{x y:Str}{px py pos:Pos}{elt iter iter2:Expr}{sc:Scope}{Da:Addr}{acc0:List D}{ow:List (Addr×List D)}{fx:Obs}{gs0:zst}{V1:List (Option D)}{items2:List D}{f:D->D}(j:Nat)
 (hDa:OkW c' Da)(hj:j<c'.ns)(hy:c'.nm[j]? =some y)(hVj:V1[j]? =some none)(hz:acc0.length+items2.length<H5)
 (iv:Iv G w c' ⟨(Da,acc0)::ow,fx,gs0⟩ V1 (.Name y py) iter2 items2)
 (body: ∀d,d∈items2-> ∀acc fx gs,Ev G w c' ⟨(Da,acc)::ow,fx,gs⟩ (V1.set j (some d)) true elt (f d))
 {s7:A8}(F7:FrS G c' ⟨(Da,acc0)::ow,fx,gs0⟩ V1 s7){E2 EE:Value->A8->Prop}{Q:A8->Prop}(kq: ∀s',FrS G c' ⟨(Da,acc0++items2.map f)::ow,fx,gs0⟩ V1 s'->Q s'):
 D0 (D1 pw w) c'.A (M3 iter2 c'.env) (λ x' s₃=>D0 (D1 pw w) c'.A (zj8 x') (λ it2 s₄=>zek (D1 pw w) c'.A (.compStart (.ListComp elt [⟨.Name x px,iter,[],0⟩,⟨.Name y py,iter2,[],0⟩] sc pos) 1 it2 (.ref Da) c'.env) (λ r s₅=>match r with| .ok _=>Q s₅| .error e=>EE e s₅) s₄) E2 s₃) E2 s7:=by
 let H:Hm:=⟨(Da,acc0)::ow,fx,gs0⟩
 refine iv.h s7 F7 _ _ λ it s2 wr gw St ob gs g2 I st hob hgs=>?_;have owk: ∀k,((Da,acc0++(items2.take k).map f)::ow).map (·.1)=H.own.map (·.1):=λ k=>rfl;have hkk: ∀acc fx gn,hk c' ⟨(Da,acc)::ow,fx,gn⟩ true=hk c' H true:=λ acc fx gn=>by simp only[hk,if_true,H,E5]
 have hown: ∀acc,∀a∈(H.owns ((Da,acc)::ow)).own.map (·.1),a∈hk c' H true:=λ acc a ha=>D4 _ ha;have start:FrS G c' ((H.owns ((Da,acc0++(items2.take 0).map f)::ow)).with ob gs) V1 s2:=by
  rw[List.take_zero,zcm,S0];exact zlt F7 (F7.onto g2) (λ a ha=>D4 _ ha) I.toItrG st hob hgs
 have hweak: ∀d (i:Nat) d',V1[i]? =some (some d')->(V1.set j (some d))[i]? =some (some d'):=λ d i d' h=>by
  by_cases e:j=i
  ·subst e;rw[hVj] at h;cases h
  ·rw[P8 e];exact h
 have key:zek (D1 pw w) c'.A (.compLoop (.ListComp elt [⟨.Name x px,iter,[],0⟩,⟨.Name y py,iter2,[],0⟩] sc pos) 1 it (.ref Da) c'.env) (λ r s₅=>match r with| .ok _=>Q s₅| .error e=>EE e s₅) s2:=by
  refine zin (λ n s5=> ∃k ob' gs',n+k=items2.length/\St k ob' gs'/\FrS G c' ((H.owns ((Da,acc0++(items2.take k).map f)::ow)).with ob' gs') V1 s5) (λ n s5 hI=>?_) items2.length ⟨0,ob,gs,rfl,st,start⟩ (λ v=>rfl);obtain⟨k,ob5,gs5,hn,st5,F5⟩:=hI;have ob5': ∀p∈ob5,s5.heap.get? p.1=some p.2:=λ p hp=>(F5.fix p.1 p.2 (D3 _ hp)).1;have gs5': ∀p∈gs5,s5.gens[p.1]? =some p.2:=λ p hp=>(F5.gen p (D3 _ hp)).1;have ok5:Ok G c'.A (hk c' H true) s5:=by have:=F5.okS true;rwa [hkk] at this
  cases hd:items2[k]? with
  |none=>
   have hk':k=items2.length:=by have:=W4.mp hd;omega
   subst hk';refine I.fin ob5 gs5 s5 st5 ⟨_,ok5⟩ ob5' gs5' _ _ λ s6 m=>?_;have F6:=FrS.moved F7 (owk _) F5 I.toItrG st5 m;rw[V5] at F6;exact kq s6 F6
  |some d=>
   have hk':=(C7.mp hd).1;refine I.nextN hd st5 ⟨_,ok5⟩ ob5' gs5' ?_;intro v s6 ob6 gs6 m st6 hob6 hgs6 r6;have F6:=FrS.moved F7 (owk k) F5 I.toItrG st5 m;have F6':=zlt F7 F6 (hown _) I.toItrG st6 hob6 hgs6;have hK6:hk c' ((H.owns ((Da,acc0++(items2.take k).map f)::ow)).with ob6 gs6) true=hk c' H true:=hkk _ _ _;have rv6:Rp (hid (hk c' ((H.owns ((Da,acc0++(items2.take k).map f)::ow)).with ob6 gs6) true) s6.heap) d v:=r6.rp (by rw[hK6];exact λ p hp=>(I.ob _ _ _ st6 p hp).2.2.2.1) (by rw[hK6];exact ok5.kl)
   refine(zen (w:=w) (d:=d) (p:=py) j hj hy).h s6 v F6' rv6 _ _ λ s7 F7' u7=>?_;have be:=body d (A6 hd) (acc0++(items2.take k).map f) (ob6++fx) (gs6++gs0);refine be.r F7' λ v9 s9 g9 r9=>?_;have F9:=F7'.onto g9;obtain⟨oD,vs,e1,⟨nD,rfl⟩,e2⟩:=F9.own Da _ A9;have hlt:((items2.take k).map f).length<=items2.length:=by rw[B5,U1];omega
   refine(zdc (G:=G) (w:=w) (ds:=acc0++(items2.take k).map f) (d:=f d) (by rw[K1];omega)).h c'.A _ s9 Da vs nD [v9] (F9.okS true) e1 e2 (U4 r9 Z8) _ _ λ h' tk vs' n' hs' e' r'=>?_
   have F10:=F9.ownset (tk:=tk) 0 rfl hDa hs' e' r';refine⟨n-1,by omega,k+1,ob6,gs6,by omega,st6,?_⟩
   have et:acc0++(items2.take (k+1)).map f=(acc0++(items2.take k).map f)++[f d]:=by
    rw[P4,hd];simp
   rw[et];exact F10.weak (hweak d)
 refine zim key ?_;exact I.slf 0 ob gs s2 st hob hgs _ _ key
end
theorem yac (l:List D)(g:D->List D):zhs (λ k=>g (l.getD k .none)) l.length=l.flatMap g:=by
 have h:=range_getD l;unfold zhs
 conv=>rhs;rw[<-h]
 rw[zaa]
theorem zw2 (l:List D)(m:Nat)(g:D->List D)(hg: ∀d,(g d).length=m)(k:Nat):(zhs (λ k=>g (l.getD k .none)) k).length=k*m:=by
 induction k with
 |zero=>simp[zhs]
 |succ k ih=>rw[zn0,K1,ih,hg,zgg]
section
variable{G:Gt}{w:E3}{c:Cx}{H:Hm}{V:List (Option D)}{s s':A8}
variable{sc:Scope}{lo:List Str}{kx:List Bool}{fr:List Nat}{gn:List (Str×Value)}
theorem Nl.comp2 {x y:Str}{px py pos:Pos}{elt iter iter2:Expr}{l1 l2:List D}(f:D->D->D)(S:Sco c sc lo kx fr gn)(iv:Iv G w c H V (.Name x px) iter l1)(hlo:lo=[x,y])(hz:l1.length*l2.length<H5)
 (iv2: ∀L b d,d∈l1-> ∀D acc fx gs,Iv G w (cc c sc L lo kx fr gn b) ⟨(D,acc)::H.own,fx,gs⟩ ((cV lo fr V).set 0 (some d)) (.Name y py) iter2 l2)
 (body: ∀L b d1 d2,d1∈l1->d2∈l2-> ∀D acc fx gs,Ev G w (cc c sc L lo kx fr gn b) ⟨(D,acc)::H.own,fx,gs⟩ (((cV lo fr V).set 0 (some d1)).set 1 (some d2)) true elt (f d1 d2))
 (hs: ∀v,J0 iter c.env v=pure v:=by intro _;rfl)(hs2: ∀env v,J0 iter2 env v=pure v:=by intro _ _;rfl):
 Nl G w c H V true (.ListComp elt [⟨.Name x px,iter,[],0⟩,⟨.Name y py,iter2,[],0⟩] sc pos) (l1.flatMap λ d=>l2.map (f d)):=by
 subst hlo;rw[<-yac];refine⟨λ s F Q E kq=>?_⟩;rw[eval_ListComp];refine zur (λ k=>(λ d=>l2.map (f d)) (l1.getD k .none)) S iv rfl (λ c' hc k d hd D fx gs s7 hD F7 E2 EE Q' kq'=>?_) hs2 hs F (use:=none) λ D s6 hDs F6=>?_
 ·obtain⟨L,b,rfl⟩:=hc
  have e:l1.getD k .none=d:=by rw[C8,hd];rfl
  have hk:=(C7.mp hd).1;have hm:=A6 hd;refine zuq (c':=cc c sc L [x,y] kx fr gn b) (f:=f d) 1 hD (show 1<2 by decide) rfl (by rw[P8 (by decide)];rfl) ?_ (iv2 L b d hm D _ fx gs) (λ d2 h2 acc fx gs=>body L b d d2 hm h2 D acc fx gs) F7 λ s' F'=>?_
  ·rw[zw2 l1 l2.length (λ d=>l2.map (f d)) (λ d=>by rw[B5])]
   have:(k+1)*l2.length<=l1.length*l2.length:=I0 _ hk;rw[zgg] at this;omega
  ·refine kq' s' ?_
   show FrS _ _ ⟨(D,zhs _ k++l2.map (f (l1.getD k .none)))::H.own,fx,gs⟩ _ _;rw[e];exact F'
 obtain⟨mm,hm⟩:=F6.ns;refine⟨mm,hm,λ h' hs'=>?_⟩;obtain⟨vs,nD,e1,e2⟩:=zo4 F6;have hne:D≠D+1:=za0 (S5 D);obtain⟨oC,es,ep,hC,hCd,_⟩:=hm;have B:Bu (cc c sc (D+1) [x,y] kx fr gn s) s6 {s6 with heap:=h'} (D+1):=⟨.inl (G5 hDs),λ o e=>by
  rw[show(cc c sc (D+1) [x,y] kx fr gn s).env.locals=D+1 from rfl,e] at hC;cases hC
  exact⟨λ vs q=>by(rw[hCd] at q;cases q),λ q=>by(obtain⟨_,_,q⟩:=q;rw[hCd] at q;cases q)⟩,hs',rfl,rfl⟩
 exact kq D _ vs nD (B.go F6.go).nil hDs ((hs'.2 _ hne).trans e1) (za4 B.rp _ _ e2)
theorem Bi.addT {l r:List D}(hz:l.length+r.length<=H5):Bi G w .Add (.tup l) (.tup r) (.tup (l++r)):=by
 refine⟨λ A K s v1 v2 ok r1 r2=>⟨λ Q E k=>?_⟩⟩;obtain⟨a,n,vs,rfl,ho,hl⟩:=r1.tup_inv;obtain⟨b,m,us,rfl,ho',hr⟩:=r2.tup_inv;have ho0:=ho;have ho0':=ho';rw[hid_some] at ho ho';have e1:=hl.length;have e2:=hr.length;by_cases hv:vs=[]
 ·subst hv
  refine zrc (T:= "tuple") ⟨_,ho.2,rfl⟩ ⟨_,ho'.2,rfl⟩ zr3 zy3 zg7 zgq (zf7 _ _)
   (tuple_addW0 a b ([]:List Value).toArray us.toArray n m none none #[] #[] rfl) ⟨ho.2,ho'.2,?_⟩
  have:l=[]:=zce.mp e1.symm;subst this;exact k _ s (M4 s) r2
 ·by_cases hu:us=[]
  ·subst hu
   refine zrc (T:= "tuple") ⟨_,ho.2,rfl⟩ ⟨_,ho'.2,rfl⟩ zr3 zy3 zg7 zgq (zf7 _ _)
    (tuple_addW1 a b vs.toArray ([]:List Value).toArray n m none none #[] #[] (by simpa using hv) rfl) ⟨ho.2,ho'.2,?_⟩
   have:r=[]:=zce.mp e2.symm;subst this;rw[S0] at k;exact k _ s (M4 s) r1
  ·refine zrc (T:= "tuple") ⟨_,ho.2,rfl⟩ ⟨_,ho'.2,rfl⟩ zr3 zy3 zg7 zgq (zf7 _ _)
    (tuple_addW2 a b vs.toArray us.toArray n m none none #[] #[] (by simpa using hv) (by simpa using hu) (by simp only[I1];omega)) ⟨ho.2,ho'.2,?_⟩
   refine k _ _ (Z0 s _) (Rp.tup' (n:=0) (vs:=vs++us) ?_ ?_)
   ·rw[show vs.toArray++us.toArray=(vs++us).toArray by simp]
    exact zli ok.kl rfl
   ·exact(hl.append hr).go (Z0 s _) ok.tb
end
section
variable{G:Gt}{w:E3}{c:Cx}{H:Hm}{V:List (Option D)}{s s':A8}
variable{P:Flow->A8->Prop}{E:Value->A8->Prop}{rest:List Stmt}
theorem Wx.disown {a:Addr}{ds:List D}(i j:Nat)(hv:V[i]? =some (some (.ptr a)))(hj:H.own[j]? =some (a,ds))
 (h:Wx G w c (H.owns (H.own.eraseIdx j)) (V.set i (some (.lst ds))) rest P E):Wx G w c H V rest P E:=by
 refine⟨λ s F=>h.h s ?_⟩;have hjl:=(C7.mp hj).1;have hm:=A6 hj;have hsubl: ∀p,p∈H.own.eraseIdx j->p∈H.own:=λ p hp=>(zu9 H.own j).subset hp;have hsub: ∀b,b∈hk c (H.owns (H.own.eraseIdx j)) true->b∈hk c H true:=λ b hb=>by
  rcases G1.mp hb with q|q
  ·exact D3 _ q
  ·obtain⟨p,hp,rfl⟩:=C5.mp q
   exact D4 _ (I4 (hsubl p hp))
 have hnot:a∉(H.own.eraseIdx j).map (·.1):=λ q=>by
  have hnd:=F.ond;have e:H.own=H.own.take j++(a,ds)::H.own.drop (j+1):=by
   have h1:H.own[j]'hjl=(a,ds):=(C7.mp hj).2;rw[<-h1,<-zca hjl,zi3]
  rw[List.eraseIdx_eq_take_drop_succ] at q;rw[e,J2,E5] at hnd;have h2:=zm1.mp hnd;rw[J2] at q;rcases G1.mp q with q|q
  ·exact h2.2.2 a q a A9 rfl
  ·exact(za5.mp h2.2.1).1 q
 obtain⟨o,vs,e1,e2,e3⟩:=F.own a ds hm;exact{
  ok:=F.ok,go:=F.go,ns:=F.ns,gen:=F.gen,cells:=F.cells,hdA:=F.hdA,dk:=F.dk
  vars:=λ k y d hy hd=>by
   by_cases e:i=k
   ·subst e
    rw[zdj (C7.mp hv).1] at hd;cases hd;obtain⟨v,h1,h2⟩:=F.vars i y _ hy hv;have ev:v= .ref a:=h2;subst ev;refine⟨_,h1,?_⟩;refine⟨a,o,vs,rfl,?_,e2,e3.sub hsub⟩;rw[hid_some];exact⟨λ q=>(G1.mp q).elim (F.olo _ hm) hnot,e1⟩
   ·rw[P8 e] at hd
    obtain⟨v,h1,h2⟩:=F.vars k y d hy hd;exact⟨v,h1,h2.sub hsub⟩
  own:=λ b es hb=>let ⟨o,vs,f1,f2,f3⟩:=F.own b es (hsubl _ hb);⟨o,vs,f1,f2,f3.sub hsub⟩
  olo:=λ p hp=>F.olo p (hsubl p hp)
  ond:=F.ond.sublist ((zu9 H.own j).map _)
  fix:=λ b o hb=>by
   obtain⟨f1,f2,f3,f4,f5⟩:=F.fix b o hb;exact⟨f1,f2,f3,f4,λ q=>f5 (by obtain⟨p,hp,e⟩:=C5.mp q;exact e▸I4 (hsubl p hp))⟩}
structure AsN (G:Gt)(w:E3)(c:Cx)(V:List (Option D))(rows:List (List D))(H:Hm)(es:List Expr):Prop where
 h: ∀(pos:Pos) s,FrS G c H V s-> ∀(Q:List Value->A8->Prop) (E:Value->A8->Prop),
  (∀(as:List Addr) s',as.length=rows.length->Go s s'->(∀a∈as,s.heap.objs.size<=a)->FrS G c (H.owns ((as.zip rows).reverse++H.own)) V s'->Q (as.map N0) s')->D0 (D1 pw w) c.A (zcn (zb6 pos (J7 es c.env))) Q E s
theorem AsN.nil:AsN G w c V [] H []:=⟨λ pos s F Q E k=>by
 show D0 _ _ (zcn []) _ _ _;exact S9 (k [] s rfl (M4 s) (λ a h=>nomatch h) F)⟩
theorem AsN.cons {r:List D}{rs:List (List D)}{e:Expr}{es:List Expr}(h0:Nl G w c H V true e r)(ht: ∀a,AsN G w c V rs (H.owns ((a,r)::H.own)) es)
 (hs:J7 (e::es) c.env=(false,M3 e c.env)::J7 es c.env:=by rfl):AsN G w c V (r::rs) H (e::es):=by
 have hb: ∀pos,zb6 pos (J7 (e::es) c.env)=(false,M3 e c.env)::zb6 pos (J7 es c.env):=λ pos=>by rw[hs];rfl
 refine⟨λ pos s F Q E k=>?_⟩;rw[hb]
 with_reducible refine K6 (h0.h s F _ _ λ a s1 vs m g1 hfr e1 r1=>?_)
 have F1:=F.newown g1 hfr e1 r1;refine(ht a).h pos s1 F1 _ _ λ as s2 hl g2 ha F2=>?_;refine k (a::as) s2 (by simp[hl]) (g1.trans g2) (λ b hb=>?_) ?_
 ·rcases B9.mp hb with e|hb
  ·rw[e];exact hfr
  ·exact A7 g1.size (ha b hb)
 ·have:((a::as).zip (r::rs)).reverse++H.own=(as.zip rs).reverse++(a,r)::H.own:=by simp
  rw[this];exact F2
theorem zm6 {M:ze7}{A:H2}{E:Value->A8->Prop}{Q:Unit->A8->Prop}{t1 t2 t3 t4 t5:Value->Sem Unit}{v1 v2 v3 v4 v5:Value}
 (h:D0 M A (t1 v1) (λ z s1=>D0 M A (t2 v2) (λ z s2=>D0 M A (t3 v3) (λ z s3=>D0 M A (t4 v4) (λ z s4=>D0 M A (t5 v5) Q E s4) E s3) E s2) E s1) E s):D0 M A (zcd [t1,t2,t3,t4,t5] [v1,v2,v3,v4,v5]) Q E s:=by
 refine B0 (J8 (E7 h (λ z s1 h1=>?_) λ z z e=>e));refine B0 (J8 (E7 h1 (λ z s2 h2=>?_) λ z z e=>e));exact zh6 h2
theorem Wx.own5 {x1 x2 x3 x4 x5:Str}{n m:Nat}{p1 p2 p3 p4 p5 pt ps pv:Pos}{es:List Expr}{r1 r2 r3 r4 r5:List D}(i1 i2 i3 i4 i5:Nat)
 (hi:i1<c.ns/\i2<c.ns/\i3<c.ns/\i4<c.ns/\i5<c.ns)(hx1:c.nm[i1]? =some x1)(hx2:c.nm[i2]? =some x2)(hx3:c.nm[i3]? =some x3)(hx4:c.nm[i4]? =some x4)(hx5:c.nm[i5]? =some x5)
 (he:AsN G w c V [r1,r2,r3,r4,r5] H es)
 (h: ∀a1 a2 a3 a4 a5,(∀a∈[a1,a2,a3,a4,a5],OkW c a)->Wx G w c (H.owns ((a5,r5)::(a4,r4)::(a3,r3)::(a2,r2)::(a1,r1)::H.own)) (((((V.set i1 (some (.ptr a1))).set i2 (some (.ptr a2))).set i3 (some (.ptr a3))).set i4 (some (.ptr a4))).set i5 (some (.ptr a5))) rest P E)
 (hs:swapsWithSole [.Tuple [.Name x1 p1,.Name x2 p2,.Name x3 p3,.Name x4 p4,.Name x5 p5] n pt] (.Tuple es m pv) ps.line c.env=pure false:=by rfl)(hw:zdn [.Tuple [.Name x1 p1,.Name x2 p2,.Name x3 p3,.Name x4 p4,.Name x5 p5] n pt] (.Tuple es m pv) c.env=pure none:=by rfl):
 Wx G w c H V (.Assign [.Tuple [.Name x1 p1,.Name x2 p2,.Name x3 p3,.Name x4 p4,.Name x5 p5] n pt] (.Tuple es m pv) ps::rest) P E:=by
 refine⟨λ s F=>?_⟩
 with_reducible refine E8 (Assign_Tuple (zt8 (he.h _ s F _ _ λ as s1 hl g1 ha F1=>?_)) hs hw)
 obtain⟨a1,a2,a3,a4,a5,rfl⟩:=Internal.x5 hl;refine⟨by show 5<=H5;decide,?_⟩
 have hlo: ∀a∈[a1,a2,a3,a4,a5],OkW c a:=λ a h=> .inl (A7 F.go.size (ha a h));have F2:=F1.onto (Z0 s1 (R4 [.ref a1,.ref a2,.ref a3,.ref a4,.ref a5] 0));have eT:(s1.heap.push (R4 [.ref a1,.ref a2,.ref a3,.ref a4,.ref a5] 0)).get? s1.heap.objs.size=some (R4 [.ref a1,.ref a2,.ref a3,.ref a4,.ref a5] 0):=D8 _ rfl;have hae:(assignEach [zi7 x1 p1,zi7 x2 p2,zi7 x3 p3,zi7 x4 p4,zi7 x5 p5] c.env)=[(false,M9 (.Name x1 p1) c.env),(false,M9 (.Name x2 p2) c.env),(false,M9 (.Name x3 p3) c.env),(false,M9 (.Name x4 p4) c.env),(false,M9 (.Name x5 p5) c.env)]:=rfl;rw[arm_assign_Tuple,hae];refine B0 (K7 ?_);unfold unpack;refine B0 (J8 (zi9 F2.hdA eT rfl λ s3 g3=>?_));show D0 (D1 pw w) c.A (zcd [M9 (.Name x1 p1) c.env,M9 (.Name x2 p2) c.env,M9 (.Name x3 p3) c.env,M9 (.Name x4 p4) c.env,M9 (.Name x5 p5) c.env] [.ref a1,.ref a2,.ref a3,.ref a4,.ref a5]) _ E s3;have rp: ∀{g:Addr->Option Obj} (a:Addr),Rp g (.ptr a) (.ref a):=λ z=>rfl;refine zm6 ((zen (d:= .ptr a1) i1 hi.1 hx1).h _ _ (F2.onto g3) (rp _) _ _ λ s4 F4 z=>?_);refine(zen (d:= .ptr a2) i2 hi.2.1 hx2).h _ _ F4 (rp _) _ _ λ s5 F5 z=>?_;refine(zen (d:= .ptr a3) i3 hi.2.2.1 hx3).h _ _ F5 (rp _) _ _ λ s6 F6 z=>?_;refine(zen (d:= .ptr a4) i4 hi.2.2.2.1 hx4).h _ _ F6 (rp _) _ _ λ s7 F7 z=>?_;refine(zen (d:= .ptr a5) i5 hi.2.2.2.2 hx5).h _ _ F7 (rp _) _ _ λ s8 F8 z=>?_;exact(h a1 a2 a3 a4 a5 hlo).h s8 F8
theorem Wx.swap3 {x y z:Str}{n m:Nat}{p q r pt ps pv:Pos}{e1 e2 e3:Expr}{d1 d2 d3:D}{sc:Scope}(hsc:c.env.scope=sc)(i j k:Nat)(hi:i<c.ns)(hx:c.nm[i]? =some x)(hj:j<c.ns)(hy:c.nm[j]? =some y)(hk':k<c.ns)(hz:c.nm[k]? =some z)
 (h1:Ev G w c H V true e1 d1)(h2:Ev G w c H V true e2 d2)(h3:Ev G w c H V true e3 d3)(h:Wx G w c H (((V.set k (some d3)).set j (some d2)).set i (some d1)) rest P E)
 (hst1:J7 [e1,e2,e3] c.env=(false,M3 e1 c.env)::J7 [e2,e3] c.env:=by rfl)(hst2:J7 [e2,e3] c.env=(false,M3 e2 c.env)::J7 [e3] c.env:=by rfl)(hst3:J7 [e3] c.env=(false,M3 e3 c.env)::J7 [] c.env:=by rfl)
 (hw:zdn [.Tuple [.Name x p,.Name y q,.Name z r] n pt] (.Tuple [e1,e2,e3] m pv) (envOf sc)=pure (some [x,y,z]):=by rfl):Wx G w c H V (.Assign [.Tuple [.Name x p,.Name y q,.Name z r] n pt] (.Tuple [e1,e2,e3] m pv) ps::rest) P E:=by
 refine⟨λ s F=>?_⟩;have ha:As G w c H V true [e1,e2,e3] [d1,d2,d3]:=B8 h1 (B8 h2 (B8 h3 D9 hst3) hst2) hst1;have he:Ev G w c H V true (.Tuple [e1,e2,e3] m pv) (.tup [d1,d2,d3]):=Z1 ha
 with_reducible refine E8 (Assign_Tuple_swapped (names:=[x,y,z]) (he.r F λ v s1 g1 r1=>?_) rfl ((zjb (env':=envOf sc) hsc).trans hw))
 obtain⟨a,kk,vs,rfl,ho,hl⟩:=r1.tup_inv;rw[hid_some] at ho;obtain⟨v1,v2,v3,rfl,r1,r2,r3⟩:=RpL.i3 hl;have F1:=F.onto g1;refine zi9 F1.hdA ho.2 rfl λ s2 g2=>?_;show D0 (D1 pw w) c.A (zcd [ztw c.env z,ztw c.env y,ztw c.env x] [v3,v2,v1]) (λ u s=>_) E s2;refine zh6 (zo7 ((F1.onto g2).store k hk' hz (r3.go g2 F1.tb) λ s3 F3 u3=>?_));refine zo7 (F3.store j hj hy (u3.rp (r2.go g2 F1.tb)) λ s4 F4 u4=>?_);exact zo7 (F4.store i hi hx (u4.rp (u3.rp (r1.go g2 F1.tb))) λ s5 F5 u=>h.h s5 F5)
end
structure Fly (base:P9)(l:List Env)(e:Addr)(cls a0 fl:Value)(h:P9):Prop where
 stays:base.StaysIn h
 new:base.get? e=none
 frames:h.FunFrames base l
 ex: ∃oe vs T oT ts,h.get? e=some oe/\oe.cls=cls/\oe.data= .fields vs/\vs[0]? =some a0/\vs[1]? =some (.ref T)/\vs[2]? =some .none/\base.get? T=none/\T≠e/\h.get? T=some oT/\oT.data= .fields ts/\ts[3]? =some fl
theorem Fly.tail {base h:P9}{env:Env}{l:List Env}{e:Addr}{cls a0 fl:Value}(x:Fly base (env::l) e cls a0 fl h):Fly base l e cls a0 fl h:=⟨x.stays,x.new,x.frames.2.2,x.ex⟩
section
variable{M:ze7}{A:H2}{E:Value->A8->Prop}{s:A8}{base:P9}{env:Env}{l outer:List Env}{L e:Addr}{cls a0 fl:Value}
theorem zkl {h:P9}{e b:Addr}{oe o:Obj}{vs:Array Value}(he:h.get? e=some oe)(hd:oe.data= .fields vs)(hb:h.get? b=some o)(hn: ∀vs,o.data≠ .fields vs):b≠e:=λ q=>by
 rw[q,he] at hb;cases hb;exact hn vs hd
theorem zql {oe:Obj}{vs:Array Value}{head:Value}{hadNext:Bool}{Q:Unit->A8->Prop}(hfr:A.frames=some (env::outer))(hl:s.heap.FunFrames base (env::outer))(hf:env.frame=some L)
 (he:s.heap.get? e=some oe)(hkb:base.StaysIn s.heap)(hen:base.get? e=none)(hd:oe.data= .fields vs)(h1:2<vs.size)(h0:vs[0]? =some a0)(h2:vs[2]? =some .none)
 (k: ∀h',Fly base (env::outer) e oe.cls a0 (I6 L) h'->s.heap.UpToSlots h'->s.heap.objs.size<=h'.objs.size->Q () {s with heap:=h'}):
 D0 M A (do let a <-frameOf env;let pl <-entryPlaceOf L hadNext;let b <-zro head a .none (I6 L) .none pl;setField (.ref e) 1 b) Q E s:=by
 have out: ∀{b:Addr} {o:Obj},base.get? b=some o->b∉(env::outer).filterMap (·.frame):=λ{b o} hb hm=>by rw[(hl.mem hm).1] at hb;cases hb
 refine B0 (wpAny_frameOf_fun hfr hl hf λ g hs=>B0 (wpAny_entryPlaceOf λ pl hpl=>?_));obtain⟨z,same,sl⟩:=hs;unfold zro newFields;refine B0 (zah ?_ (hpl.sizeOk5 _ _ _ _ _));generalize htb:({cls:= .type "traceback",dict:=none,data:= .fields ([head,.ref L,.none,I6 L,.none]++(if pl.isEmpty then C1 6 M7 else pl)).toArray}:Obj)=tb;have hen':e∉(env::outer).filterMap (·.frame):=λ hm=>by
  obtain⟨_,o,ho,hn⟩:=hl.mem hm;exact zkl he hd ho hn rfl
 have ge:g.get? e=some oe:=(same e hen').trans he;have ltE:=C6 ge;have gb: ∀b o,base.get? b=some o->g.get? b=some o:=λ b o hb=>(same b (out hb)).trans (hkb b o hb);have fr:base.get? g.objs.size=none:=Heap.StaysIn.fresh gb;have pe:=C3 tb ge;refine zfv pe hd (by omega) ?_
 have hne:g.objs.size≠e:=za1 ltE;have de:=zkr hd (·.setIfInBounds 1 (N0 g.objs.size));have ptb:(g.push tb).get? g.objs.size=some tb:=D8 g (by rw[<-htb];rfl)
 have keep: ∀b o,b≠e->g.get? b=some o->((g.push tb).update e (zbg (·.setIfInBounds 1 (N0 g.objs.size)))).get? b=some o:=λ b o hb h=>by
  rw[zaw _ _ (U8 hb)];exact C3 _ h
 have up:s.heap.UpToSlots ((g.push tb).update e (zbg (·.setIfInBounds 1 (N0 g.objs.size)))):=λ b o hb hn=>by
  obtain⟨x,hx⟩:=sl b o hb;exact⟨x,keep b _ (zkl he hd hb hn) hx⟩
 refine k _ ⟨λ b o hb=>keep b o (λ q=>by rw[q,hen] at hb;cases hb) (gb b o hb),hen,hl.of_keeps λ b o hb hn=>?_,?_⟩ up ?_
 ·obtain⟨x,hx⟩:=up b o hb hn
  exact⟨_,hx,rfl⟩
 ·refine⟨_,_,g.objs.size,tb,([head,.ref L,.none,I6 L,.none]++(if pl.isEmpty then C1 6 M7 else pl)).toArray,Y9 _ pe (zhx de),Obj.cls_mapFields _ _,de,?_,?_,?_,fr,hne,(zaw _ _ (U8 hne)).trans ptb,?_,?_⟩
  ·rw[zan (by decide)];exact h0
  ·rw[zbs (by omega)]
  ·rw[zan (by decide)];exact h2
  ·rw[<-htb]
  ·simp
 ·show _<=((g.push tb).update e _).objs.size
  rw[zib,G8,z];exact L6 _
theorem zqj {oe:Obj}{vs:Array Value}{Q:Unit->A8->Prop}(hfr:A.frames=some (env::outer))(hl:s.heap.FunFrames base (env::outer))(hf:env.frame=some L)
 (he:s.heap.get? e=some oe)(hkb:base.StaysIn s.heap)(hen:base.get? e=none)(hd:oe.data= .fields vs)(h0:vs[0]? =some a0)(h1:vs[1]? =some .none)(h2:vs[2]? =some .none)
 (k: ∀h',Fly base (env::outer) e oe.cls a0 (I6 L) h'->s.heap.UpToSlots h'->s.heap.objs.size<=h'.objs.size->Q () {s with heap:=h'}):D0 M A (zdr (.ref e) env) Q E s:=by
 unfold zdr;simp only[hf];refine B0 (zai he hd h1 ?_);rw[if_neg (by decide)]
 exact zql hfr hl hf he hkb hen hd (J4.mp h2).1 h0 h2 k
theorem zct {x:Option Addr}{Q:Unit->A8->Prop}(F:Fly base l e cls a0 fl s.heap)(k: ∀h',Fly base l e cls a0 (x.elim .none λ f=>I6 f) h'->s.heap.UpToSlots h'->s.heap.objs.size<=h'.objs.size->Q () {s with heap:=h'}):
 D0 M A (setFlight (.ref e) x) Q E s:=by
 obtain⟨oe,vs,T,oT,ts,he,hc,hd,h0,h1,h2,hT,hne,hgT,hdT,h3⟩:=F.ex;have hz:=(J4.mp h3).1;have keep: ∀b o,b≠T->s.heap.get? b=some o->(s.heap.update T (zbg (·.setIfInBounds 3 (x.elim M7 λ f=>I6 f)))).get? b=some o:=λ b o hb h=>(zaw _ _ (U8 hb)).trans h;have up:s.heap.UpToSlots (s.heap.update T (zbg (·.setIfInBounds 3 (x.elim M7 λ f=>I6 f)))):=λ b o hb hn=>⟨o.slots,keep b o (zkl hgT hdT hb hn) hb⟩;unfold setFlight;refine B0 (zai he hd h1 ?_);rw[if_pos (show(N0 T != M7)=true from by simp)]
 have dT:=zkr hdT (·.setIfInBounds 3 (x.elim M7 λ f=>I6 f));refine zfv hgT hdT hz (k _ ⟨λ b o hb=>keep b o (λ q=>by rw[q,hT] at hb;cases hb) (F.stays b o hb),F.new,F.frames.of_keeps λ b o hb hn=>?_,?_⟩ up (by rw[zib];exact D2 _))
 ·exact⟨o,keep b o (zkl hgT hdT hb hn) hb,rfl⟩
 ·exact⟨oe,vs,T,_,_,keep e oe (U8 hne) he,hc,hd,h0,h1,h2,hT,hne,Y9 _ hgT (zhx dT),dT,by rw[zbs hz]⟩
theorem zik {Q:Unit->A8->Prop}(hfr:A.frames=some (env::outer))(hf:env.frame=some L)(F:Fly base (env::outer) e cls a0 .none s.heap)
 (k: ∀h',Fly base (env::outer) e cls a0 (I6 L) h'->s.heap.UpToSlots h'->s.heap.objs.size<=h'.objs.size->Q () {s with heap:=h'}):D0 M A (zdr (.ref e) env) Q E s:=by
 obtain⟨oe,vs,T,oT,ts,he,hc,hd,h0,h1,h2,hT,hne,hgT,hdT,h3⟩:=F.ex;have hz:=(J4.mp h3).1;have keep: ∀b o,b≠T->s.heap.get? b=some o->(s.heap.update T (zbg (·.setIfInBounds 3 M7))).get? b=some o:=λ b o hb h=>(zaw _ _ (U8 hb)).trans h;unfold zdr;simp only[hf];refine B0 (zai he hd h1 ?_);rw[if_pos (show(N0 T != M7)=true from by simp)]
 refine B0 (zai hgT hdT h3 ?_);rw[if_neg (show ¬((M7==I6 L)=true) from by simp[I6])]
 refine B0 (zfv hgT hdT hz ?_);subst hc;refine zql hfr (F.frames.of_keeps λ b o hb hn=>⟨o,keep b o (zkl hgT hdT hb hn) hb,rfl⟩) hf (keep e oe (U8 hne) he) (λ b o hb=>keep b o (λ q=>by rw[q,hT] at hb;cases hb) (F.stays b o hb)) F.new hd (J4.mp h2).1 h0 h2 λ h' F' up z=>k h' F' (λ b o hb hn=>up b o (keep b o (zkl hgT hdT hb hn) hb) hn) ?_
 have z':(s.heap.update T (zbg (·.setIfInBounds 3 M7))).objs.size<=h'.objs.size:=z;rw[zib] at z';exact z'
theorem znd {Q:Unit->A8->Prop}(hf:env.frame=some L)(F:Fly base l e cls a0 (I6 L) s.heap)(k:Q () s):D0 M A (zdr (.ref e) env) Q E s:=by
 obtain⟨oe,vs,T,oT,ts,he,hc,hd,h0,h1,h2,hT,hne,hgT,hdT,h3⟩:=F.ex;unfold zdr;simp only[hf];refine B0 (zai he hd h1 ?_);rw[if_pos (show(N0 T != M7)=true from by simp)]
 refine B0 (zai hgT hdT h3 ?_);rw[if_pos (show(I6 L==I6 L)=true from by simp)]
 exact C4 k
theorem zow {oe:Obj}{vs:Array Value}{Q:Unit->A8->Prop}(hfr:A.frames=some (env::outer))(hl:s.heap.FunFrames base (env::outer))(hf:env.frame=some L)
 (he:s.heap.get? e=some oe)(hkb:base.StaysIn s.heap)(hen:base.get? e=none)(hd:oe.data= .fields vs)(h0:vs[0]? =some a0)(h1:vs[1]? =some .none)(h2:vs[2]? =some .none)
 (k: ∀h',Fly base outer e oe.cls a0 .none h'->s.heap.UpToSlots h'->s.heap.objs.size<=h'.objs.size->Q () {s with heap:=h'}):D0 M A (zji env (.ref e)) Q E s:=by
 unfold zji;refine B0 (zqj hfr hl hf he hkb hen hd h0 h1 h2 λ h1 F1 u1 z1=>?_);exact zct F1 λ h2 F2 u2 z2=>k h2 F2.tail (u1.trans u2) (A7 z1 z2)
theorem zqk {Q:Unit->A8->Prop}(hfr:A.frames=some (env::outer))(hf:env.frame=some L)(F:Fly base (env::outer) e cls a0 .none s.heap)
 (k: ∀h',Fly base outer e cls a0 .none h'->s.heap.UpToSlots h'->s.heap.objs.size<=h'.objs.size->Q () {s with heap:=h'}):D0 M A (zji env (.ref e)) Q E s:=by
 unfold zji;refine B0 (zik hfr hf F λ h1 F1 u1 z1=>?_);exact zct F1 λ h2 F2 u2 z2=>k h2 F2.tail (u1.trans u2) (A7 z1 z2)
theorem zne {Q:Unit->A8->Prop}(hf:env.frame=some L)(F:Fly base (env::outer) e cls a0 (I6 L) s.heap)
 (k: ∀h',Fly base outer e cls a0 .none h'->s.heap.UpToSlots h'->s.heap.objs.size<=h'.objs.size->Q () {s with heap:=h'}):D0 M A (zji env (.ref e)) Q E s:=by
 unfold zji;refine B0 (znd hf F ?_);exact zct F λ h2 F2 u2 z2=>k h2 F2.tail u2 z2
theorem zz1 {X:Value->A8->Prop}(hf:env.frame=some L)(F:Fly base l e cls a0 fl s.heap)
 (k: ∀h',Fly base l e cls a0 (I6 L) h'->s.heap.UpToSlots h'->s.heap.objs.size<=h'.objs.size->X (.ref e) {s with heap:=h'}):zit M A env X (.ref e) s:=by
 obtain⟨oe,vs,T,oT,ts,he,hc,hd,h0,h1,h2,hT,hne,hgT,hdT,h3⟩:=F.ex;show D0 _ _ _ _ _ _;refine B0 (zai he hd h1 ?_);rw[if_neg (show ¬((N0 T==M7)=true) from by simp)]
 rw[hf];exact zct F k
end
section
open PySem.Sre PySem.Builtin.Re
noncomputable def zbm (h:P9)(S:List Addr):P9:={h with objs:=h.objs.mapIdx λ i o=>if i∈S then{o with data:= .freed} else o}
theorem zn4 (h:P9)(S:List Addr):(zbm h S).objs.size=h.objs.size:=by unfold zbm;simp
theorem zo6 {h:P9}{S:List Addr}{a:Addr}(ha:a∈S):(zbm h S).get? a=none:=by
 cases e:(zbm h S).get? a with
 |none=>rfl
 |some o=>
  obtain⟨h1,h2⟩:=zls.mp e;unfold zbm at h1;simp only[zu2] at h1;obtain⟨o',_,rfl⟩:=zda.mp h1;rw[if_pos ha] at h2;simp[Obj.isFreed] at h2
theorem zg4 {h:P9}{S:List Addr}{a:Addr}(ha:a∉S):(zbm h S).get? a=h.get? a:=by
 have key: ∀o,(zbm h S).get? a=some o↔h.get? a=some o:=λ o=>by
  rw[zls,zls];unfold zbm;simp only[zu2]
  cases e:h.objs[a]? with
  |none=>simp
  |some x=>simp[ha]
 cases e:h.get? a with
 |some o=>exact(key o).mpr e
 |none=>
  cases e':(zbm h S).get? a with
  |none=>rfl
  |some o=>rw[(key o).mp e'] at e;cases e
theorem ziu (h:P9)(S:List Addr):(zbm h S).StaysIn h:=λ b o e=>by
 by_cases hb:b∈S
 ·rw[zo6 hb] at e;cases e
 ·rwa [zg4 hb] at e
noncomputable def FF (h:P9)(l:List Env):Prop:= ∀env∈l,env.scope.kind≠ .module/\ ∃L o,env.frame=some L/\h.get? L=some o/\ ∃es ep,o.data= .dict es ep
theorem FF.fun {h base:P9}{l:List Env}(x:FF h l)(hb: ∀env∈l,∀L,env.frame=some L->base.get? L=none):h.FunFrames base l:=by
 induction l with
 |nil=>trivial
 |cons env r ih=>
  obtain⟨h1,L,o,h2,h3,es,ep,h4⟩:=x env A9;exact⟨h1,⟨L,o,h2,hb env A9 L h2,h3,λ vs q=>by rw[h4] at q;cases q⟩,ih (λ e he=>x e (B1 _ he)) λ e he=>hb e (B1 _ he)⟩
theorem FF.go {s s':A8}{l:List Env}(x:FF s.heap l)(g:Go s s')(t:Tb s.heap):FF s'.heap l:=λ env he=>by
 obtain⟨h1,L,o,h2,h3,es,ep,h4⟩:=x env he;exact⟨h1,L,o,h2,g.keepN t (.inl λ vs q=>by rw[h4] at q;cases q) h3,es,ep,h4⟩
noncomputable abbrev ybe (l:List Env):List Addr:=l.filterMap (·.frame)
noncomputable def TA (a0:Value)(ta:Option (List Value))(h:P9):Prop:= ∀args,ta=some args-> ∃t o n,a0= .ref t/\h.get? t=some o/\o.cls= .type "tuple"/\o.data= .seq args.toArray n
theorem TA.up {a0:Value}{ta:Option (List Value)}{h h':P9}(x:TA a0 ta h)(u:h.UpToSlots h'):TA a0 ta h':=λ args ha=>by
 obtain⟨t,o,n,e,h1,h2,h3⟩:=x args ha;obtain⟨sl,h4⟩:=u t o h1 (λ vs q=>by rw[h3] at q;cases q)
 exact⟨t,_,n,e,h4,h2,h3⟩
structure Thr (S:List Addr)(outer:List Env)(cls:String)(e:Addr)(a0:Value)(ta:Option (List Value))(fl:Value)(r s':A8):Prop where
 fly:Fly (zbm r.heap S) outer e (.type cls) a0 fl s'.heap
 up:r.heap.UpToSlots s'.heap
 size:r.heap.objs.size<=s'.heap.objs.size
 gens:s'.gens=r.gens
 os:s'.os=r.os
 arg:TA a0 ta s'.heap
 sub: ∀a∈ybe outer,a∈S
 ne:r.heap.get? e=none
 dct: ∀a∈S,∃o es ep,r.heap.get? a=some o/\o.data= .dict es ep
theorem Thr.step {S:List Addr}{outer outer':List Env}{cls:String}{e:Addr}{a0:Value}{ta:Option (List Value)}{fl fl':Value}{r s:A8}{h':P9}(x:Thr S outer cls e a0 ta fl r s)(F:Fly (zbm r.heap S) outer' e (.type cls) a0 fl' h')
 (u:s.heap.UpToSlots h')(z:s.heap.objs.size<=h'.objs.size)(hs: ∀a∈ybe outer',a∈ybe outer):Thr S outer' cls e a0 ta fl' r {s with heap:=h'} where
 fly:=F
 up:=x.up.trans u
 size:=A7 x.size z
 gens:=x.gens
 os:=x.os
 arg:=x.arg.up u
 sub:=λ a ha=>x.sub a (hs a ha)
 ne:=x.ne
 dct:=x.dct
structure New (cls:String)(e:Addr)(a0:Value)(ta:Option (List Value))(r s:A8):Prop where
 keep: ∀b o,r.heap.get? b=some o->s.heap.get? b=some o
 size:r.heap.objs.size<=s.heap.objs.size
 gens:s.gens=r.gens
 os:s.os=r.os
 ne:r.heap.get? e=none
 he: ∃o,s.heap.get? e=some o/\o.cls= .type cls/\o.data= .fields #[a0,.none,.none,.none,.bool false,.none]
 arg:TA a0 ta s.heap
theorem zyq {S:List Addr}{cls:String}{e:Addr}{a0:Value}{ta:Option (List Value)}{r s:A8}{l:List Env}(n:New cls e a0 ta r s)(ff:FF r.heap l)(hS: ∀a∈ybe l,a∈S):
 (zbm r.heap S).get? e=none/\s.heap.FunFrames (zbm r.heap S) l/\(zbm r.heap S).StaysIn s.heap:=by
 refine⟨?_,?_,λ b o q=>n.keep b o (ziu _ _ b o q)⟩
 ·cases q:(zbm r.heap S).get? e with
  |none=>rfl
  |some o=>have:=ziu _ _ _ _ q;rw[n.ne] at this;cases this
 ·have:r.heap.FunFrames (zbm r.heap S) l:=ff.fun λ en hen L' hL'=>zo6 (hS L' (T5.mpr ⟨en,hen,hL'⟩))
  exact this.of_keeps λ b o hb z=>⟨o,n.keep b o hb,rfl⟩
theorem zvm {M:ze7}{A:H2}{E:Value->A8->Prop}{S:List Addr}{env:Env}{outer:List Env}{L e:Addr}{cls:String}{a0:Value}{ta:Option (List Value)}{r s:A8}{Q:Unit->A8->Prop}(hfr:A.frames=some (env::outer))(hf:env.frame=some L)
 (ff:FF r.heap (env::outer))(hS: ∀a∈ybe (env::outer),a∈S)(hS': ∀a∈S,a∈ybe (env::outer))(n:New cls e a0 ta r s)
 (k: ∀s',Thr S outer cls e a0 ta .none r s'->Q () s'):D0 M A (zji env (.ref e)) Q E s:=by
 obtain⟨hen,fn,st⟩:=zyq n ff hS;obtain⟨o,he,hc,hd⟩:=n.he;refine zow hfr fn hf he st hen hd rfl rfl rfl λ h' F u z=>?_;rw[hc] at F;exact k _ ⟨F,(Heap.UpToSlots.of_keeps n.keep).trans u,A7 n.size z,n.gens,n.os,n.arg.up u,λ a ha=>hS a (by
  obtain⟨en,h1,h2⟩:=T5.mp ha;exact T5.mpr ⟨en,B1 _ h1,h2⟩),n.ne,λ a ha=>by
   obtain⟨en,h1,h2⟩:=T5.mp (hS' a ha);obtain⟨_,L',o',h3,h4,es,ep,h5⟩:=ff en h1;rw[h2] at h3;cases h3;exact⟨o',es,ep,h4,h5⟩⟩
section
variable{G:Gt}{w:E3}{c:Cx}{H:Hm}{V:List (Option D)}{s s':A8}
theorem yd8 {x:Str}{p ps:Pos}{T:String}{e:Expr}{d:D}(hf:Nv G w c (.Name x p) (.type "type"))(ha:As G w c H V true [e] [d])(hT: ∀(s:A8) K v,Rp (hid K s.heap) d v->s.TypeIs v T)
 (hn:(zre T== .type "builtin_function_or_method")=false)(F:FrS G c H V s){Q E:Value->A8->Prop}(k: ∀s',Go s s'->Q (.type T) s'):D0 (D1 pw w) c.A (M3 (.Call (.Name x p) [e] [] ps) c.env) Q E s:=by
 with_reducible refine L0 (hf.h H V s F _ _ (O7 (ha.ns _) (N2 (ha.ns _) (ha.h _ s F _ _ λ vs s1 g1 r1=>?_))))
 rw[I2];obtain⟨v,rfl,rv⟩:=zc0 r1;exact call_type_of (hT s1 _ v rv) hn (k s1 g1)
theorem Ts.typeIs {x y:Str}{p p2 ps pc:Pos}{T:String}{e:Expr}{d:D}(hf:Nv G w c (.Name x p) (.type "type"))(hg:Nv G w c (.Name y p2) (.type T))(ha:As G w c H V true [e] [d])(hT: ∀(s:A8) K v,Rp (hid K s.heap) d v->s.TypeIs v T)
 (hn:(zre T== .type "builtin_function_or_method")=false:=by rfl):Ts G w c H V (.Compare (.Call (.Name x p) [e] [] ps) [.Is] [.Name y p2] pc) true:=by
 refine⟨λ s F Q E k=>?_⟩
 with_reducible refine Z7 (yd8 hf ha hT hn F λ s1 g1=>hg.h H V s1 (F.onto g1) _ _ ?_) rfl
 exact wpAny_is_self rfl (X9 (k s1 g1))
theorem Ts.typeIsNot {x y:Str}{p p2 ps pc:Pos}{T:String}{e:Expr}{d:D}(hf:Nv G w c (.Name x p) (.type "type"))(hg:Nv G w c (.Name y p2) (.type T))(ha:As G w c H V true [e] [d])(hT: ∀(s:A8) K v,Rp (hid K s.heap) d v->s.TypeIs v T)
 (hn:(zre T== .type "builtin_function_or_method")=false:=by rfl):Ts G w c H V (.Compare (.Call (.Name x p) [e] [] ps) [.IsNot] [.Name y p2] pc) false:=by
 refine⟨λ s F Q E k=>?_⟩
 with_reducible refine Z7 (yd8 hf ha hT hn F λ s1 g1=>hg.h H V s1 (F.onto g1) _ _ ?_) rfl
 exact wpAny_isNot_self rfl (X9 (k s1 g1))
theorem Rp.tyStr {x:Str}: ∀(s:A8) (K:List Addr) v,Rp (hid K s.heap) (.str x) v->s.TypeIs v "str":=λ s K v r=>by
 obtain⟨t,rfl⟩:=r.str_inv;exact zbt s x t
theorem MeP.search {p:Addr}{u:Str}{tu:Tok}{fl:Int}{ft:Tok}{cd:Addr}{cp:List Int}{n:Nat}{x:Str}{body Kk:Nat}{Mt:Nat->Option Nat}
 (h1:(p,zh8 u tu fl ft cd)∈G0.otab)(h2:(cd,R4 (zet cp) n)∈G0.otab)(pr:Prog (cp.map N7).toArray x.cps x.cps.size body Kk Mt)
 (hb:(header (cp.map N7).toArray).2=body)(h0:body≠0)(hl:(header (cp.map N7).toArray).1=1)(hK:Kk<=100)(hx:x.length<=1000000)(hno: ∀q,Mt q=none):
 MeP G0 w "re.Pattern" "re.Pattern.search" (.ptr p) [.str x] .none:=by
 refine⟨ycn h1,λ A K s v0 vs ok r0 rs=>⟨λ Q E k=>?_⟩⟩;have e:v0= .ref p:=r0;subst e;obtain⟨v1,rfl,r1⟩:=zc0 rs;obtain⟨t1,rfl⟩:=r1.str_inv;refine zkv (IsPat.of ok h1 h2) (by omega) pr hb h0 hl hK (λ b e b1 b2 vs hM=>?_) λ z=>k _ s (M4 s) .none'
 rw[hno b] at hM;cases hM
theorem Ts.found {o e:Expr}{ap ps:Pos}{p:Addr}{u:Str}{tu:Tok}{fl:Int}{ft:Tok}{cd:Addr}{cp:List Int}{n:Nat}{x:Str}{body Kk:Nat}{Mt:Nat->Option Nat}
 (h1:(p,zh8 u tu fl ft cd)∈G0.otab)(h2:(cd,R4 (zet cp) n)∈G0.otab)(pr:Prog (cp.map N7).toArray x.cps x.cps.size body Kk Mt)
 (hb:(header (cp.map N7).toArray).2=body)(h0:body≠0)(hl:(header (cp.map N7).toArray).1=1)(hK:Kk<=100)(hx:x.length<=1000000)(hno: ∃q,Mt q≠none)
 (ho:Ev G0 w c H V true o (.ptr p))(ha:As G0 w c H V true [e] [.str x])
 (hf: ∀(env:Env) (whole:Sem Value),isTrue (.Call (.Attribute o "search" ap) [e] [] ps) env whole=(do let v <-whole;zfe (Expr.Call (.Attribute o "search" ap) [e] [] ps).pos;zkz [v] (zrr v)):=by intro _ _;rfl)
 (hbase:zdu o "search" c.env (M3 o c.env)=M3 o c.env:=by rfl)(hline:(ap.endLine==ps.line)=true:=by rfl):
 Ts G0 w c H V (.Call (.Attribute o "search" ap) [e] [] ps) true:=by
 refine⟨λ s F Q E k=>?_⟩;refine zfw ?_ (hf _ _);refine Z2 hbase ?_ hline zza ze1 zh7 (ho.r F λ v0 s1 g1 r1=>?_)
 ·rw[zqn (ha.ns ps)];rfl
 obtain⟨t1,t2⟩:=ycn h1 c.A _ s1 v0 ((F.onto g1).okS true) r1;refine⟨t1,t2,?_⟩;have e:v0= .ref p:=r1;subst e;refine O0 (ha.ns _) (N2 (ha.ns _) (ha.h _ s1 (F.onto g1) _ _ λ us s2 g2 r2=>?_));obtain⟨v1,rfl,rv⟩:=zc0 r2;obtain⟨t3,rfl⟩:=rv.str_inv;refine zkv (IsPat.of (((F.onto g1).onto g2).okS true) h1 h2) (by omega) pr hb h0 hl hK (λ b e b1 b2 vs hM=>?_) λ hn=>(let ⟨q,hq⟩:=hno;absurd (hn q) hq)
 have hz:(s2.heap.push (R4 [I6 b1,I6 b2] 0)).objs.size=s2.heap.objs.size+1:=ze5 ..;have gm:((s2.heap.push (R4 [I6 b1,I6 b2] 0)).push {cls:= .type "re.Match",data:= .fields vs}).get? (s2.heap.objs.size+1)=some {cls:= .type "re.Match",data:= .fields vs}:=by
  rw[<-hz];exact D8 _ rfl
 refine zi8 ⟨_,gm,rfl⟩ (k _ ((g1.trans g2).trans ((Z0 s2 (R4 [I6 b1,I6 b2] 0)).trans (Z0 _ {cls:= .type "re.Match",data:= .fields vs}))))
end
noncomputable def FCst:Fd where
 f:=170
 c:=169
 fd:=zun
 ps:=["self","value"]
 nm:=["self","value","name","regex"]
 kl:=[false,false,false,false]
 gn:=[("_name_disallowed_re",.ref 135),("_value_disallowed_re",.ref 140),("str",.type "str"),("type",.type "type"),("ValueError",.type "ValueError")]
theorem yb1:FokB G0 FCst:=zkt (gi:=[17,18]) (bj:=[10,12,14]) rfl (by decide+kernel) (A6 (i:=13) rfl) (A6 (i:=13) rfl) rfl rfl ⟨rfl,rfl,rfl,rfl,rfl,rfl⟩
theorem ztv (v0 v:Value)(b:Bool):zay FCst.fd ⟨[v0,v],[("name",.bool b)]⟩=pure [(("self":Str),v0),("value",v),("name",.bool b)]:=by rfl
noncomputable def zc7 (b:Bool)(x:Str):Prop:= ∀q,q<x.cps.size->(if b then zr5 else zx1) (x.cps.getD q 0)=false
noncomputable def zjq (b:Bool)(x:Str):Prop:= ∃q,q<x.cps.size/\(if b then zr5 else zx1) (x.cps.getD q 0)=true
noncomputable abbrev yeh (b:Bool):Addr:=if b then 135 else 140
theorem ya9 {x:Str}{f:Nat->Bool}(h: ∀q,q<x.cps.size->f (x.cps.getD q 0)=false)(q:Nat):(if q<x.cps.size/\f (x.cps.getD q 0)=true then some (q+1) else none)=none:=by
 rw[if_neg];rintro⟨h1,h2⟩;rw[h q h1] at h2;cases h2
theorem yfu {x:Str}{f:Nat->Bool}(h: ∃q,q<x.cps.size/\f (x.cps.getD q 0)=true): ∃q,(if q<x.cps.size/\f (x.cps.getD q 0)=true then some (q+1) else none)≠none:=by
 obtain⟨q,hq⟩:=h;exact⟨q,by rw[if_pos hq];simp⟩
theorem zzg {w:E3}{b:Bool}{x:Str}(hz:x.length<=100000)(h:zc7 b x):MeP G0 w "re.Pattern" "re.Pattern.search" (.ptr (yeh b)) [.str x] .none:=by
 cases b with
 |true=>exact MeP.search (A6 (i:=10) rfl) (A6 (i:=6) rfl) (zta x.cps x.cps.size) rfl (by decide) rfl (by decide) (by omega) (ya9 h)
 |false=>exact MeP.search (A6 (i:=11) rfl) (A6 (i:=7) rfl) (zvf x.cps x.cps.size) rfl (by decide) rfl (by decide) (by omega) (ya9 h)
theorem zxe {K:List Addr}{s:A8}{v0 v:Value}{x:Str}{b:Bool}(r:Rp (hid K s.heap) (.str x) v):Bnd FCst [none,some (.str x),some (.bool b),none] K [("self",v0),("value",v),("name",.bool b)] s where
 nd:=show(["self","value","name"]:List Str).Nodup by decide+kernel
 nm:=λ y hy=>by
  simp only[B9,D6,or_false] at hy;rcases hy with rfl|rfl|rfl
  ·exact A6 (i:=0) rfl
  ·exact A6 (i:=1) rfl
  ·exact A6 (i:=2) rfl
 v:=λ i y d hi hd=>by
  match i with
  |0=>cases hd
  |1=>cases hi;cases hd;exact⟨v,A6 (i:=1) rfl,r⟩
  |2=>cases hi;cases hd;exact⟨_,A6 (i:=2) rfl,.bool'⟩
  |3=>cases hd
  |_+4=>cases hd
section
variable{w:E3}
theorem ydm {A:H2}{K:List Addr}{s:A8}{v0 v:Value}{x:Str}{b:Bool}(rm:Rm A 2)(ok:Ok G0 A K s)(r:Rp (hid K s.heap) (.str x) v)(hz:x.length<=100000)(hx:zc7 b x):
 Gv w A K s (call (.ref 170) [v0,v] [("name",.bool b)]) (.str x):=by
 refine⟨λ Q E k=>?_⟩;refine zmo (w:=w) FCst yb1 (l:=2) (b:=s) (ow:=[]) (fx:=[]) (wr:=[]) (dk:=[]) (V:=[none,some (.str x),some (.bool b),none]) (K:=K) (by omega) rm ok.gnd ok.tb ok.hd ok.gnd ok.tb (zj5 s) ok.kl (λ a h=>nomatch h) (λ p h=>nomatch h) (λ p h=>nomatch h) ⟨(λ a ds h=>nomatch h),U7⟩ (λ p h=>nomatch h) (λ p h=>nomatch h)
  (λ M A' E' Q' h=>?_) λ L s2 F2 g2=>?_
 ·rw[ztv]
  refine C4 (h s _ (M4 s) ?_);rw[show K++([]:List (Addr×List D)).map (·.1)=K by simp]
  exact zxe r
 have W:Wx G0 w (FCst.cxw (A.deeper (H3 FCst.fd L FCst.f)) (H3 FCst.fd L FCst.f) s K [] [] 0) h0 [none,some (.str x),some (.bool b),none] FCst.body (λ f s'=>Go s s'/\Rp (hid K s'.heap) (.str x) (match f with| .ret v=>v|_=> .none)) (λ z z=>False):=by
  refine W3 (Ts.typeIs (G7 3 rfl) (G7 2 rfl) (B8 (B4 1 rfl rfl) D9) Rp.tyStr) (λ z=>?_) λ h=>by cases h
  refine I9 3 (show 3<4 by decide) rfl (Ev.ite (d:= .ptr (yeh b)) (zmj (B4 2 rfl rfl) Tv.bool) (λ h=>by subst h;exact Ev.nv (G7 0 rfl) λ g=>by exact rfl) (λ h=>by subst h;exact Ev.nv (G7 1 rfl) λ g=>by exact rfl)) ?_
  refine W3 (zmj (Ev.methP zza ze1 zh7 (B4 3 rfl rfl) (B8 (B4 1 rfl rfl) D9) (zzg hz hx)) Tv.none) (λ h=>by cases h) λ z=>?_
  exact za3 (B4 1 rfl rfl) λ v s F r=>⟨F.go.nil,r⟩
 exact E7 (W.h s2 F2) (λ f s' h=>k _ s' h.1 h.2) λ z z h=>h.elim
end
section
variable{G:Gt}{w:E3}{c:Cx}{H:Hm}{V:List (Option D)}{P:Flow->A8->Prop}{E:Value->A8->Prop}{rest:List Stmt}
theorem Wx.raiseV {x msg:Str}{k:Nat}{np cp kp ps:Pos}(hh:c.A.handled=none)(hf:Nv G w c (.Name x np) (.type "ValueError"))
 (h: ∀r s e t tk,FrS G c H V r->New "ValueError" e (.ref t) (some [.str msg tk]) r s->E (.ref e) s)
 (hs:J7 [.Constant (.str msg) k kp] c.env=[(false,M3 (.Constant (.str msg) k kp) c.env)]:=by rfl):
 Wx G w c H V (.Raise (some (.Call (.Name x np) [.Constant (.str msg) k kp] [] cp)) none ps::rest) P E:=by
 refine⟨λ s F=>E8 (Q4 ?_)⟩;have ha:As G w c H V true [.Constant (.str msg) k kp] [.str msg]:=B8 K0 D9 hs;refine wpAny_Raise_call PySem.F.excCall_ValueError PySem.F.excRaise_ValueError hh (ha.ns cp) ?_;refine hf.h H V s F _ _ ⟨rfl,?_⟩;refine N2 (ha.ns cp) ?_;rw[hs];show D0 _ _ (zcn ((false,M3 (.Constant (.str msg) k kp) c.env)::[])) _ _ _;refine K6 ?_;have one: ∀{Q:Value->A8->Prop} {E:Value->A8->Prop},Q (.str msg s.toks) {s with toks:=s.toks+1}->D0 (D1 pw w) c.A (M3 (.Constant (.str msg) k kp) c.env) Q E s:=λ q z z z=>q;refine one (S9 ⟨rfl,by simp[zbf],λ h' e m hz=>?_⟩)
 obtain⟨t0,h1,h2,h3⟩:=m.there;exact h _ _ e t0 s.toks (F.onto (R1 s (s.toks+1))) ⟨m.keeps,hz,rfl,rfl,m.new,⟨_,h1,rfl,rfl⟩,λ args ha=>by cases ha;exact⟨t0,_,_,rfl,h3,rfl,rfl⟩⟩
end
noncomputable abbrev ycr:Str:= "Control characters not allowed in headers"
theorem FF.cons {h:P9}{env:Env}{l:List Env}{L:Addr}{m:Str->Option Value}(hk:env.scope.kind= .function)(hf:env.frame=some L)(hn:h.Ns L m)(x:FF h l):FF h (env::l):=by
 intro en he;rcases B9.mp he with rfl|he
 ·obtain⟨o,es,ep,h1,h2,_⟩:=hn
  exact⟨by rw[hk];decide,L,o,hf,h1,es,ep,h2⟩
 ·exact x en he
theorem zd8 {env:Env}{l:List Env}{L:Addr}(hf:env.frame=some L):ybe (env::l)=L::ybe l:=by unfold ybe;rw[zk5,hf]
section
variable{w:E3}
theorem zwu {c:Cx}{H:Hm}{V:List (Option D)}{b:Bool}{x:Str}{o e:Expr}{ap ps:Pos}(hz:x.length<=100000)(h:zjq b x)(ho:Ev G0 w c H V true o (.ptr (yeh b)))(ha:As G0 w c H V true [e] [.str x])
 (hf: ∀(env:Env) (whole:Sem Value),isTrue (.Call (.Attribute o "search" ap) [e] [] ps) env whole=(do let v <-whole;zfe (Expr.Call (.Attribute o "search" ap) [e] [] ps).pos;zkz [v] (zrr v)):=by intro _ _;rfl)
 (hbase:zdu o "search" c.env (M3 o c.env)=M3 o c.env:=by rfl)(hline:(ap.endLine==ps.line)=true:=by rfl):
 Ts G0 w c H V (.Call (.Attribute o "search" ap) [e] [] ps) true:=by
 cases b with
 |true=>exact Ts.found (A6 (i:=10) rfl) (A6 (i:=6) rfl) (zta x.cps x.cps.size) rfl (by decide) rfl (by decide) (by omega) (yfu h) ho ha hf hbase hline
 |false=>exact Ts.found (A6 (i:=11) rfl) (A6 (i:=7) rfl) (zvf x.cps x.cps.size) rfl (by decide) rfl (by decide) (by omega) (yfu h) ho ha hf hbase hline
theorem zup {A:H2}{K:List Addr}{s:A8}{v0 v:Value}{x:Str}{b:Bool}{outer:List Env}(hh:A.handled=none)(rm:Rm A 2)(ok:Ok G0 A K s)(r:Rp (hid K s.heap) (.str x) v)(hz:x.length<=100000)(hx:zjq b x)
 (hfr:A.frames=some outer)(ff:FF s.heap outer){Q E:Value->A8->Prop}
 (k: ∀e t tk S r s',Go s r->Thr S outer "ValueError" e (.ref t) (some [.str ycr tk]) .none r s'->(∀a∈S,a∈ybe outer\/s.heap.objs.size<=a)->E (.ref e) s'):
 D0 (D1 pw w) A (call (.ref 170) [v0,v] [("name",.bool b)]) Q E s:=by
 refine zmo (w:=w) FCst yb1 (l:=2) (b:=s) (ow:=[]) (fx:=[]) (wr:=[]) (dk:=[]) (V:=[none,some (.str x),some (.bool b),none]) (K:=K) (by omega) rm ok.gnd ok.tb ok.hd ok.gnd ok.tb (zj5 s) ok.kl (λ a h=>nomatch h) (λ p h=>nomatch h) (λ p h=>nomatch h) ⟨(λ a ds h=>nomatch h),U7⟩ (λ p h=>nomatch h) (λ p h=>nomatch h)
  (λ M A' E' Q' h=>?_) λ L s2 F2 g2=>?_
 ·rw[ztv]
  refine C4 (h s _ (M4 s) ?_);rw[show K++([]:List (Addr×List D)).map (·.1)=K by simp]
  exact zxe r
 have W:Wx G0 w (FCst.cxw (A.deeper (H3 FCst.fd L FCst.f)) (H3 FCst.fd L FCst.f) s K [] [] 0) h0 [none,some (.str x),some (.bool b),none] FCst.body (λ z z=>False)
  (λ v s'=> ∃r e t tk,FrS G0 (FCst.cxw (A.deeper (H3 FCst.fd L FCst.f)) (H3 FCst.fd L FCst.f) s K [] [] 0) h0 [none,some (.str x),some (.bool b),some (.ptr (yeh b))] r/\New "ValueError" e (.ref t) (some [.str ycr tk]) r s'/\v= .ref e):=by
  refine W3 (Ts.typeIs (G7 3 rfl) (G7 2 rfl) (B8 (B4 1 rfl rfl) D9) Rp.tyStr) (λ z=>?_) λ h=>by cases h
  refine I9 3 (show 3<4 by decide) rfl (Ev.ite (d:= .ptr (yeh b)) (zmj (B4 2 rfl rfl) Tv.bool) (λ h=>by subst h;exact Ev.nv (G7 0 rfl) λ g=>by exact rfl) (λ h=>by subst h;exact Ev.nv (G7 1 rfl) λ g=>by exact rfl)) ?_
  refine W3 (zwu hz hx (B4 3 rfl rfl) (B8 (B4 1 rfl rfl) D9)) (λ z=>?_) λ h=>by cases h
  exact Wx.raiseV hh (G7 4 rfl) λ r s e t tk F n=>⟨r,e,t,tk,F,n,rfl⟩
 refine E7 (W.h s2 F2) (λ f s' h=>h.elim) λ v1 s' h=>?_;obtain⟨r1,e,t,tk,F1,n,rfl⟩:=h;obtain⟨m,hm⟩:=F1.ns;have gr:Go s r1:=F1.go.nil;refine zvm (S:=ybe (H3 FCst.fd L FCst.f::outer)) (zb4 hfr) rfl (FF.cons rfl rfl hm (ff.go gr ok.tb)) (λ a h=>h) (λ a h=>h) n λ s3 T=>?_;refine k e t tk _ r1 s3 gr T λ a ha=>?_;rw[zd8 (L:=L) rfl] at ha;rcases B9.mp ha with rfl|ha
 ·exact .inr F1.ok.lo
 ·exact .inl ha
end
end
section
variable{G:Gt}{w:E3}{c:Cx}{H:Hm}{V:List (Option D)}{s s':A8}
variable{P:Flow->A8->Prop}{E:Value->A8->Prop}{rest:List Stmt}
structure EvP (G:Gt)(w:E3)(c:Cx)(H:Hm)(V:List (Option D))(f:Bool)(e:Expr)(d:D):Prop where
 h: ∀s,FrS G c H V s->1<=s.toks->Gv w c.A (hk c H f) s (M3 e c.env) d
structure WxP (G:Gt)(w:E3)(c:Cx)(H:Hm)(V:List (Option D))(body:List Stmt)(P:Flow->A8->Prop)(E:Value->A8->Prop):Prop where
 h: ∀s,FrS G c H V s->1<=s.toks->D0 (D1 pw w) c.A (X5 body c.env) P E s
theorem Ev.pos {f:Bool}{e:Expr}{d:D}(h:Ev G w c H V f e d):EvP G w c H V f e d:=⟨λ s F z=>h.h s F⟩
theorem Wx.pos {body:List Stmt}(h:Wx G w c H V body P E):WxP G w c H V body P E:=⟨λ s F z=>h.h s F⟩
theorem EvP.r {f:Bool}{e:Expr}{d:D}(x:EvP G w c H V f e d){s:A8}(F:FrS G c H V s)(hp:1<=s.toks){Q E:Value->A8->Prop}
 (k: ∀v s',Go s s'->1<=s'.toks->Rp (hid (hk c H f) s'.heap) d v->Q v s'):D0 (D1 pw w) c.A (M3 e c.env) Q E s:=
 S8 hp ((x.h s F hp).h _ _ λ v s' g r hp'=>k v s' g hp' r)
theorem WxP.seq {H':Hm}{V':List (Option D)}{st:Stmt}(h1:Wx G w c H V [st] (λ f s=>f= .next/\FrS G c H' V' s) E)(h2:WxP G w c H' V' rest P E):WxP G w c H V (st::rest) P E:=by
 refine⟨λ s F hp=>?_⟩;rw[show st::rest=[st]++rest from rfl,zc5]
 refine B0 (S8 hp (E7 (h1.h s F) (λ f s1 h=>λ hp1=>?_) λ z z h z=>h));obtain⟨rfl,F1⟩:=h;exact h2.h s1 F1 hp1
theorem WxP.seqO {H':Addr->Hm}{V':Addr->List (Option D)}{st:Stmt}(h1:Wx G w c H V [st] (λ f s=>f= .next/\ ∃a,OkW c a/\FrS G c (H' a) (V' a) s) E)(h2: ∀a,OkW c a->WxP G w c (H' a) (V' a) rest P E):WxP G w c H V (st::rest) P E:=by
 refine⟨λ s F hp=>?_⟩;rw[show st::rest=[st]++rest from rfl,zc5]
 refine B0 (S8 hp (E7 (h1.h s F) (λ f s1 h=>λ hp1=>?_) λ z z h z=>h));obtain⟨rfl,a,ha,F1⟩:=h;exact(h2 a ha).h s1 F1 hp1
theorem WxP.ite {t:Expr}{a b:List Stmt}{ps:Pos}{p:Bool}(ht:Ts G w c H V t p)(h1:p=true->WxP G w c H V (a++rest) P E)(h2:p=false->WxP G w c H V (b++rest) P E):
 WxP G w c H V (.If t a b ps::rest) P E:=by
 refine⟨λ s F hp=>?_⟩;rw[ztj];refine B0 (K7 (B0 (S8 hp (ht.h s F _ _ λ s1 g1 hp1=>?_))))
 cases p with
 |true=>rw[if_pos rfl];exact(h1 rfl).h s1 (F.onto g1) hp1
 |false=>rw[if_neg N4];exact(h2 rfl).h s1 (F.onto g1) hp1
theorem WxP.nil (h: ∀s,FrS G c H V s->P .next s):WxP G w c H V [] P E:=⟨λ s F z=>C4 (h s F)⟩
theorem WxP.assign {x:Str}{p ps:Pos}{e:Expr}{d:D}(i:Nat)(hi:i<c.ns)(hx:c.nm[i]? =some x)(he:EvP G w c H V true e d)(h:WxP G w c H (V.set i (some d)) rest P E)
 (hs:U6 e (some (.Name x p)) ps.line c.env=pure false:=by rfl):WxP G w c H V (.Assign [.Name x p] e ps::rest) P E:=by
 refine⟨λ s F hp=>?_⟩
 with_reducible refine E8 (V3 (he.r F hp λ v s1 g1 hp1 r1=>?_) hs)
 exact S8 hp1 ((F.onto g1).store i hi hx r1 λ s2 F2 z hp2=>h.h s2 F2 hp2)
theorem WxP.ret {e:Expr}{ps:Pos}{d:D}(he:EvP G w c H V false e d)(h: ∀v s,FrS G c H V s->Rp (hid (hk c H false) s.heap) d v->P (.ret v) s):WxP G w c H V (.Return (some e) ps::rest) P E:=by
 refine⟨λ s F hp=>?_⟩
 with_reducible refine E8 (zgu (he.r F hp λ v s1 g1 z r1=>?_))
 exact h v s1 (F.onto g1) r1
theorem EvP.replace {f:Bool}{o:Expr}{x y z:Str}{k1 k2:Nat}{p1 p2 ap ps:Pos}(ho:EvP G w c H V f o (.str x))(hyz:(y==z)=false)(hb:x.length+(x.length+1)*z.length<=16777216)
 (hbase:zdu o "replace" c.env (M3 o c.env)=M3 o c.env:=by rfl)(hline:(ap.endLine==ps.line)=true:=by rfl)
 (hs:J7 [.Constant (.str y) k1 p1,.Constant (.str z) k2 p2] c.env=[(false,M3 (.Constant (.str y) k1 p1) c.env),(false,M3 (.Constant (.str z) k2 p2) c.env)]:=by rfl):
 EvP G w c H V f (.Call (.Attribute o "replace" ap) [.Constant (.str y) k1 p1,.Constant (.str z) k2 p2] [] ps) (.str (zbx x y z)):=by
 refine⟨λ s F hp=>⟨λ Q E k=>?_⟩⟩;refine Z2 hbase ?_ hline M6 PySem.F.slot_str_replace PySem.F.type_str_replace (ho.r F hp λ v0 s1 g1 hp1 r1=>?_)
 ·rw[hs];rfl
 obtain⟨t0,rfl⟩:=r1.str_inv;refine⟨zbt s1 x t0,(λ a e=>by cases e),?_⟩
 rw[hs];refine O0 rfl (zbo ?_);have one: ∀{x:Str} {k:Nat} {p:Pos} {s1:A8} {Q:Value->A8->Prop} {E:Value->A8->Prop},Q (.str x s1.toks) {s1 with toks:=s1.toks+1}->D0 (D1 pw w) c.A (M3 (.Constant (.str x) k p) c.env) Q E s1:=λ q j j j=>q;refine K6 (one (k:=k1) (p:=p1) (K6 (one (k:=k2) (p:=p2) (S9 ?_))));refine SC.replace (by show s1.toks≠0;omega) (by show s1.toks+1≠0;omega) (by show s1.toks≠s1.toks+1;omega) hyz hb λ t' tk=>?_
 exact k _ _ (g1.trans (R1 s1 tk)) .str'
end
open Internal.WxP renaming assign->zgv,ite->zmz
open Internal.EvP renaming replace->zk7
section
variable{G:Gt}{w:E3}
variable{c:Cx}{H:Hm}{V:List (Option D)}
theorem Ev.fmtS {f:Bool}{e:Expr}{p:Pos}{x:Str}(h:Ev G w c H V f e (.str x))(hx:x.length<=H5):Ev G w c H V f (.FormattedValue e 115 none p) (.str x):=by
 refine .mk' λ s F Q E k=>?_;refine wpAny_FormattedValue_s (h.r F λ v s1 g1 r1=>?_);obtain⟨t,rfl⟩:=r1.str_inv;have ff: ∀t s2,Go s1 s2->D0 (D1 pw w) c.A (formatField (.str x t) zfl) Q E s2:=λ t s2 g2=>wpAny_formatField_str (k _ _ (g1.trans g2) .str') (k _ _ ((g1.trans g2).trans (R1 s2 _)) .str') hx;exact wpAny_habitSame_str (ff t s1 (M4 s1)) (ff _ _ (R1 s1 _)) hx
structure Jn (G:Gt)(w:E3)(c:Cx)(H:Hm)(V:List (Option D))(f:Bool)(es:List Expr)(acc out:Str):Prop where
 h: ∀s,FrS G c H V s-> ∀(Q:Str->A8->Prop) (E:Value->A8->Prop),(∀s',Go s s'->Q out s')->Joins (D1 pw w) c.A E (evalEach es c.env) acc Q s
theorem Jn.nil {f:Bool}{acc:Str}:Jn G w c H V f [] acc acc:=⟨λ s F Q E k=>k s (M4 s)⟩
theorem Jn.cons {f:Bool}{e:Expr}{es:List Expr}{acc x out:Str}(h:Ev G w c H V f e (.str x))(hz:(acc++x).length<=H5)(hr:Jn G w c H V f es (acc++x) out)
 (he:evalEach (e::es) c.env=M3 e c.env::evalEach es c.env:=by rfl):Jn G w c H V f (e::es) acc out:=by
 refine⟨λ s F Q E k=>?_⟩;rw[he];refine h.r F λ v s1 g1 r1=>?_;obtain⟨t,rfl⟩:=r1.str_inv;exact⟨x,t,rfl,hz,hr.h s1 (F.onto g1) Q E λ s2 g2=>k s2 (g1.trans g2)⟩
theorem Ev.joined {f:Bool}{e1 e2:Expr}{es:List Expr}{p:Pos}{out:Str}(h:Jn G w c H V f (e1::e2::es) zfl out)(hz:out.length<=H5):Ev G w c H V f (.JoinedStr (e1::e2::es) p) (.str out):=by
 refine .mk' λ s F Q E k=>?_;refine wpAny_JoinedStr (h.h s F _ _ λ s1 g1=>⟨hz,?_⟩);exact k _ _ (g1.trans (R1 s1 _)) .str'
theorem zfj (x:Str):zfl++x=x:=KPc.empty_app x
structure FnT (n:Bool)(G:Gt)(w:E3)(l:Nat)(f:Addr)(ds:List D)(d:D):Prop where
 h: ∀A K s vs,Rm A l->1<=s.toks->(n=true->A.handled=none)->Ok G A K s->RpL (hid K s.heap) ds vs->Gv w A K s (call (.ref f) vs) d
noncomputable def zu5 (x:Str):Str:=zbx (zbx x ⟨#[92]⟩ ⟨#[92,92]⟩) ⟨#[34]⟩ ⟨#[92,34]⟩
noncomputable def ydy (p x:Str):Str:=if x.length=0 then p else p++⟨#[61,34]⟩++zu5 x++⟨#[34]⟩
noncomputable def FFmt:Fd where
 f:=148
 c:=147
 fd:=yfh
 ps:=["param","value","quote"]
 nm:=["param","value","quote"]
 kl:=[false,false,false]
 gn:=[("tspecials",.ref 130),("len",.builtin "len")]
theorem yf9:FokB G0 FFmt:=zkt (gi:=[16]) (bj:=[1]) rfl (by decide+kernel) (A6 (i:=11) rfl) (A6 (i:=11) rfl) rfl rfl ⟨rfl,rfl,rfl,rfl,rfl,rfl⟩
theorem yal {s:A8}(ho:s.heap.get? 141=some (R4 [.none,.int 1 579] 0))(v1 v2:Value):BindsTo s FFmt.fd ⟨[v1,v2],[]⟩ [("param",v1),("value",v2),("quote",.int 1 579)]:=
 zj7 (T:=141) rfl ho rfl rfl rfl
theorem Fn.plain (Δ:Fd)(hD:FokB G Δ){l:Nat}{ps:List Value}{kw:List (Str×Value)}{A:H2}{K:List Addr}{s:A8}{V:List (Option D)}{d:D}(hl:2<=l)(rm:Rm A l)(ok:Ok G A K s){binds:List (Str×Value)}
 (bind:BindsTo s Δ.fd ⟨ps,kw⟩ binds)(bnd:Bnd Δ V K binds s)
 (body: ∀env,env.scope=Δ.fd.scope->WxP G w (Δ.cxw (A.deeper env) env s K [] [] (l-2)) h0 V Δ.body (λ f s'=>Go s s'/\Rp (hid K s'.heap) d (match f with| .ret v=>v|_=> .none)) (λ z z=>False))
 (hp:1<=s.toks):Gv w A K s (call (.ref Δ.f) ps kw) d:=by
 refine⟨λ Q E k=>?_⟩;refine Fn.enterT (w:=w) Δ hD (l:=l) (b:=s) (ow:=[]) (fx:=[]) (wr:=[]) (dk:=[]) (V:=V) (K:=K) hl rm ok.gnd ok.tb ok.hd ok.gnd ok.tb (zj5 s) ok.kl (λ a h=>nomatch h) (λ p h=>nomatch h) (λ p h=>nomatch h) ⟨(λ a ds h=>nomatch h),U7⟩ (λ p h=>nomatch h) (λ p h=>nomatch h)
  (λ M A' E' Q' h=>bind M A' E' Q' (h s _ (M4 s) ?_)) λ L s2 F2 g2 ht=>?_
 ·rw[show K++([]:List (Addr×List D)).map (·.1)=K by simp]
  exact bnd
 exact E7 ((body _ rfl).h s2 F2 (A7 hp ht)) (λ f s' h=>k _ s' h.1 h.2) λ z z h=>h.elim
theorem eq_str {x y:Str}(h:x.cps=y.cps):x=y:=by cases x;cases y;cases h;rfl
theorem zqh {p x:Str}(hp:p.length<=1000)(hx:x.length<=1000)(h1:(zbx x ⟨#[92]⟩ ⟨#[92,92]⟩).length<=10000)(h2:(zu5 x).length<=100000):FnT false G0 w 2 148 [.str p,.str x] (.str (ydy p x)):=by
 refine⟨λ A K s vs rm hp1 hh ok rv=>?_⟩;obtain⟨v1,v2,rfl,r1,r2⟩:=zkp rv;have h141:s.heap.get? 141=some (R4 [.none,.int 1 579] 0):=(ok.gnd.ob _ (A6 (i:=1) rfl)).1;refine Fn.plain (w:=w) FFmt yf9 (V:=[some (.str p),some (.str x),some (.int 1)]) (by omega) rm ok (yal h141 v1 v2) (zg3 (by show([("param":Str),"value","quote"]:List Str).Nodup;decide+kernel) (.cons r1 (.cons r2 (.cons .int' (.nil wkE))))) (λ env hsc=>?_) hp1
 have hlen:(x.length:Int)<2^62:=by omega
 have hsl:H5=16777216:=by decide
 refine zmz (Ts.bo (Al.and (O5 (B4 1 rfl rfl) zaq (zmp (by simp))) λ j=>Al.and (O5 (V0 (G7 1 rfl) (B8 (B4 1 rfl rfl) D9) (Bf.lenS hlen)) D5 Cm.gt) λ j=>Al.and_nil)) (λ h=>?_) λ h=>?_
 ·have hx0:x.length≠0:=by
   simp at h;omega
  refine zmz (Ts.bo (Al.or (zmj (B4 2 rfl rfl) Tv.int) (q:=false) λ h=>by cases h)) (λ j=>?_) λ h=>by cases h
  have e1:("\\":Str)=⟨#[92]⟩:=by decide+kernel
  have e2:("\\\\":Str)=⟨#[92,92]⟩:=by decide+kernel
  have e3:("\"":Str)=⟨#[34]⟩:=by decide+kernel
  have e4:("\\\"":Str)=⟨#[92,34]⟩:=by decide+kernel
  have e5:("=\"":Str)=⟨#[61,34]⟩:=by decide+kernel
  refine zgv (d:= .str (zu5 x)) 1 (show 1<3 by decide) rfl ?_ ?_
  ·have:=zk7 (G:=G0) (w:=w) (c:=FFmt.cxw (A.deeper env) env s K [] [] (2-2)) (H:=h0) (V:=[some (.str p),some (.str x),some (.int 1)]) (f:=true) (y:= "\"") (z:= "\\\"") (k1:=0) (k2:=0)
    (p1:={line:=143,col:=56,endLine:=143,endCol:=59}) (p2:={line:=143,col:=61,endLine:=143,endCol:=66}) (ps:={line:=143,col:=20,endLine:=143,endCol:=67}) (ap:={line:=143,col:=20,endLine:=143,endCol:=55})
    (zk7 (y:= "\\") (z:= "\\\\") (k1:=0) (k2:=0) (p1:={line:=143,col:=34,endLine:=143,endCol:=38}) (p2:={line:=143,col:=40,endLine:=143,endCol:=46}) (ps:={line:=143,col:=20,endLine:=143,endCol:=47}) (ap:={line:=143,col:=20,endLine:=143,endCol:=33}) (B4 (p:={line:=143,col:=20,endLine:=143,endCol:=25}) 1 rfl rfl).pos (by decide+kernel) (by rw[e2];show x.length+(x.length+1)*2<=_;omega)) (by decide+kernel) (by rw[e1,e2,e4];show _+(_+1)*2<=_;omega)
   rw[e1,e2,e3,e4] at this;exact this
  refine WxP.ret (Ev.joined (Jn.cons (Ev.fmtS (B4 0 rfl rfl) ?_) ?_ (Jn.cons K0 ?_ (Jn.cons (Ev.fmtS (B4 1 rfl rfl) ?_) ?_ (Jn.cons K0 ?_ Jn.nil)))) ?_).pos λ v s' F r=>⟨F.go.nil,?_⟩
  ·omega
  ·rw[zfj];omega
  ·rw[zfj,e5,M2];show _+2<=_;omega
  ·show(zu5 x).length<=_;omega
  ·rw[zfj,e5,M2,M2];show _+2+(zu5 x).length<=_;omega
  ·rw[zfj,e5,e3,M2,M2,M2];show _+2+(zu5 x).length+1<=_;omega
  ·rw[zfj,e5,e3,M2,M2,M2];show _+2+(zu5 x).length+1<=_;omega
  ·rw[zfj,e5,e3] at r
   unfold ydy;rw[if_neg hx0];exact r
 ·have hx0:x.length=0:=by
   simp at h;omega
  refine WxP.ret (B4 0 rfl rfl).pos λ v s' F r=>⟨F.go.nil,?_⟩;unfold ydy;rw[if_pos hx0];exact r
end
noncomputable abbrev itO (d:Addr)(i n ep:Nat)(ok ov:Value):Obj:={cls:= .type "dict_itemiterator",dict:=none,data:= .fields #[.none,.bool false,.ref d,.int i 0,.int n 0,.int ep 0,ok,ov],slots:= #[]}
section
variable{w:E3}
noncomputable abbrev ydu (w:E3)(o:Obj)(ex:List (Str×Value)):Prop:=o.IsDictOf (strKind pw w) ex
variable{G:Gt}{c:Cx}{H:Hm}{V:List (Option D)}{P:Flow->A8->Prop}{E EB:Value->A8->Prop}{rest:List Stmt}
theorem WxP.forItems {xk xv y:Str}{pk pv pt p ap cp ps:Pos}{x1:Nat}{body:List Stmt}{Pd:Addr}{od:Obj}{ex:List (Str×Value)}{ds:List D}(i1 i2 j:Nat)(hh:c.A.handled=none)
 (h1:i1<c.ns)(hx1:c.nm[i1]? =some xk)(h2:i2<c.ns)(hx2:c.nm[i2]? =some xv)(hy:c.nm[j]? =some y)(hv:V[j]? =some (some (.ptr Pd)))
 (hfx:(Pd,od)∈H.fix)(hod:ydu w od ex)(hsys:(Pd==zpy)=false)(hds:ds.length=ex.length)(hrp: ∀(i:Nat) q d,ex[i]? =some q->ds[i]? =some d-> ∀g,Rp g d q.2)
 (hEB: ∀v s,EB v s->LpE w c E v s)
 (ow:Nat->List (Addr×List D))(Vs:Nat->List (Option D))(lv:Nat->Prop)(ho:ow 0=H.own)(hV:Vs 0=V)(hl:lv 0)(hm: ∀k,(ow k).map (·.1)=H.own.map (·.1))
 (turn: ∀i k d,(ex.map (·.1))[i]? =some k->ds[i]? =some d->lv i-> ∀io,WxP G w c ⟨ow i,io::H.fix,H.gen⟩ (((Vs i).set i1 (some (.str k))).set i2 (some d)) body (LpP G c ⟨ow (i+1),io::H.fix,H.gen⟩ (Vs (i+1)) (lv (i+1)) P) EB)
 (h:lv ex.length->WxP G w c (H.owns (ow ex.length)) (Vs ex.length) rest P E)
 (hs: ∀x,J0 (.Call (.Attribute (.Name y p) "items" ap) [] [] cp) c.env x=pure x:=by intro _;rfl)(hline:(ap.endLine==cp.line)=true:=by rfl):
 WxP G w c H V (.For (.Tuple [.Name xk pk,.Name xv pv] x1 pt) (.Call (.Attribute (.Name y p) "items" ap) [] [] cp) body [] ps::rest) P E:=by
 refine⟨λ s F hp=>?_⟩;obtain⟨v,hvar,hr⟩:=F.vars j y _ hy hv;have e:v= .ref Pd:=hr;subst e;have q:=F.ok.dbg y (A6 hy);obtain⟨es,ep,hod1,hod2,hod3,hod4,hod5⟩:=id hod;have dat: ∀{h:P9},h.get? Pd=some od->h.DictAt (strKind pw w) Pd ex ep:=λ{h} e=>⟨od,es,e,hod1,hod2,hod3,hod4,hod5⟩;have hPd:=(F.fix Pd od hfx).1;refine E8 (wpAny_For (wpAny_Call_items (knd:=strKind pw w) hsys (dat hPd).dictOf rfl hline (λ Q' q'=>T7 (hvar.load F.ok.fn q.2 q') q.1) ?_) hs);refine wpAny_pyIter_items (knd:=strKind pw w) (d:=Pd) (kvs:=ex) (ep:=ep) ⟨_,D8 _ rfl,rfl,rfl⟩ ((dat hPd).push _) ?_;have g1:=Z0 s {cls:= .type "dict_items",data:= .fields #[.ref Pd]};have g2:=Z0 {s with heap:=s.heap.push {cls:= .type "dict_items",data:= .fields #[.ref Pd]}} (itO Pd 0 ex.length ep .none .none);generalize hit:(s.heap.push {cls:= .type "dict_items",data:= .fields #[.ref Pd]}).objs.size=it at g2 ⊢;have F2:=(F.onto g1).onto g2;have eit:(((s.heap.push {cls:= .type "dict_items",data:= .fields #[.ref Pd]}).push (itO Pd 0 ex.length ep .none .none))).get? it=some (itO Pd 0 ex.length ep .none .none):=by
  rw[<-hit];exact D8 _ rfl
 have hitz:s.heap.objs.size<it:=by rw[<-hit,G8];exact S5 _
 have hitl:OkW c it:= .inl (A7 F.go.size (K3 hitz));have hnl:it≠c.env.locals:=λ e=>by
  obtain⟨mm,oL,es',ep',hL,_⟩:=F.ns;have:=C6 hL;rw[<-e] at this;exact zj2 this hitz
 have hno:it∉H.own.map (·.1):=λ hm'=>by
  obtain⟨⟨a,d'⟩,hp',rfl⟩:=C5.mp hm';obtain⟨o,vs,e1,_⟩:=F.own a d' hp';exact zj2 (C6 e1) hitz
 have hnf: ∀i a b,NoF (itO Pd i ex.length ep a b)/\(∀v,(itO Pd i ex.length ep a b).data≠ .cell v)/\ ¬Sq (itO Pd i ex.length ep a b):=λ i a b=>⟨.inr ⟨by simp,by simp⟩,(λ v e=>by cases e),λ⟨_,_,e⟩=>by cases e⟩
 have F3:FrS G c ⟨ow 0,(it,itO Pd 0 ex.length ep .none .none)::H.fix,H.gen⟩ (Vs 0) {s with heap:=(s.heap.push {cls:= .type "dict_items",data:= .fields #[.ref Pd]}).push (itO Pd 0 ex.length ep .none .none)}:=by
  rw[ho,hV];exact F2.fixadd ⟨eit,F2.tb.off eit (hnf _ _ _).1,(hnf _ _ _).2.1,hnl,hno⟩
 have moved: ∀{i i':Nat} {u1 u2:Value} {s1:A8} {h':P9} {Vx:List (Option D)},FrS G c ⟨ow i,(it,itO Pd i' ex.length ep u1 u2)::H.fix,H.gen⟩ Vx s1-> ∀{o':Obj},(∀b o,b≠it->s1.heap.get? b=some o->h'.get? b=some o)->s1.heap.objs.size<=h'.objs.size->h'.get? it=some o'->NoF o'->(∀v,o'.data≠ .cell v)->
  FrS G c ⟨ow i,(it,o')::H.fix,H.gen⟩ Vx {s1 with heap:=h'}:=by
  intro i i' u1 u2 s1 h' Vx F1 o' hk hz ho' hnf' hnc';have hno':it∉(ow i).map (·.1):=by rw[hm i];exact hno
  refine F1.step (W:=[it]) (gw:=[]) (lim:=s1.heap.objs.size) ⟨F1.go.size,(λ a e=>by rw[hh] at e;cases e),(λ b o hb z e=>hk b o (λ q=>hb (by rw[q];exact A9)) e),(λ a ha=>by rw[B2] at ha;subst ha;exact hitl),(λ a ha o e=>?_),hz,(λ z z z e=>e),(λ z z e=> .inl e),rfl,(λ i hi=>nomatch hi),(λ a z e=>by rw[hh] at e;cases e)⟩ rfl (λ a d' h=> .inl ⟨λ q=>?_,h⟩) (λ a o h=>?_) λ p hp=> .inl ⟨λ h=>(nomatch h),hp⟩
  ·rw[B2] at ha;subst ha
   have:=(F1.fix a _ A9).1;rw[this] at e;cases e;exact⟨(hnf _ _ _).1,(hnf _ _ _).2.1,hnl,λ h=>absurd h (hnf _ _ _).2.2⟩
  ·rw[B2] at q;subst q
   exact hno' (I4 (f:=(·.1)) h)
  ·rcases B9.mp h with q|q
   ·cases q
    exact .inr ⟨ho',(F1.tb.butW (W:=[it]) hz (λ b o hb hn e=>hk b o (λ q=>hb (by rw[q];exact A9)) e) (λ b hb o e=>by
     rw[B2] at hb;subst hb;have:=(F1.fix b _ A9).1;rw[this] at e;cases e;exact(hnf _ _ _).1)).off ho' hnf',hnc',hnl,hno'⟩
   ·by_cases q':a=it
    ·subst q'
     have e1:=(F1.fix a o (B1 _ q)).1;have e2:=(F1.fix a _ A9).1;have e3:=C6 (F.fix a o q).1;exact absurd e3 (zj2 hitz)
    ·exact .inl ⟨λ h=>q' (B2.mp h),B1 _ q,.inl (C6 (F1.fix a o (B1 _ q)).1)⟩
 refine zng (λ n s=>1<=s.toks/\ ∃i a b,n+i=ex.length/\lv i/\FrS G c ⟨ow i,(it,itO Pd i ex.length ep a b)::H.fix,H.gen⟩ (Vs i) s) (λ n s3 hI=>?_) ex.length ⟨hp,0,.none,.none,rfl,hl,F3⟩;obtain⟨hp3,i,a,b,hn,hlv,F4⟩:=hI;have git:=(F4.fix it _ A9).1;have gPd:=(F4.fix Pd od (B1 _ hfx)).1
 cases hd:ex[i]? with
 |none=>
  have hie:i=ex.length:=by have:=W4.mp hd;omega
  subst hie;refine S8 hp3 (Q4 (wpAny_pyNext_items_end (knd:=strKind pw w) hh git (dat gPd) hd λ h' hx hz hp4=>?_));refine C4 ?_;have hno':it∉(ow ex.length).map (·.1):=by rw[hm];exact hno
  refine(h hlv).h _ (F4.step (H':=H.owns (ow ex.length)) (W:=[it]) (gw:=[]) (lim:=s3.heap.objs.size) ⟨F4.go.size,(λ a e=>by rw[hh] at e;cases e),(λ b o hb z e=>hx b o (λ q=>hb (by rw[q];exact A9)) e),(λ a ha=>by rw[B2] at ha;rw[ha];exact hitl),(λ a ha o e=>?_),hz,(λ z z z e=>e),(λ z z e=> .inl e),rfl,(λ i hi=>nomatch hi),(λ a z e=>by rw[hh] at e;cases e)⟩ rfl (λ a d' h=> .inl ⟨λ q=>?_,h⟩) (λ a o h=> .inl ⟨λ q=>?_,B1 _ h,.inl (C6 (F4.fix a o (B1 _ h)).1)⟩) λ p hp=> .inl ⟨λ h=>(nomatch h),hp⟩) hp4
  ·rw[B2] at ha
   rw[ha,git] at e;cases e;rw[ha];exact⟨(hnf _ _ _).1,(hnf _ _ _).2.1,hnl,λ h=>absurd h (hnf _ _ _).2.2⟩
  ·rw[B2] at q
   exact hno' (q▸I4 (f:=(·.1)) h)
  ·rw[B2] at q
   have e3:=C6 (F.fix a o h).1;rw[q] at e3;exact zj2 e3 hitz
 |some kv=>
  obtain⟨k,v⟩:=kv;refine S8 hp3 (wpAny_pyNext_items_item (knd:=strKind pw w) git (dat gPd) hd λ key h1' hkey hout htup hsz hk1 hp4=>?_);refine S8 hp4 (wpAny_letOwnedTupleGo_items hout λ h2' hit2 hsb hp5=>?_);have hlt:=C6 git;have keep: ∀b o,b≠it->s3.heap.get? b=some o->h2'.get? b=some o:=λ b o hb e=>(hsb.2 b hb).trans (hk1 b o hb e);have F5:FrS G c ⟨ow i,(it,itO Pd (i+1) ex.length ep key v)::H.fix,H.gen⟩ (Vs i) {s3 with heap:=h2'}:=
   moved F4 keep (by show _<=h2'.objs.size;rw[hsb.1];show _<=h1'.objs.size;rw[hsz];exact L6 _) hit2 (hnf _ _ _).1 (hnf _ _ _).2.1
  have htt:h2'.get? s3.heap.objs.size=some (R4 [key,v] 0):=(hsb.2 _ (za1 hlt)).trans htup;have hi:i<ex.length:=(C7.mp hd).1;obtain⟨dd,hdd⟩: ∃dd,ds[i]? =some dd:=⟨_,B3 (by omega)⟩
  obtain⟨tk,rfl⟩:=Value.isStrOf_shape hkey;have hK: ∀a∈hk c ⟨ow i,(it,itO Pd (i+1) ex.length ep (.str k tk) v)::H.fix,H.gen⟩ true,a<s3.heap.objs.size:=λ a ha=>F4.hlt a ha;have hrt:Rp (hid (hk c ⟨ow i,(it,itO Pd (i+1) ex.length ep (.str k tk) v)::H.fix,H.gen⟩ true) h2') (.tup [.str k,dd]) (.ref s3.heap.objs.size):=
   Rp.tup' (n:=0) (vs:=[.str k tk,v]) (by rw[hid_some];exact⟨λ hm'=>H8 _ (hK _ hm'),htt⟩) (U4 .str' (U4 (hrp i _ dd hd hdd _) Z8))
  refine S8 hp5 ((zgp (nb:=true) (λ z=>hh) i1 i2 h1 hx1 h2 hx2).h _ _ F5 hrt _ _ λ s6 F6 z hp6=>?_);have tn:=turn i k dd (by rw[B7,hd];rfl) hdd hlv (it,itO Pd (i+1) ex.length ep (.str k tk) v)
  refine S8 hp6 (E7 (tn.h s6 F6 hp6) (λ f s7 h7 hp7=>?_) λ v s7 e z=>hEB v s7 e)
  cases f with
  |next=>exact⟨n-1,by omega,hp7,i+1,_,_,by omega,h7.1,h7.2⟩
  |cont=>exact⟨n-1,by omega,hp7,i+1,_,_,by omega,h7.1,h7.2⟩
  |brk=>exact h7.elim
  |ret v=>exact h7
end
noncomputable def ygy (L:Addr):Str->Option Value:=λ y=>if y= "_headers" then some (.ref L) else none
structure Tbl (I Dd L:Addr)(ox od:Obj):Prop where
 inst: ∀h:P9,h.get? I=some ox->h.get? Dd=some od->h.Inst I 269 (ygy L)
 x1: ∀v,ox.data≠ .cell v
 x2: ¬Sq ox
 d1: ∀v,od.data≠ .cell v
 d2: ¬Sq od
section
variable{w:E3}{A:H2}{E:Value->A8->Prop}{s:A8}{I Dd L:Addr}{ox od:Obj}
theorem zlz (g:Gnd0 G0 s.heap): ∃mN,ClsAt s.heap 269 268 mN/\mN "__init__"=some (.ref 163)/\mN "_convert_string_type"=some (.ref 170)/\mN "get_all"=some (.ref 208)/\mN "get"=some (.ref 216)/\mN "items"=some (.ref 233)/\mN "add_header"=some (.ref 266)/\
 mN "__setattr__"=none/\mN "__getattribute__"=none/\mN "__getattr__"=none/\mN "_headers"=none/\mN "__new__"=none:=by
 obtain⟨mN,h1,h2,h3⟩:=g.cl _ (A6 (i:=0) rfl);exact⟨mN,h1,h2 _ (A6 (i:=0) rfl),h2 _ (A6 (i:=1) rfl),h2 _ (A6 (i:=2) rfl),h2 _ (A6 (i:=3) rfl),h2 _ (A6 (i:=4) rfl),h2 _ (A6 (i:=5) rfl),
  h3 _ (A6 (i:=0) rfl),h3 _ (A6 (i:=1) rfl),h3 _ (A6 (i:=2) rfl),h3 _ (A6 (i:=3) rfl),h3 _ (A6 (i:=4) rfl)⟩
theorem zjf:Z3 (.type "object") "_headers"=pure none:=by rw[R0,L3];kernel_rfl
theorem znv:Z3 (.type "object") "_convert_string_type"=pure none:=by rw[R0,L3];kernel_rfl
theorem zp9:Z3 (.type "object") "get_all"=pure none:=by rw[R0,L3];kernel_rfl
theorem zv3:Z3 (.type "object") "get"=pure none:=by rw[R0,L3];kernel_rfl
theorem zr2:Z3 (.type "object") "items"=pure none:=by rw[R0,L3];kernel_rfl
theorem zv4:Z3 (.type "object") "add_header"=pure none:=by rw[R0,L3];kernel_rfl
theorem zys (g:Gnd0 G0 s.heap)(T:Tbl I Dd L ox od)(h1:s.heap.get? I=some ox)(h2:s.heap.get? Dd=some od){expr:Bool}{Q:Value->A8->Prop}(k:Q (.ref L) {s with toks:=s.toks+1}):
 D0 (D1 pw w) A (getAttr (.ref I) "_headers" expr) Q E s:=by
 obtain⟨mN,hc,_,_,_,_,_,_,_,q1,_,q2,_⟩:=zlz g;obtain⟨hh,gg,d,t,os⟩:=s;obtain⟨nm,q,bs,sn,sub,col,dd,k0,k1,k2,k3,k5,hC⟩:=hc.obj;exact load_attr hC hc.ns q1 q2 zjf (T.inst _ h1 h2) rfl rfl k
theorem zlh (g:Gnd0 G0 s.heap)(T:Tbl I Dd L ox od)(h1:s.heap.get? I=some ox)(h2:s.heap.get? Dd=some od){name:Str}{f:Addr}{fd:K9}(hf: ∀mN:Str->Option Value,(mN "_convert_string_type"=some (.ref 170)/\mN "get_all"=some (.ref 208)/\mN "get"=some (.ref 216)/\mN "items"=some (.ref 233)/\mN "add_header"=some (.ref 266))->mN name=some (.ref f))
 (hfd:(f,fd)∈G0.ftab)(hB:Z3 (.type "object") name=pure none)(hsh:ygy L name=none){pl:Sem Bool}{Q:Value×List Value->A8->Prop}(k:Q (.ref f,[.ref I]) s):
 D0 (D1 pw w) A (getMethod (.ref I) name pl) Q E s:=by
 obtain⟨mN,hc,_,m1,m2,m3,m4,m5,_,q1,q3,_,_⟩:=zlz g;have hfo:=g.fn _ hfd;obtain⟨hh,gg,d,t,os⟩:=s;obtain⟨nm,q,bs,sn,sub,col,dd,k0,k1,k2,k3,k5,hC⟩:=hc.obj;exact method_of hC hc.ns q1 q3 (hf mN ⟨m1,m2,m3,m4,m5⟩) hfo rfl hB (T.inst _ h1 h2) hsh k
theorem zuu {env:Env}{o:Expr}{name:Str}{apos pos:Pos}{args:List Expr}{kws:List yav}{Q:Value->A8->Prop}(hbase:zdu o name env (M3 o env)=M3 o env)
 (hfew:((zb6 pos (J7 args env)).all (λ x=> !x.1)&&(zf5 pos (zbk kws env)).all (λ x=>x.1.isSome)&&decide (args.length+kws.length+(if(zf5 pos (zbk kws env)).isEmpty then 0 else 1)<30))=true)
 (hline:(apos.endLine==pos.line)=true)
 (h:D0 (D1 pw w) A (M3 o env) (λ ov s₁=>D0 (D1 pw w) A (getMethod ov name (do return (<-importBound o env).getD true)) (λ fx s₂=>D0 (D1 pw w) A (callWith pos fx.1 fx.2 (zb6 pos (J7 args env)) (zf5 pos (zbk kws env))) Q E s₂) E s₁) E s):
 D0 (D1 pw w) A (M3 (.Call (.Attribute o name apos) args kws pos) env) Q E s:=by
 rw[arm_eval_Call,hbase];refine B0 (E7 h (λ ov s₁ h₁=>B0 (K7 ?_)) λ z z e=>e);have hform:methodCallForm (args.length+kws.length) (zb6 pos (J7 args env)) (zf5 pos (zbk kws env))=true:=hfew;have hpos:methodCallPos true o env apos pos=pure pos:=by unfold methodCallPos;simp[hline]
 unfold methodCall;rw[hform];exact B0 (J8 (E7 h₁ (λ fx s₂ h₂=>B0 (zbe hpos h₂)) λ z z e=>e))
end
section
variable{w:E3}{c:Cx}{H:Hm}{V:List (Option D)}{P:Flow->A8->Prop}{E:Value->A8->Prop}{rest:List Stmt}{I Dd L:Addr}{ox od:Obj}
theorem Ev.conv {f:Bool}{sf:Str}{p ap ps kp kq:Pos}{k:Nat}{e:Expr}{x:Str}{b:Bool}(i:Nat)(hx:c.nm[i]? =some sf)(hv:V[i]? =some (some (.ptr I)))(T:Tbl I Dd L ox od)(h1:(I,ox)∈H.fix)(h2:(Dd,od)∈H.fix)
 (ha:As G0 w c H V f [e] [.str x])(hz:x.length<=100000)(hc:zc7 b x)(hl:2<=c.lv+1)
 (hs:J7 [e] c.env=[(false,M3 e c.env)]:=by rfl)(hline:(ap.endLine==ps.line)=true:=by rfl):
 Ev G0 w c H V f (.Call (.Attribute (.Name sf p) "_convert_string_type" ap) [e] [⟨some "name",.Constant (.bool b) k kp,kq⟩] ps) (.str x):=by
 refine .mk' λ s F Q E kk=>?_;obtain⟨v0,q1,q2⟩:=F.vars i sf _ hx hv;have q:=F.ok.dbg sf (A6 hx);have e0:v0= .ref I:=q2;subst e0;refine zuu rfl (by rw[hs];rfl) hline (T7 (q1.load F.ok.fn q.2 ?_) q.1)
 refine zlh F.gnd T (F.fix I ox h1).1 (F.fix Dd od h2).1 (f:=170) (λ mN h=>h.1) (A6 (i:=13) rfl) znv rfl ?_;refine zme (o:={cls:= .type "function",data:= .func zun}) (fd:=zun) ?_;rw[hs];refine evalArgs_kw rfl ?_;show D0 _ _ (zcn (zb6 ps [(false,M3 e c.env)])) _ _ _;rw[<-hs];refine ha.h ps s F _ _ λ vs s1 g1 r1=>?_;obtain⟨v1,rfl,rv⟩:=zc0 r1;refine kwAll_cons (E7 (Q:=λ v s'=>v= .bool b/\s'=s1) (E:=E) (λ z z z=>⟨rfl,rfl⟩) (λ v s' h=>?_) λ z z h=>h);obtain⟨rfl,rfl⟩:=h;refine kwAll_nil ⟨⟨(F.onto g1).gnd.fn _ (A6 (i:=13) rfl),rfl⟩,?_⟩;exact(ydm ((F.onto g1).ok.rm.le hl) ((F.onto g1).okS f) rv hz hc).h _ _ λ v s2 g2 r2=>kk v s2 (g1.trans g2) r2
end
noncomputable def FAdd:Fd where
 f:=266
 c:=265
 fd:=zz5
 ps:=["self","_name","_value"]
 nm:=["self","_name","_value","_params","parts","k","v"]
 kl:=[false,false,false,false,false,false,false]
 gn:=[("_formatparam",.ref 148)]
theorem yge:FokB G0 FAdd:=zkt (gi:=[19]) (bj:=[]) rfl (by decide+kernel) (A6 (i:=17) rfl) (A6 (i:=17) rfl) rfl rfl ⟨rfl,rfl,rfl,rfl,rfl,rfl⟩
noncomputable abbrev zdi:Obj:={cls:= .type "dict",data:= .dict #[]}
section
variable{w:E3}{A:H2}{E:Value->A8->Prop}{s:A8}
theorem zv2 {d:Addr}{es:List DictEntry}{n:Nat}{k:Str}{v:Value}{Q:Unit->A8->Prop}(hd:s.heap.get? d=some (dictOf es n))(hs: ∀e∈es,e.key.isStr k=false)(hr: ∀e∈es,e.refKey=false)
 (h: ∀h',P2 d s.heap h'->h'.get? d=some (dictOf (es++[⟨zjy w.params k,.str k s.toks,v⟩]) (n+1))->Q () {s with heap:=h',toks:=s.toks+1}):
 D0 (D1 pw w) A (nsSet d k v) Q E s:=by
 have e1:es.any (·.key.isStr k)=false:=zm2.mpr λ e he=>by rw[hs e he];decide
 have e2:es.any (·.refKey)=false:=zm2.mpr λ e he=>by rw[hr e he];decide
 have e:Obj.putName k (zjy w.params k) (.str k s.toks) v (dictOf es n)=dictOf (es++[⟨zjy w.params k,.str k s.toks,v⟩]) (n+1):=by
  rw[putName_dict,putL_new hs];show dictOf _ (if es.any (·.key.isStr k) then n else n+1)=_;rw[e1];rfl
 have c:aRefKeyMayBeTheName k es.toArray=false:=by
  rw[aRefKeyMayBeTheName_at,<-yb2,<-yb2];show(!es.any (·.key.isStr k)&&es.any (·.refKey))=false;rw[e2,Bool.and_false]
 unfold nsSet;refine B0 (B0 (wpAny_askSetting (C4 (B0 (wpAny_mkText (B0 (wpAny_loadPart hd ?_)))))))
 dsimp only
 rw[c];exact wpAny_updatePart hd (h _ (R5 ..) (e▸Y9 _ hd (by show(Obj.putName k (zjy w.params k) (.str k s.toks) v (dictOf es n)).isFreed=false;rw[e];rfl)))
theorem zr9 {s1:A8}{d:Addr}{h':P9}(hz:s.heap.objs.size<=d)(hs1:s1.heap.objs.size=h'.objs.size)(keep: ∀b o,b≠d->s1.heap.get? b=some o->h'.get? b=some o)(g: ∀b o,s.heap.get? b=some o->s1.heap.get? b=some o): ∀b o,s.heap.get? b=some o->h'.get? b=some o:=
 λ b o e=>keep b o (λ q=>absurd (C6 e) (D7.mpr (q▸hz))) (g b o e)
noncomputable abbrev zzp (w:E3)(s s':A8)(d:Addr)(o:Obj)(ex:List (Str×Value)):Prop:=Go s s'/\s.heap.objs.size<=d/\s'.heap.get? d=some o/\ydu w o ex
theorem zxh {v0 v1 v2:Value}{Q:List (Str×Value)->A8->Prop}(h: ∀d o s',zzp w s s' d o []->Q [("self",v0),("_name",v1),("_value",v2),("_params",.ref d)] s'):
 D0 (D1 pw w) A (zay FAdd.fd ⟨[v0,v1,v2],[]⟩) Q E s:=by
 rw[show zay FAdd.fd ⟨[v0,v1,v2],[]⟩=(alloc zdi >>= λ d=>pure [(("self":Str),v0),("_name",v1),("_value",v2),("_params",.ref d)]) from rfl]
 refine B0 (zt7 (C4 (h s.heap.objs.size _ _ ⟨Z0 s _,D2 _,D8 _ rfl,?_⟩)));exact kp_isDict (w:=w) (ex:=[]) 0 0 U7
theorem zxg {v0 v1 v2 u:Value}{Q:List (Str×Value)->A8->Prop}(h: ∀d o s',zzp w s s' d o [("k",u)]->Q [("self",v0),("_name",v1),("_value",v2),("_params",.ref d)] s'):
 D0 (D1 pw w) A (zay FAdd.fd ⟨[v0,v1,v2],[("k",u)]⟩) Q E s:=by
 rw[show zay FAdd.fd ⟨[v0,v1,v2],[("k",u)]⟩=(alloc zdi >>= λ d=>(zzw [(("k":Str),u)] zew (λ x z=>(nsSet d x.1 x.2 >>= λ z=>pure (zaf zew))) >>= λ z=>pure [(("self":Str),v0),("_name",v1),("_value",v2),("_params",.ref d)])) from rfl]
 refine B0 (zt7 (B0 ?_));rw[zbv];refine B0 (B0 (zv2 (es:=[]) (n:=0) (D8 _ rfl) (λ e h=>nomatch h) (λ e h=>nomatch h) λ h' hs hg=>C4 ?_))
 show D0 _ _ (zzw ([]:List (Str×Value)) _ _) _ _ _;rw[zrl];refine C4 (C4 (h s.heap.objs.size _ _ ⟨?_,D2 _,hg,?_⟩))
 ·exact Go.of (zr9 (s1:={s with heap:=s.heap.push zdi}) (D2 _) hs.1.symm (λ b o hb e=>(hs.2 b hb).trans e) λ b o e=>C3 _ e) (by show _<=h'.objs.size;rw[hs.1];show _<=(s.heap.push _).objs.size;rw[G8];exact L6 _) rfl rfl
 ·exact kp_isDict (w:=w) (ex:=[("k",u)]) s.toks 1 (by simp)
theorem zxf {v0 v1 v2 u u':Value}{Q:List (Str×Value)->A8->Prop}(h: ∀d o s',zzp w s s' d o [("k",u),("j_i",u')]->Q [("self",v0),("_name",v1),("_value",v2),("_params",.ref d)] s'):
 D0 (D1 pw w) A (zay FAdd.fd ⟨[v0,v1,v2],[("k",u),("j_i",u')]⟩) Q E s:=by
 rw[show zay FAdd.fd ⟨[v0,v1,v2],[("k",u),("j_i",u')]⟩=(alloc zdi >>= λ d=>(zzw [(("k":Str),u),("j_i",u')] zew (λ x z=>(nsSet d x.1 x.2 >>= λ z=>pure (zaf zew))) >>= λ z=>pure [(("self":Str),v0),("_name",v1),("_value",v2),("_params",.ref d)])) from rfl]
 refine B0 (zt7 (B0 ?_));rw[zbv];refine B0 (B0 (zv2 (es:=[]) (n:=0) (D8 _ rfl) (λ e h=>nomatch h) (λ e h=>nomatch h) λ h1 hs1 hg1=>C4 ?_))
 show D0 _ _ (zzw [(("j_i":Str),u')] _ _) _ _ _;rw[zbv];refine B0 (B0 (zv2 (s:={s with heap:=h1,toks:=s.toks+1}) hg1 (λ e he=>?_) (λ e he=>?_) λ h' hs hg=>C4 ?_))
 rotate_left
 rotate_left
 show D0 _ _ (zzw ([]:List (Str×Value)) _ _) _ _ _;rw[zrl];refine C4 (C4 (h s.heap.objs.size _ _ ⟨?_,D2 _,hg,?_⟩))
 rotate_left
 rotate_left
 ·rw[I2,B2] at he
  rw[he];show(("k":Str)== "j_i")=false;decide+kernel
 ·rw[I2,B2] at he
  rw[he];rfl
 ·have hz1:h1.objs.size=s.heap.objs.size+1:=by rw[hs1.1];show(s.heap.push _).objs.size=_;rw[G8]
  exact Go.of (zr9 (s1:={s with heap:=h1}) (D2 _) hs.1.symm (λ b o hb e=>(hs.2 b hb).trans e) (zr9 (s1:={s with heap:=s.heap.push zdi}) (D2 _) hs1.1.symm (λ b o hb e=>(hs1.2 b hb).trans e) λ b o e=>C3 _ e)) (by show _<=h'.objs.size;rw[hs.1];show _<=h1.objs.size;rw[hz1];exact L6 _) rfl rfl
 ·exact kp_isDict (w:=w) (ex:=[("k",u),("j_i",u')]) s.toks 2 (by show([("k":Str),"j_i"]:List Str).Nodup;decide+kernel)
end
section
variable{w:E3}{c:Cx}{H:Hm}{V:List (Option D)}{P:Flow->A8->Prop}{E:Value->A8->Prop}{rest:List Stmt}{I Dd L:Addr}{ox od:Obj}
theorem WxP.push {x:Str}{p ap ps ps':Pos}{e:Expr}{a:Addr}{ds:List D}{d:D}(i j:Nat)(hx:c.nm[i]? =some x)(hv:V[i]? =some (some (.ptr a)))(hj:H.own[j]? =some (a,ds))(ha:OkW c a)
 (he:EvP G0 w c H V true e d)(hz:ds.length<H5)(h:WxP G0 w c (H.owns (H.own.set j (a,ds++[d]))) V rest P E)
 (hs:J7 [e] c.env=[(false,M3 e c.env)]:=by rfl)(hline:(ap.endLine==ps.line)=true:=by rfl):WxP G0 w c H V (.Expr (.Call (.Attribute (.Name x p) "append" ap) [e] [] ps) ps'::rest) P E:=by
 refine⟨λ s F hp=>?_⟩;obtain⟨v0,h1,h2⟩:=F.vars i x _ hx hv;have q:=F.ok.dbg x (A6 hx);obtain rfl:=Rp.p0 h2;obtain⟨o,vs,h3,⟨n,rfl⟩,h4⟩:=F.own a ds (A6 hj);refine E8 (zgc (Z2 rfl ?_ hline zcj M5 N5 (T7 (h1.load F.ok.fn q.2 ⟨⟨_,h3,rfl⟩,?_,?_⟩) q.1)) (by unfold zc4;rw[F.ok.fn];rfl) rfl)
 ·rw[hs];rfl
 ·intro b e;cases e;exact⟨_,h3,rfl⟩
 ·rw[hs]
  refine O0 rfl (zbo (K6 (he.r F hp λ v s1 g1 hp1 r1=>S9 ?_)));have F1:=F.onto g1;refine S8 hp1 ((zdc (G:=G0) (w:=w) hz).h c.A _ s1 a vs n [v] (F1.okS true) (g1.keepN F.tb (.seq ⟨_,_,rfl⟩) h3) (h4.go g1 F.tb) (U4 r1 Z8) _ _ λ h' tk vs' n' hs e r hp2=>?_);exact h.h _ (F1.ownset j hj ha hs e r) hp2
theorem zoh {sf:Str}{p ap:Pos}{s:A8}(F:FrS G0 c H V s)(i:Nat)(hx:c.nm[i]? =some sf)(hv:V[i]? =some (some (.ptr I)))(T:Tbl I Dd L ox od)(h1:(I,ox)∈H.fix)(h2:(Dd,od)∈H.fix){Q E:Value->A8->Prop}(k: ∀s',Go s s'->Q (.ref L) s')
 (ht: ∀o r,zmv (.Name sf p) o r=pure ():=by intro _ _;rfl):
 D0 (D1 pw w) c.A (M3 (.Attribute (.Name sf p) "_headers" ap) c.env) Q E s:=by
 obtain⟨v0,q1,q2⟩:=F.vars i sf _ hx hv;have q:=F.ok.dbg sf (A6 hx);have e0:v0= .ref I:=q2;subst e0;rw[arm_eval_Attribute];refine B0 ?_;show D0 _ _ (M3 (.Name sf p) c.env) _ _ _;refine T7 (q1.load F.ok.fn q.2 ?_) q.1;refine B0 (K7 (B0 (J8 (zys F.gnd T (F.fix I ox h1).1 (F.fix Dd od h2).1 ?_))));rw[ht];exact B0 (C4 (C4 (k _ (R1 s _))))
theorem Wx.pushH {sf:Str}{p hp ap ps ps':Pos}{e:Expr}{ds:List D}{d:D}(i j:Nat)(hx:c.nm[i]? =some sf)(hv:V[i]? =some (some (.ptr I)))(T:Tbl I Dd L ox od)(h1:(I,ox)∈H.fix)(h2:(Dd,od)∈H.fix)(hj:H.own[j]? =some (L,ds))(ha:OkW c L)
 (he:As G0 w c H V true [e] [d])(hz:ds.length<H5)(h:Wx G0 w c (H.owns (H.own.set j (L,ds++[d]))) V rest P E)
 (hs:J7 [e] c.env=[(false,M3 e c.env)]:=by rfl)(hline:(ap.endLine==ps.line)=true:=by rfl):Wx G0 w c H V (.Expr (.Call (.Attribute (.Attribute (.Name sf p) "_headers" hp) "append" ap) [e] [] ps) ps'::rest) P E:=by
 refine⟨λ s F=>?_⟩;refine E8 (zgc (Z2 rfl ?_ hline zcj M5 N5 (zoh F i hx hv T h1 h2 λ s0 g0=>?_)) (by unfold zc4;rw[F.ok.fn];rfl) rfl)
 ·rw[hs];rfl
 have F0:=F.onto g0;obtain⟨o,vs,h3,⟨n,rfl⟩,h4⟩:=F0.own L ds (A6 hj);refine⟨⟨_,h3,rfl⟩,(λ b e=>by cases e;exact⟨_,h3,rfl⟩),?_⟩
 refine O0 (he.ns _) (N2 (he.ns _) (he.h _ s0 F0 _ _ λ us s1 g1 r1=>?_));have F1:=F0.onto g1;refine(zdc (G:=G0) (w:=w) hz).h c.A _ s1 L vs n us (F1.okS true) (g1.keepN F0.tb (.seq ⟨_,_,rfl⟩) h3) (h4.go g1 F0.tb) r1 _ _ λ h' tk vs' n' hs e r=>?_;exact h.h _ (F1.ownset j hj ha hs e r)
theorem EvP.call2 {b n:Bool}{e1 e2:Expr}{ps p:Pos}{x:Str}{f l:Nat}{d1 d2 d:D}{fd:K9}(hf:Nv G0 w c (.Name x p) (.ref f))(h1:EvP G0 w c H V b e1 d1)(h2:Ev G0 w c H V b e2 d2)(hn:FnT n G0 w l f [d1,d2] d)
 (hfd:(f,fd)∈G0.ftab)(hl:l<=c.lv+1)(hh:n=true->c.A.handled=none)(hs:J7 [e1,e2] c.env=[(false,M3 e1 c.env),(false,M3 e2 c.env)]:=by rfl):EvP G0 w c H V b (.Call (.Name x p) [e1,e2] [] ps) d:=by
 refine⟨λ s F hp=>⟨λ Q E k=>?_⟩⟩;refine L0 (hf.h H V s F _ _ ?_);refine R3 (o:={cls:= .type "function",data:= .func fd}) (fd:=fd) ?_;rw[hs];refine zbo (K6 (h1.r F hp λ v1 s1 g1 hp1 r1=>K6 ?_));refine h2.pos.r (F.onto g1) hp1 λ v2 s2 g2 hp2 r2=>S9 ⟨⟨((F.onto g1).onto g2).gnd.fn _ hfd,rfl⟩,?_⟩;rw[I2];exact(hn.h c.A _ s2 [v1,v2] ((F.onto g1).ok.rm.le hl) hp2 hh (((F.onto g1).onto g2).okS b) (U4 (r1.go g2 (F.onto g1).tb) (U4 r2 Z8))).h _ _ λ v s3 g3 r3=>k v s3 ((g1.trans g2).trans g3) r3
end
noncomputable def zlc:Option Str->D
 |none=> .none
 |some x=> .str x
noncomputable def ybo (k:Str):Str:=zbx k "_" "-"
noncomputable def zeu (p:Str×Option Str):Str:=match p.2 with|none=>ybo p.1|some x=>ydy (ybo p.1) x
noncomputable def zl6 (val:Option Str)(ex:List (Str×Option Str)):List Str:=val.toList++ex.map zeu
noncomputable def ydw (name:Str)(val:Option Str)(ex:List (Str×Option Str)):D:= .tup [.str name,.str (L9 "; " (zl6 val ex))]
structure AddOk (name:Str)(val:Option Str)(ex:List (Str×Option Str)):Prop where
 n:name.length<=1000
 v: ∀x,val=some x->zc7 false x/\x.length<=1000
 e: ∀p∈ex,zc7 true p.1/\p.1.length<=100/\(ybo p.1).length<=1000/\ ∀x,p.2=some x->zc7 false x/\x.length<=1000/\(zbx x ⟨#[92]⟩ ⟨#[92,92]⟩).length<=10000/\(zu5 x).length<=100000
 l:ex.length<=10
 j:R2 ((zl6 val ex).toArray.foldl (λ a p=>a+p.length+("; ":Str).length) 0)=false/\(L9 "; " (zl6 val ex)).length<=H5
section
variable{w:E3}{I Dd L:Addr}{ox od:Obj}
theorem ygt {v:Option Str}:(zlc v≠ .none)↔v≠none:=by cases v<;>simp[zlc]
noncomputable abbrev vA (I Pd P:Addr)(name:Str)(val:Option Str):List (Option D):=[some (.ptr I),some (.str name),some (zlc val),some (.ptr Pd),some (.ptr P),none,none]
theorem Ows.tail {K:List Addr}{p q:Addr×List D}{s:A8}(x:Ows K [p,q] s):Ows K [q] s:=by
 refine⟨λ a ds h=>?_,(by simp)⟩
 obtain⟨h1,vs,n,h2,h3⟩:=x.own a ds (B1 _ h);exact⟨h1,vs,n,h2,h3.sub λ b hb=>(G1.mp hb).elim (D3 _) λ hb=>D4 _ (B1 _ hb)⟩
theorem yan {A:H2}{env:Env}{b:A8}{K:List Addr}{Pd:Addr}{po:Obj}{kws:List (Str×Value)}{name:Str}{val:Option Str}{ex:List (Str×Option Str)}{rows:List D}(hh:A.handled=none)(hsc:env.scope=FAdd.fd.scope)
 (T:Tbl I Dd L ox od)(ao:AddOk name val ex)(hcn:zc7 true name)(hz:rows.length<=1000)(hpo:ydu w po kws)(hsys:(Pd==zpy)=false)(hkn:kws.map (·.1)=ex.map (·.1))(hkv: ∀(i:Nat) q d,kws[i]? =some q->(ex.map λ p=>zlc p.2)[i]? =some d-> ∀g,Rp g d q.2)
 (hL:OkW (FAdd.cxw A env b K [L] [] 2) L):
 WxP G0 w (FAdd.cxw A env b K [L] [] 2) ⟨[(L,rows)],[(I,ox),(Dd,od),(Pd,po)],[]⟩ [some (.ptr I),some (.str name),some (zlc val),some (.ptr Pd),none,none,none] FAdd.body
  (λ f s'=>GoW [L] b s'/\Ows K [(L,rows++[ydw name val ex])] s'/\(match f with| .ret v=>v|_=> .none)= .none) (λ z z=>False):=by
 have hsl:H5=16777216:=by decide
 have hlen:kws.length=ex.length:=by have:=congrArg zfb hkn;simpa using this
 have hl:=ao.l;refine WxP.seqO (H':=λ a=>⟨[(a,[]),(L,rows)],[(I,ox),(Dd,od),(Pd,po)],[]⟩) (V':=λ a=>vA I Pd a name val) (Wx.own 4 (show 4<7 by decide) rfl (X1 D9) λ a ha=>zbw λ s F=>⟨rfl,a,ha,F⟩) λ a ha=>?_
 have rest:WxP G0 w (FAdd.cxw A env b K [L] [] 2) ⟨[(a,val.toList.map D.str),(L,rows)],[(I,ox),(Dd,od),(Pd,po)],[]⟩ (vA I Pd a name val) (FAdd.body.drop 2)
  (λ f s'=>GoW [L] b s'/\Ows K [(L,rows++[ydw name val ex])] s'/\(match f with| .ret v=>v|_=> .none)= .none) (λ z z=>False):=by
  refine WxP.forItems (EB:=λ z z=>False) (ds:=ex.map λ p=>zlc p.2) 5 6 3 hh (show 5<7 by decide) rfl (show 6<7 by decide) rfl rfl rfl (by simp) hpo hsys (by rw[B5];omega) hkv (λ z z h=>h.elim)
   (λ i=>[(a,(val.toList++(ex.take i).map zeu).map D.str),(L,rows)]) (λ z=>vA I Pd a name val) (λ z=>True) (by simp) rfl trivial (λ k=>rfl) (λ i k d hk hd z io=>?_) λ z=>?_
  ·rw[hkn,B7] at hk
   cases hex:ex[i]? with
   |none=>rw[hex] at hk;cases hk
   |some pr=>
    rw[hex] at hk;rw[B7,hex] at hd
    cases hk;cases hd
    obtain⟨c1,c2,c3,c4⟩:=ao.e pr (A6 hex);have hk2:((ex.take (i+1)).map zeu)=(ex.take i).map zeu++[zeu pr]:=by rw[P4,hex];simp
    have hti:i<ex.length:=(C7.mp hex).1;have hlz:((val.toList++(ex.take i).map zeu).map D.str).length<H5:=by
     have:val.toList.length<=1:=by cases val<;>simp
     rw[B5,K1,B5,U1];omega
    have fin: ∀{V1:List (Option D)} {P0:Flow->A8->Prop},(∀(j:Nat) d,j<5->V1[j]? =(vA I Pd a name val)[j]?)->WxP G0 w (FAdd.cxw A env b K [L] [] 2) ⟨[(a,(val.toList++(ex.take i).map zeu).map D.str++[.str (zeu pr)]),(L,rows)],[io,(I,ox),(Dd,od),(Pd,po)],[]⟩ V1 []
     (LpP G0 (FAdd.cxw A env b K [L] [] 2) ⟨[(a,(val.toList++(ex.take (i+1)).map zeu).map D.str),(L,rows)],[io,(I,ox),(Dd,od),(Pd,po)],[]⟩ (vA I Pd a name val) True P0) (λ z z=>False):=λ{V1 P0} hV=>WxP.nil λ s F=>by
     refine⟨trivial,?_⟩;rw[hk2,<-J3,J2 (l₂:=[zeu pr])];refine F.weak λ j d' h=>?_;rcases O3 j 5 with hj|hj
     ·rw[hV j d' hj];exact h
     ·rw[<-Nat.add_sub_of_le hj,Q9] at h
      generalize j-5=k at h
      cases k with
      |zero=>cases h
      |succ k=>cases k<;>cases h
    refine zgv 5 (show 5<7 by decide) rfl (Ev.conv (I:=I) 0 rfl rfl T (by simp) (by simp) (B8 (B4 5 rfl rfl) D9) (by omega) c1 (by show 2<=2+1;omega)).pos ?_
    have hdz:pr.1.length+(pr.1.length+1)*("-":Str).length<=16777216:=by
     rw[show("-":Str).length=1 from by decide+kernel];omega
    cases hv:pr.2 with
    |none=>
     have hpo:zeu pr=ybo pr.1:=by unfold zeu;rw[hv]
     refine zmz (p:=true) (O5 (B4 (d:= .none) 6 rfl (show some (some (zlc pr.2))=_ from by rw[hv];rfl)) zaq Cm.is_none_none) (λ z=>?_) λ h=>by cases h
     rw[hpo] at fin;refine WxP.push 4 0 rfl rfl rfl ha (zk7 (B4 5 rfl rfl).pos (by decide+kernel) hdz) hlz ?_
     exact fin λ j d hj=>n5 rfl rfl rfl rfl rfl hj
    |some x=>
     have hpo:zeu pr=ydy (ybo pr.1) x:=by unfold zeu;rw[hv]
     obtain⟨d1,d2,d3,d4⟩:=c4 x hv;refine zmz (p:=false) (O5 (B4 (d:= .str x) 6 rfl (show some (some (zlc pr.2))=_ from by rw[hv];rfl)) zaq (znk (by simp))) (λ h=>by cases h) λ z=>?_
     rw[hpo] at fin;refine zgv 6 (show 6<7 by decide) rfl (Ev.conv (I:=I) (x:=x) 0 rfl rfl T (by simp) (by simp) (B8 (B4 6 rfl (show some (some (zlc pr.2))=_ from by rw[hv];rfl)) D9) (by omega) d1 (by show 2<=2+1;omega)).pos ?_
     refine WxP.push 4 0 rfl rfl rfl ha (EvP.call2 (G7 0 rfl) (zk7 (B4 5 rfl rfl).pos (by decide+kernel) hdz) (B4 6 rfl rfl) (zqh c3 d2 d3 d4) (A6 (i:=11) rfl) (by show 2<=2+1;omega) (λ h=>by cases h)) hlz ?_
     exact fin λ j d hj=>n5 rfl rfl rfl rfl rfl hj
  ·rw[hlen,V5]
   refine Wx.pos (Wx.pushH (d:=ydw name val ex) 0 1 rfl rfl T (by simp) (by simp) rfl hL (B8 (Z1 (B8 (Ev.conv (I:=I) 0 rfl rfl T (by simp) (by simp) (B8 (B4 1 rfl rfl) D9) (by have:=ao.n;omega) hcn (by show 2<=2+1;omega)) (B8 (zgn ?_ rfl) D9))) D9) (by omega) (zbw λ s F=>⟨F.go,?_,rfl⟩))
   ·exact zh3 M6 U2 Z5 K0 (B8 (zed 4 rfl rfl A9) D9) (Me.join ao.j.1 ao.j.2)
   ·exact F.ows.tail
 cases hv:val with
 |none=>
  subst hv;exact zmz (p:=false) (O5 (B4 (d:= .none) 2 rfl rfl) zaq Cm.isnot_none_none) (λ h=>by cases h) λ z=>rest
 |some x=>
  subst hv;obtain⟨d1,d2⟩:=ao.v x rfl;refine zmz (p:=true) (O5 (B4 (d:= .str x) 2 rfl rfl) zaq (zmp (by simp))) (λ z=>?_) λ h=>by cases h
  refine zgv 2 (show 2<7 by decide) rfl (Ev.conv (I:=I) (x:=x) 0 rfl rfl T (by simp) (by simp) (B8 (B4 2 rfl rfl) D9) (by omega) d1 (by show 2<=2+1;omega)).pos ?_
  refine WxP.push 4 0 rfl rfl rfl ha (B4 2 rfl rfl).pos (by simp;omega) ?_
  exact rest
end
theorem FF.goW {W:List Addr}{s s':A8}{l:List Env}(x:FF s.heap l)(g:GoW W s s')(t:Tb s.heap)(hw: ∀a∈W,∃vs n,s.heap.get? a=some (M8 vs n)):FF s'.heap l:=λ env he=>by
 obtain⟨h1,L,o,h2,h3,es,ep,h4⟩:=x env he;have hn:NoF o:= .inl λ vs q=>by rw[h4] at q;cases q
 refine⟨h1,L,o,h2,g.keep _ _ (t.off h3 hn).1 (t.off h3 hn).2 (λ hm=>?_) h3,es,ep,h4⟩;obtain⟨vs,n,e⟩:=hw L hm;rw[h3] at e;cases e;cases h4
noncomputable def ztz (L:Addr)(rows:List D)(env:Env)(outer:List Env)(b:A8)(K:List Addr)(held:Bool)(v:Value)(s':A8):Prop:=
 ∃e t tk S r,v= .ref e/\GoW [L] b r/\Ows K [(L,rows)] r/\Thr S (env::outer) "ValueError" e (.ref t) (some [.str ycr tk]) (if held then I6 env.locals else .none) r s'/\ ∀a∈S,a=env.locals\/a∈ybe outer\/b.heap.objs.size<=a
section
variable{w:E3}{c:Cx}{H:Hm}{V:List (Option D)}{P:Flow->A8->Prop}{E:Value->A8->Prop}{rest:List Stmt}{I Dd L:Addr}{ox od:Obj}{outer:List Env}
theorem zkm {sf:Str}{p ap ps kp kq:Pos}{k:Nat}{e:Expr}{x:Str}{b:Bool}(i:Nat)(hx:c.nm[i]? =some sf)(hv:V[i]? =some (some (.ptr I)))(T:Tbl I Dd L ox od)(h1:(I,ox)∈H.fix)(h2:(Dd,od)∈H.fix)
 (ha:As G0 w c H V true [e] [.str x])(hz:x.length<=100000)(hc:zjq b x)(hl:2<=c.lv+1)(hh:c.A.handled=none)(hfr:c.A.frames=some (c.env::outer))(hf:c.env.frame=some c.env.locals)(ff:FF c.b.heap outer){s:A8}(F:FrS G0 c H V s){Q E:Value->A8->Prop}
 (kk: ∀e t tk S r s',FrS G0 c H V r->Thr S (c.env::outer) "ValueError" e (.ref t) (some [.str ycr tk]) .none r s'->(∀a∈S,a=c.env.locals\/a∈ybe outer\/c.b.heap.objs.size<=a)->E (.ref e) s')
 (hs:J7 [e] c.env=[(false,M3 e c.env)]:=by rfl)(hline:(ap.endLine==ps.line)=true:=by rfl):
 D0 (D1 pw w) c.A (M3 (.Call (.Attribute (.Name sf p) "_convert_string_type" ap) [e] [⟨some "name",.Constant (.bool b) k kp,kq⟩] ps) c.env) Q E s:=by
 obtain⟨v0,q1,q2⟩:=F.vars i sf _ hx hv;have q:=F.ok.dbg sf (A6 hx);have e0:v0= .ref I:=q2;subst e0;refine zuu rfl (by rw[hs];rfl) hline (T7 (q1.load F.ok.fn q.2 ?_) q.1)
 refine zlh F.gnd T (F.fix I ox h1).1 (F.fix Dd od h2).1 (f:=170) (λ mN h=>h.1) (A6 (i:=13) rfl) znv rfl ?_;refine zme (o:={cls:= .type "function",data:= .func zun}) (fd:=zun) ?_;rw[hs];refine evalArgs_kw rfl ?_;show D0 _ _ (zcn (zb6 ps [(false,M3 e c.env)])) _ _ _;rw[<-hs];refine ha.h ps s F _ _ λ vs s1 g1 r1=>?_;obtain⟨v1,rfl,rv⟩:=zc0 r1;refine kwAll_cons (E7 (Q:=λ v s'=>v= .bool b/\s'=s1) (E:=E) (λ z z z=>⟨rfl,rfl⟩) (λ v s' h=>?_) λ z z h=>h);obtain⟨rfl,rfl⟩:=h;refine kwAll_nil ⟨⟨(F.onto g1).gnd.fn _ (A6 (i:=13) rfl),rfl⟩,?_⟩;have F1:=F.onto g1;obtain⟨m,hm⟩:=F1.ns;refine zup hh (F1.ok.rm.le hl) (F1.okS true) rv hz hc hfr (FF.cons F1.ok.fn hf hm (ff.goW F1.go F1.ok.tb F1.ok.wrq)) λ e t tk S r s2 g2 T2 hS=>?_;refine kk e t tk S r s2 (F1.onto g2) T2 λ a ha=>?_;rcases hS a ha with h|h
 ·rw[zd8 hf] at h
  rcases B9.mp h with h|h
  ·exact .inl h
  ·exact .inr (.inl h)
 ·exact .inr (.inr (A7 F1.go.size h))
theorem Wx.throwA {x:Str}{p ps:Pos}{e:Expr}(he: ∀s,FrS G0 c H V s->D0 (D1 pw w) c.A (M3 e c.env) (λ z z=>False) E s)(hs:U6 e (some (.Name x p)) ps.line c.env=pure false:=by rfl):Wx G0 w c H V (.Assign [.Name x p] e ps::rest) P E:=
 ⟨λ s F=>E8 (V3 (E7 (he s F) (λ z z h=>h.elim) λ z z h=>h) hs)⟩
theorem Wx.throwH {sf:Str}{p hp ap ps ps' tp:Pos}{n:Nat}{e e2:Expr}{ds:List D}(i j:Nat)(hx:c.nm[i]? =some sf)(hv:V[i]? =some (some (.ptr I)))(T:Tbl I Dd L ox od)(h1:(I,ox)∈H.fix)(h2:(Dd,od)∈H.fix)(hj:H.own[j]? =some (L,ds))
 (he: ∀s,FrS G0 c H V s->D0 (D1 pw w) c.A (M3 e c.env) (λ z z=>False) E s)
 (hs:J7 [.Tuple [e,e2] n tp] c.env=[(false,M3 (.Tuple [e,e2] n tp) c.env)]:=by rfl)(hs2:J7 [e,e2] c.env=[(false,M3 e c.env),(false,M3 e2 c.env)]:=by rfl)(hline:(ap.endLine==ps.line)=true:=by rfl):
 Wx G0 w c H V (.Expr (.Call (.Attribute (.Attribute (.Name sf p) "_headers" hp) "append" ap) [.Tuple [e,e2] n tp] [] ps) ps'::rest) P E:=by
 refine⟨λ s F=>?_⟩;refine E8 (zgc (Z2 rfl ?_ hline zcj M5 N5 (zoh F i hx hv T h1 h2 λ s0 g0=>?_)) (by unfold zc4;rw[F.ok.fn];rfl) rfl)
 ·rw[hs];rfl
 have F0:=F.onto g0;obtain⟨o,vs,h3,⟨m,rfl⟩,h4⟩:=F0.own L ds (A6 hj);refine⟨⟨_,h3,rfl⟩,(λ b e=>by cases e;exact⟨_,h3,rfl⟩),?_⟩
 rw[hs];refine O0 rfl (zbo (K6 (zt8 (k:=n) ?_)));rw[hs2];exact K6 (E7 (he s0 F0) (λ z z h=>h.elim) λ z z h=>h)
theorem zvl {rows:List D}{b:A8}{K:List Addr}(hfr:c.A.frames=some (c.env::outer))(hf:c.env.frame=some c.env.locals): ∀v s,ztz L rows c.env outer b K false v s->LpE w c (λ v s=> ∃held,ztz L rows c.env outer b K held v s) v s:=by
 rintro v s ⟨e,t,tk,S,r,rfl,g,o,T,hS⟩;refine zik hfr hf T.fly λ h' F u z=>?_;refine zz1 hf F λ h'' F2 u2 z2=>?_;exact⟨true,e,t,tk,S,r,rfl,g,o,(T.step F u z λ a h=>h).step F2 u2 z2 λ a h=>h,hS⟩
end
section
variable{w:E3}{I Dd L:Addr}{ox od:Obj}{outer:List Env}
theorem zxj {A:H2}{env:Env}{b:A8}{K:List Addr}{Pd:Addr}{po:Obj}{kws:List (Str×Value)}{name val kv:Str}{rows:List D}(hh:A.handled=none)
 (T:Tbl I Dd L ox od)(hn:name.length<=1000)(hvl:val.length<=1000)(hkl:kv.length<=1000)(hk1:(zbx kv ⟨#[92]⟩ ⟨#[92,92]⟩).length<=10000)(hk2:(zu5 kv).length<=100000)(hk3:(ybo "k").length<=1000)(hk4:zc7 true "k")
 (bad:zjq false val\/(zc7 false val/\zjq false kv)\/(zc7 false val/\zc7 false kv/\zjq true name))
 (hpo:ydu w po kws)(hsys:(Pd==zpy)=false)(hkn:kws.map (·.1)=(["k"]:List Str))(hkv: ∀(i:Nat) q d,kws[i]? =some q->[D.str kv][i]? =some d-> ∀g,Rp g d q.2)
 (hfr:A.frames=some (env::outer))(hf:env.frame=some env.locals)(ff:FF b.heap outer):
 WxP G0 w (FAdd.cxw A env b K [L] [] 2) ⟨[(L,rows)],[(I,ox),(Dd,od),(Pd,po)],[]⟩ [some (.ptr I),some (.str name),some (.str val),some (.ptr Pd),none,none,none] FAdd.body
  (λ z z=>False) (λ v s'=> ∃held,ztz L rows env outer b K held v s'):=by
 have hsl:H5=16777216:=by decide
 have tail: ∀{a:Addr} {ds:List D} {fx:Obs} {gn:zst} {V:List (Option D)} {r:A8},FrS G0 (FAdd.cxw A env b K [L] [] 2) ⟨[(a,ds),(L,rows)],fx,gn⟩ V r->GoW [L] b r/\Ows K [(L,rows)] r:=λ{a ds fx gn V r} F=>⟨F.go,F.ows.tail⟩;refine WxP.seqO (H':=λ a=>⟨[(a,[]),(L,rows)],[(I,ox),(Dd,od),(Pd,po)],[]⟩) (V':=λ a=>[some (.ptr I),some (.str name),some (.str val),some (.ptr Pd),some (.ptr a),none,none]) (Wx.own 4 (show 4<7 by decide) rfl (X1 D9) λ a ha=>zbw λ s F=>⟨rfl,a,ha,F⟩) λ a ha=>?_
 refine zmz (p:=true) (O5 (B4 (d:= .str val) 2 rfl rfl) zaq (zmp (by simp))) (λ z=>?_) λ h=>by cases h
 rcases bad with bad|bad
 ·exact Wx.pos (Wx.throwA λ s F=>zkm (I:=I) (x:=val) 0 rfl rfl T (by simp) (by simp) (B8 (B4 2 rfl rfl) D9) (by omega) bad (by show 2<=2+1;omega) hh hfr hf ff F λ e t tk S r s' Fr Tr hS=>⟨false,e,t,tk,S,r,rfl,(tail Fr).1,(tail Fr).2,Tr,hS⟩)
 have hcv:zc7 false val:=by rcases bad with h|h<;>exact h.1
 refine zgv 2 (show 2<7 by decide) rfl (Ev.conv (I:=I) (x:=val) 0 rfl rfl T (by simp) (by simp) (B8 (B4 2 rfl rfl) D9) (by omega) hcv (by show 2<=2+1;omega)).pos ?_
 refine WxP.push 4 0 rfl rfl rfl ha (B4 2 rfl rfl).pos (by simp;omega) ?_
 have hlen:kws.length=1:=by have:=congrArg zfb hkn;simpa using this
 refine WxP.forItems (EB:=ztz L rows env outer b K false) (ds:=[D.str kv]) 5 6 3 hh (show 5<7 by decide) rfl (show 6<7 by decide) rfl rfl rfl (by simp) hpo hsys (by simp[hlen]) hkv (zvl (c:=FAdd.cxw A env b K [L] [] 2) hfr hf)
  (λ i=>[(a,if i=0 then[.str val] else[.str val,.str (ydy (ybo "k") kv)]),(L,rows)]) (λ z=>[some (.ptr I),some (.str name),some (.str val),some (.ptr Pd),some (.ptr a),none,none]) (λ i=>i=0\/zc7 false kv/\zjq true name) rfl rfl (.inl rfl) (λ k=>rfl) (λ i k d hk hd z io=>?_) λ hlv=>?_
 ·rw[hkn] at hk
  match i,hk,hd with
  |0,hk,hd=>
   cases hk;cases hd
   refine zgv 5 (show 5<7 by decide) rfl (Ev.conv (I:=I) 0 rfl rfl T (by simp) (by simp) (B8 (B4 5 rfl rfl) D9) (by decide+kernel) hk4 (by show 2<=2+1;omega)).pos ?_
   refine zmz (p:=false) (O5 (B4 (d:= .str kv) 6 rfl rfl) zaq (znk (by simp))) (λ h=>by cases h) λ z=>?_
   rcases bad with bad|bad
   ·exact Wx.pos (Wx.throwA λ s F=>zkm (I:=I) (x:=kv) 0 rfl rfl T (by simp) (by simp) (B8 (B4 6 rfl rfl) D9) (by omega) bad.2 (by show 2<=2+1;omega) hh hfr hf ff F λ e t tk S r s' Fr Tr hS=>⟨e,t,tk,S,r,rfl,(tail Fr).1,(tail Fr).2,Tr,hS⟩)
   refine zgv 6 (show 6<7 by decide) rfl (Ev.conv (I:=I) (x:=kv) 0 rfl rfl T (by simp) (by simp) (B8 (B4 6 rfl rfl) D9) (by omega) bad.2.1 (by show 2<=2+1;omega)).pos ?_
   refine WxP.push 4 0 rfl rfl rfl ha (EvP.call2 (G7 0 rfl) (zk7 (B4 5 rfl rfl).pos (by decide+kernel) (by decide+kernel)) (B4 6 rfl rfl) (zqh hk3 hkl hk1 hk2) (A6 (i:=11) rfl) (by show 2<=2+1;omega) (λ h=>by cases h)) (by simp;omega) ?_
   refine WxP.nil λ s F=>⟨.inr bad.2,F.weak (wkS (wkS (wkS (wkS (wkS (wkN (wkN wkE)))))))⟩
  |i+1,hk,hd=>cases hd
 ·rw[hlen] at hlv ⊢
  rcases hlv with h|bad
  ·cases h
  ·exact Wx.pos (Wx.throwH (e2:=_) 0 1 rfl rfl T (by simp) (by simp) rfl λ s F=>zkm (I:=I) (x:=name) 0 rfl rfl T (by simp) (by simp) (B8 (B4 1 rfl rfl) D9) (by omega) bad.2 (by show 2<=2+1;omega) hh hfr hf ff F λ e t tk S r s' Fr Tr hS=>⟨false,e,t,tk,S,r,rfl,(tail Fr).1,(tail Fr).2,Tr,hS⟩)
end
noncomputable abbrev zrb (w:E3)(names:List Str):Prop:= ∀(vs:List Value) (v0 v1 v2:Value) (A:H2) (E:Value->A8->Prop) (s:A8) (Q:List (Str×Value)->A8->Prop),vs.length=names.length->
 (∀d o s',zzp w s s' d o (names.zip vs)->Q [("self",v0),("_name",v1),("_value",v2),("_params",.ref d)] s')->D0 (D1 pw w) A (zay FAdd.fd ⟨[v0,v1,v2],names.zip vs⟩) Q E s
theorem ydr {w:E3}:zrb w []:=λ vs v0 v1 v2 A E s Q hl h=>by
 obtain rfl:=W5 hl;exact zxh h
theorem ydq {w:E3}:zrb w ["k"]:=λ vs v0 v1 v2 A E s Q hl h=>by
 obtain⟨u,rfl⟩:=x1 hl;exact zxg h
theorem ydp {w:E3}:zrb w ["k","j_i"]:=λ vs v0 v1 v2 A E s Q hl h=>by
 obtain⟨u,u',rfl⟩:=x2 hl;exact zxf h
section
variable{w:E3}{I Dd L:Addr}{ox od:Obj}
theorem zwe {o:Obj}{ex:List (Str×Value)}(h:ydu w o ex):(∀v,o.data≠ .cell v)/\ ¬Sq o/\NoF o:=by
 obtain⟨es,ep,_,hd,_⟩:=h;exact⟨(λ v e=>by rw[hd] at e;cases e),(λ⟨_,_,e⟩=>by rw[hd] at e;cases e),.inl λ vs e=>by rw[hd] at e;cases e⟩
theorem zqx {A:H2}{K:List Addr}{s:A8}{v1 v2:Value}{kvs:List Value}{names:List Str}{name:Str}{val:Option Str}{rows:List D}(rm:Rm A 4)(hp:1<=s.toks)(ok:Ok G0 A (K++[L]) s)(T:Tbl I Dd L ox od)
 (h1:s.heap.get? I=some ox/\I≠82/\I≠89)(h2:s.heap.get? Dd=some od/\Dd≠82/\Dd≠89)(ho:Ows K [(L,rows)] s)(r1:Rp (hid (K++[L]) s.heap) (.str name) v1)(r2: ∀g,Rp g (zlc val) v2)(bk:zrb w names)(hl:kvs.length=names.length){Q E:Value->A8->Prop}
 (body: ∀Pd po Lo s₂,ydu w po (names.zip kvs)->(Pd==zpy)=false->FrS G0 (FAdd.cxw (A.deeper (H3 FAdd.fd Lo FAdd.f)) (H3 FAdd.fd Lo FAdd.f) s K [L] [] 2) ⟨[(L,rows)],[(I,ox),(Dd,od),(Pd,po)],[]⟩ [some (.ptr I),some (.str name),some (zlc val),some (.ptr Pd),none,none,none] s₂->1<=s₂.toks->
   D0 (D1 pw w) (A.deeper (H3 FAdd.fd Lo FAdd.f)) (X5 FAdd.body (H3 FAdd.fd Lo FAdd.f)) (λ f s'=>Q (match f with| .ret v=>v|_=> .none) s')
    (λ e s'=>D0 (D1 pw w) (A.deeper (H3 FAdd.fd Lo FAdd.f)) (zji (H3 FAdd.fd Lo FAdd.f) e) (λ z s''=>E e s'') (λ e' s''=>E e' s'') s') s₂):
 D0 (D1 pw w) A (call (.ref 266) [.ref I,v1,v2] (names.zip kvs)) Q E s:=by
 obtain⟨hLK,vsL,nL,hLo,hLr⟩:=ho.own L rows A9;refine Fn.enterX (w:=w) (X:={x:Addr×Obj // s.heap.objs.size<=x.1/\ydu w x.2 (names.zip kvs)}) (fx:=λ x=>[(I,ox),(Dd,od),x.1]) (V:=λ x=>[some (.ptr I),some (.str name),some (zlc val),some (.ptr x.1.1),none,none,none]) FAdd yge (l:=4) (b:=s) (ow:=[(L,rows)]) (wr:=[L]) (dk:=[]) (K:=K)
  (by omega) rm ok.gnd ok.tb ok.hd ok.gnd ok.tb (zj5 s) (λ a ha=>ok.kl a (D3 _ ha)) (λ a ha=>?_) (λ p h=>nomatch h) (λ p h=>nomatch h) ho (λ x p hp'=>?_) (λ A' E' Q' h=>?_) λ x Lo s₂ F g ht=>?_
 ·rw[B2] at ha;subst ha;exact⟨vsL,nL,hLo⟩
 ·simp only[B9,D6,or_false] at hp'
  rcases hp' with rfl|rfl|rfl
  ·exact⟨T.x1,T.x2⟩
  ·exact⟨T.d1,T.d2⟩
  ·exact⟨(zwe x.2.2).1,(zwe x.2.2).2.1⟩
 ·refine bk kvs (.ref I) v1 v2 A' E' s Q' hl λ d o s' hk=>?_
  obtain⟨g,hz,hd,hkw⟩:=hk;refine h ⟨(d,o),hz,hkw⟩ s' _ g ?_ (zg3 (by show([("self":Str),"_name","_value","_params"]:List Str).Nodup;decide+kernel) (.cons rfl (.cons (r1.go g ok.tb) (.cons (r2 _) (.cons rfl (.nil (wk0 (wk0 (wk0 wkE)))))))))
  exact fmc ⟨g.keep _ _ h1.2.1 h1.2.2 h1.1,h1.2⟩ (fmc ⟨g.keep _ _ h2.2.1 h2.2.2 h2.1,h2.2⟩ (fmc ⟨hd,(g.tab ok.tb).off hd (zwe hkw).2.2⟩ fmn))
 ·refine body x.1.1 x.1.2 Lo s₂ x.2.2 ?_ F (A7 hp ht)
  have:=x.2.1;have h3:=ok.tb.1;have hne:x.1.1≠zpy:=λ e=>by
   rw[e] at this;exact absurd (A7 h3 this) (by decide)
  simpa using hne
end
section
variable{G:Gt}{w:E3}{c:Cx}{H:Hm}{V:List (Option D)}{P:Flow->A8->Prop}{E:Value->A8->Prop}{rest:List Stmt}{I Dd L:Addr}{ox od:Obj}
structure EvQ (G:Gt)(w:E3)(c:Cx)(H:Hm)(V:List (Option D))(f:Bool)(e:Expr)(d:D):Prop where
 h: ∀s,FrS G c H V s-> ∀(Q E:Value->A8->Prop),(∀v s',Go s s'->1<=s'.toks->Rp (hid (hk c H f) s'.heap) d v->Q v s')->D0 (D1 pw w) c.A (M3 e c.env) Q E s
theorem EvQ.cint {f:Bool}{i:Int}{k:Nat}{p:Pos}:EvQ G w c H V f (.Constant (.int i) k p) (.int i):=
 ⟨λ s F Q E k=>by
  have k':=k (.int i s.toks) _ (R1 s (s.toks+1)) (zjz _) .int';exact λ z z z=>k'⟩
theorem EvQ.cstr {f:Bool}{x:Str}{k:Nat}{p:Pos}:EvQ G w c H V f (.Constant (.str x) k p) (.str x):=
 ⟨λ s F Q E k=>by
  have k':=k (.str x s.toks) _ (R1 s (s.toks+1)) (zjz _) .str';exact λ z z z=>k'⟩
theorem EvQ.bin {f:Bool}{op:zhw}{l r:Expr}{p:Pos}{d1 d2 d:D}(h1:EvQ G w c H V f l d1)(h2:Ev G w c H V f r d2)(h:Bi G w op d1 d2 d):EvQ G w c H V f (.BinOp l op r p) d:=by
 refine⟨λ s F Q E k=>?_⟩;refine zpj (h1.h s F _ _ λ v1 s1 g1 hp r1=>S8 hp (h2.r (F.onto g1) λ v2 s2 g2 r2 hp2=>S8 hp2 ?_));exact(h.h _ _ s2 v1 v2 (((F.onto g1).onto g2).okS f) (r1.go g2 (F.onto g1).tb) r2).h _ _ λ v s' g r hp3=>k v s' ((g1.trans g2).trans g) hp3 r
theorem EvQ.sub {f:Bool}{value slice:Expr}{ps:Pos}{d1 d2 d:D}(h1:Ev G w c H V f value d1)(h2:EvQ G w c H V f slice d2)(h:Gi G w d1 d2 d)
 (hs: ∀o i,∃l,subscripted slice false o i=operate l (getItem o i):=by intro _ _;exact⟨_,rfl⟩):EvQ G w c H V f (.Subscript value slice ps) d:=by
 refine⟨λ s F Q E k=>?_⟩;rw[zmx];refine B0 (h1.r F λ v1 s1 g1 r1=>B0 (J8 (h2.h s1 (F.onto g1) _ _ λ v2 s2 g2 hp r2=>S8 hp (B0 (K7 ?_)))));obtain⟨⟨T,id,hl,hT⟩,hg⟩:=h.h _ _ s2 v1 v2 (((F.onto g1).onto g2).okS f) (r1.go g2 (F.onto g1).tb) r2;refine B0 ?_;rw[ze3 hT.not_modules];refine B0 (Y0 hT hl ?_);refine C4 (B0 ?_);obtain⟨l,e⟩:=hs v1 v2;rw[e];refine zk9 (hg.h _ _ λ v s' g r=>?_);refine B0 (zft (C4 λ hp'=>?_));exact k v s' ((g1.trans g2).trans g) hp' r
structure AsP (G:Gt)(w:E3)(c:Cx)(H:Hm)(V:List (Option D))(f:Bool)(es:List Expr)(ds:List D):Prop where
 h: ∀(pos:Pos) s,FrS G c H V s-> ∀(Q:List Value->A8->Prop) (E:Value->A8->Prop),(∀vs s',Go s s'->1<=s'.toks->RpL (hid (hk c H f) s'.heap) ds vs->Q vs s')->
  D0 (D1 pw w) c.A (zcn (zb6 pos (J7 es c.env))) Q E s
theorem AsP.cons {f:Bool}{e:Expr}{es:List Expr}{d:D}{ds:List D}(h1:EvQ G w c H V f e d)(h2:As G w c H V f es ds)(hs:J7 (e::es) c.env=(false,M3 e c.env)::J7 es c.env:=by rfl):AsP G w c H V f (e::es) (d::ds):=by
 refine⟨λ pos s F Q E k=>?_⟩;rw[show zb6 pos (J7 (e::es) c.env)=(false,M3 e c.env)::zb6 pos (J7 es c.env) by rw[hs];rfl]
 refine K6 (h1.h s F _ _ λ v s1 g1 hp r1=>S8 hp (h2.h pos s1 (F.onto g1) _ _ λ vs s2 g2 r2 hp2=>?_));exact k _ s2 (g1.trans g2) hp2 (U4 (r1.go g2 (F.onto g1).tb) r2)
structure KwE (G:Gt)(w:E3)(c:Cx)(H:Hm)(V:List (Option D))(kws:List yav)(names:List Str)(ds:List D):Prop where
 names: ∀pos,(zf5 pos (zbk kws c.env)).filterMap (·.1)=names
 all: ∀pos,(zf5 pos (zbk kws c.env)).all (·.1.isSome)=true
 len: ∀pos,(zf5 pos (zbk kws c.env)).isEmpty=kws.isEmpty
 h: ∀(pos:Pos) s,FrS G c H V s-> ∀(Q:List Value->A8->Prop) (E:Value->A8->Prop),(∀vs s',Go s s'->RpL (hid (hk c H true) s'.heap) ds vs->Q vs s')->
  D0 (D1 pw w) c.A (evalAll ((zf5 pos (zbk kws c.env)).map (·.2))) Q E s
theorem KwE.nil:KwE G w c H V [] [] []:=⟨λ z=>rfl,λ z=>rfl,λ z=>rfl,λ pos s F Q E k=>kwAll_nil (k [] s (M4 s) Z8)⟩
theorem KwE.cons {n:Str}{e:Expr}{p:Pos}{r:List yav}{names:List Str}{d:D}{ds:List D}(h1:Ev G w c H V true e d)(h2:KwE G w c H V r names ds):KwE G w c H V (⟨some n,e,p⟩::r) (n::names) (d::ds) where
 names:=λ pos=>by
  show n::(zf5 pos (zbk r c.env)).filterMap (·.1)=_;rw[h2.names]
 all:=λ pos=>by
  show(true&&(zf5 pos (zbk r c.env)).all (·.1.isSome))=true;rw[h2.all];rfl
 len:=λ pos=>rfl
 h:=λ pos s F Q E k=>kwAll_cons (h1.r F λ v s1 g1 r1=>h2.h pos s1 (F.onto g1) _ _ λ vs s2 g2 r2=>k _ s2 (g1.trans g2) (U4 (r1.go g2 (F.onto g1).tb) r2))
end
section
variable{w:E3}{c:Cx}{H:Hm}{V:List (Option D)}{P:Flow->A8->Prop}{E:Value->A8->Prop}{rest:List Stmt}{I Dd L:Addr}{ox od:Obj}
theorem zqy {tb:Str}{p ap ps:Pos}{e1 e2:Expr}{kws:List yav}{names:List Str}{d1 d2:D}{kd:List D}(i:Nat)(hx:c.nm[i]? =some tb)(hv:V[i]? =some (some (.ptr I)))(T:Tbl I Dd L ox od)(h1:(I,ox)∈H.fix)(h2:(Dd,od)∈H.fix)
 (ha:AsP G0 w c H V true [e1,e2] [d1,d2])(hkw:KwE G0 w c H V kws names kd)(hk3:kws.length<=2){s:A8}(F:FrS G0 c H V s){Q E:Value->A8->Prop}
 (k: ∀v1 v2 kvs s',FrS G0 c H V s'->Go s s'->1<=s'.toks->Rp (hid (hk c H true) s'.heap) d1 v1->Rp (hid (hk c H true) s'.heap) d2 v2->RpL (hid (hk c H true) s'.heap) kd kvs->D0 (D1 pw w) c.A (call (.ref 266) [.ref I,v1,v2] (names.zip kvs)) Q E s')
 (hs:J7 [e1,e2] c.env=[(false,M3 e1 c.env),(false,M3 e2 c.env)]:=by rfl)(hline:(ap.endLine==ps.line)=true:=by rfl):
 D0 (D1 pw w) c.A (M3 (.Call (.Attribute (.Name tb p) "add_header" ap) [e1,e2] kws ps) c.env) Q E s:=by
 obtain⟨v0,q1,q2⟩:=F.vars i tb _ hx hv;have q:=F.ok.dbg tb (A6 hx);have e0:v0= .ref I:=q2;subst e0;refine zuu rfl ?_ hline (T7 (q1.load F.ok.fn q.2 ?_) q.1)
 ·rw[hs,hkw.all,Bool.and_true]
  show(true&&decide (2+kws.length+(if _ then 0 else 1)<30))=true;rw[zlv,decide_eq_true_eq];split<;>omega
 refine zlh F.gnd T (F.fix I ox h1).1 (F.fix Dd od h2).1 (f:=266) (λ mN h=>h.2.2.2.2) (A6 (i:=17) rfl) zv4 rfl ?_;refine zme (o:={cls:= .type "function",data:= .func zz5}) (fd:=zz5) ?_;rw[hs];refine evalArgs_kw (hkw.all _) ?_;show D0 _ _ (zcn (zb6 ps [(false,M3 e1 c.env),(false,M3 e2 c.env)])) _ _ _;rw[<-hs];refine ha.h ps s F _ _ λ vs s1 g1 hp r1=>?_;obtain⟨v1,v2,rfl,rv1,rv2⟩:=zkp r1;refine S8 hp (hkw.h ps s1 (F.onto g1) _ _ λ kvs s2 g2 r2 hp2=>?_);have F2:=(F.onto g1).onto g2;refine⟨⟨F2.gnd.fn _ (A6 (i:=17) rfl),rfl⟩,?_⟩;rw[hkw.names];exact k v1 v2 kvs s2 F2 (g1.trans g2) hp2 (rv1.go g2 (F.onto g1).tb) (rv2.go g2 (F.onto g1).tb) r2
theorem yep {g:Addr->Option Obj}{kd:List D}{kvs:List Value}{names:List Str}(hS: ∀d∈kd,Sc d=true)(r:RpL g kd kvs)(hl:names.length=kd.length): ∀(i:Nat) q d,(names.zip kvs)[i]? =some q->kd[i]? =some d-> ∀g',Rp g' d q.2:=by
 intro i q d h1 h2 g';obtain⟨v,h3,h4⟩:=r.get h2;rw[O8] at h1;have:q.2=v:=by rw[h1.2] at h3;exact Q8 h3
 rw[this];exact h4.scalar (hS d (A6 h2))
theorem Wx.addH {tb:Str}{p ap ps ps':Pos}{e1 e2:Expr}{kws:List yav}{name:Str}{val:Option Str}{ex:List (Str×Option Str)}{rows:List D}(i:Nat)(hh:c.A.handled=none)(hx:c.nm[i]? =some tb)(hv:V[i]? =some (some (.ptr I)))(T:Tbl I Dd L ox od)(h1:(I,ox)∈H.fix)(h2:(Dd,od)∈H.fix)
 (hown:H.own=[(L,rows)])(hL:OkW c L)(ha:AsP G0 w c H V true [e1,e2] [.str name,zlc val])(hkw:KwE G0 w c H V kws (ex.map (·.1)) (ex.map λ p=>zlc p.2))(bk:zrb w (ex.map (·.1)))(hk3:kws.length<=2)(ao:AddOk name val ex)(hcn:zc7 true name)(hz:rows.length<=1000)(hl:4<=c.lv+1)
 (h:Wx G0 w c (H.owns [(L,rows++[ydw name val ex])]) V rest P E)
 (hs:J7 [e1,e2] c.env=[(false,M3 e1 c.env),(false,M3 e2 c.env)]:=by rfl)(hline:(ap.endLine==ps.line)=true:=by rfl):
 Wx G0 w c H V (.Expr (.Call (.Attribute (.Name tb p) "add_header" ap) [e1,e2] kws ps) ps'::rest) P E:=by
 refine⟨λ s F=>E8 (zgc (zqy i hx hv T h1 h2 ha hkw hk3 F (λ v1 v2 kvs s1 F1 g1 hp r1 r2 r3=>?_) hs hline) (by unfold zc4;rw[F.ok.fn];rfl) rfl)⟩
 have hkk:hk c H true=c.K++[L]:=by unfold hk;rw[hown];rfl
 have how:Ows c.K [(L,rows)] s1:=by have:=F1.ows;rwa [hown] at this
 rw[hkk] at r1;have hsc: ∀d∈(ex.map λ p=>zlc p.2),Sc d=true:=λ d hd=>by
  obtain⟨p,_,rfl⟩:=C5.mp hd
  cases p.2<;>rfl
 refine zqx (F1.ok.rm.le hl) hp (hkk▸F1.okS true) T ⟨(F1.fix I ox h1).1,(F1.fix I ox h1).2.1⟩ ⟨(F1.fix Dd od h2).1,(F1.fix Dd od h2).2.1⟩ how r1 (λ g=>r2.scalar (by cases val<;>rfl)) bk (by rw[r3.length,B5,B5]) λ Pd po Lo s2 hpo hsys F2 hp2=>?_
 have W:=yan (A:=c.A.deeper (H3 FAdd.fd Lo FAdd.f)) (env:=H3 FAdd.fd Lo FAdd.f) (b:=s1) (K:=c.K) (w:=w) hh rfl T ao hcn hz hpo hsys (by rw[zdh];rw[r3.length,B5,B5];exact D2 _) (yep hsc r3 (by simp)) (.inr A9)
 refine E7 (W.h s2 F2 hp2) (λ f s3 h3=>?_) λ z z h=>h.elim;obtain⟨g3,o3,e3⟩:=h3;have F3:FrS G0 c (H.owns [(L,rows++[ydw name val ex])]) V s3:=F1.after (λ a ha=>by rw[hown] at ha;rewrite[B2.mp ha];exact hL) (by rw[hown];exact g3) (by rw[hown];rfl) o3
 have fin:=h.h s3 F3
 cases f with
 |ret v=>
  have:v= .none:=e3;subst this;exact fin
 |next=>exact fin
 |brk=>exact fin
 |cont=>exact fin
theorem zux {tb:Str}{p ap ps:Pos}{e1 e2:Expr}{kws:List yav}{name val kv:Str}{rows:List D}{outer:List Env}(i:Nat)(hh:c.A.handled=none)(hx:c.nm[i]? =some tb)(hv:V[i]? =some (some (.ptr I)))(T:Tbl I Dd L ox od)(h1:(I,ox)∈H.fix)(h2:(Dd,od)∈H.fix)
 (hown:H.own=[(L,rows)])(hL:OkW c L)(ha:AsP G0 w c H V true [e1,e2] [.str name,.str val])(hkw:KwE G0 w c H V kws ["k"] [.str kv])(hk3:kws.length<=2)(hl:4<=c.lv+1)
 (hn:name.length<=1000)(hvl:val.length<=1000)(hkl:kv.length<=1000)(hk1:(zbx kv ⟨#[92]⟩ ⟨#[92,92]⟩).length<=10000)(hk2:(zu5 kv).length<=100000)
 (bad:zjq false val\/(zc7 false val/\zjq false kv)\/(zc7 false val/\zc7 false kv/\zjq true name))(hfr:c.A.frames=some outer){s:A8}(ff: ∀s',FrS G0 c H V s'->FF s'.heap outer)(F:FrS G0 c H V s){Q E:Value->A8->Prop}
 (k: ∀e t tk S r s',FrS G0 c H V r->Thr S outer "ValueError" e (.ref t) (some [.str ycr tk]) .none r s'->(∀a∈S,a∈ybe outer\/s.heap.objs.size<=a)->E (.ref e) s')
 (hs:J7 [e1,e2] c.env=[(false,M3 e1 c.env),(false,M3 e2 c.env)]:=by rfl)(hline:(ap.endLine==ps.line)=true:=by rfl):
 D0 (D1 pw w) c.A (M3 (.Call (.Attribute (.Name tb p) "add_header" ap) [e1,e2] kws ps) c.env) Q E s:=by
 refine zqy i hx hv T h1 h2 ha hkw hk3 F (λ v1 v2 kvs s1 F1 g1 hp r1 r2 r3=>?_) hs hline;have hkk:hk c H true=c.K++[L]:=by unfold hk;rw[hown];rfl
 have how:Ows c.K [(L,rows)] s1:=by have:=F1.ows;rwa [hown] at this
 rw[hkk] at r1;refine zqx (val:=some val) (F1.ok.rm.le hl) hp (hkk▸F1.okS true) T ⟨(F1.fix I ox h1).1,(F1.fix I ox h1).2.1⟩ ⟨(F1.fix Dd od h2).1,(F1.fix Dd od h2).2.1⟩ how r1 (λ g=>r2.scalar rfl) ydq (by rw[r3.length];rfl) λ Pd po Lo s2 hpo hsys F2 hp2=>?_
 have W:=zxj (A:=c.A.deeper (H3 FAdd.fd Lo FAdd.f)) (env:=H3 FAdd.fd Lo FAdd.f) (b:=s1) (K:=c.K) (w:=w) (rows:=rows) (outer:=outer) hh T hn hvl hkl hk1 hk2 (by decide+kernel) (λ q hq=>by
  have:q=0:=by have:(("k":Str)).cps.size=1:=by decide+kernel
               omega
  subst this;decide+kernel) bad hpo hsys (by rw[zdh];rw[r3.length];exact D2 _) (yep (λ d hd=>by rw[B2] at hd;rw[hd];rfl) r3 rfl) (zb4 hfr) rfl (ff s1 F1)
 refine E7 (W.h s2 F2 hp2) (λ f s3 h3=>h3.elim) λ v s3 h3=>?_;obtain⟨held,e,t,tk,S,r,rfl,g,o,Tr,hS⟩:=h3;have Fr:FrS G0 c H V r:=by
  have:=F1.after (ow':=[(L,rows)]) (λ a ha=>by rw[hown] at ha;rewrite[B2.mp ha];exact hL) (by rw[hown];exact g) (by rw[hown]) o
  rw[<-hown] at this;exact this
 have fin: ∀s4,Thr S outer "ValueError" e (.ref t) (some [.str ycr tk]) .none r s4->E (.ref e) s4:=λ s4 T4=>k e t tk S r s4 Fr T4 λ a ha=>by
  rcases hS a ha with h|h|h
  ·right
   rw[h];exact A7 g1.size F2.ok.lo
  ·exact .inl h
  ·exact .inr (A7 g1.size h)
 have hloc: ∀a∈ybe outer,a∈ybe (H3 FAdd.fd Lo FAdd.f::outer):=λ a ha=>by rw[zd8 (L:=Lo) rfl];exact B1 _ ha
 cases held with
 |true=>exact zne (env:=H3 FAdd.fd Lo FAdd.f) rfl Tr.fly λ h' F' u z=>fin _ (Tr.step F' u z hloc)
 |false=>exact zqk (env:=H3 FAdd.fd Lo FAdd.f) (zb4 hfr) rfl Tr.fly λ h' F' u z=>fin _ (Tr.step F' u z hloc)
end
noncomputable abbrev zpk (dx:Addr):Obj:={cls:= .ref 269,dict:=some dx,data:= .plain}
section
variable{w:E3}{A:H2}{E:Value->A8->Prop}{h:P9}{g:Array zb7}{d:Drawn}{t:Nat}{os:OsState}
theorem zzi {nm q:Str}{bs:List Value}{sn:List Str}{sub:List Value}{col:Option Bool}{dd:Option Addr}{k0 k1 k2 k3 k5:Option Value}{mN:Str->Option Value}{rest:List Value}{oI:Obj}{Q:Value->A8->Prop}
 (hC:h.get? 269=some (excClassObj nm q 269 268 bs [.type "object"] true sn sub false col dd k0 k1 k2 k3 k5 "object.__new__"))(hn:h.Ns 268 mN)(hi:mN "__init__"=some (.ref 163))(hf:h.get? 163=some oI)(hfc:oI.cls= .type "function")
 (k:D0 (D1 pw w) (A.under (.builtin "type.__call__" ⟨.ref 269::rest,[]⟩)) (call (.ref 163) (.ref (h.objs.size+1)::rest)) (λ r s'=>r= .none/\Q (.ref (h.objs.size+1)) s') E ⟨(h.push zdi).push (zpk h.objs.size),g,d,t,os⟩):
 D0 (D1 pw w) A (call (.ref 269) rest) Q E ⟨h,g,d,t,os⟩:=by
 have f1:=tc_lookup;have f2:=tc_bind (.ref 269);have hT:(⟨h,g,d,t,os⟩:A8).TypeIs (.ref 269) "type":=⟨_,hC,rfl⟩;have up: ∀{b o},h.get? b=some o->((h.push zdi).push (zpk h.objs.size)).get? b=some o:=λ e=>C3 _ (C3 _ e);have mro:mroOf (.type "object")=pure [.type "object"]:=F.mro_object;have lk:Z3 (.type "object") "__init__"=pure (some (.builtin "object.__init__")):=by rw[R0,L3];kernel_rfl
 refine zif (codeAny_of_tree ?_);show D0 _ _ (callAny (.ref 269) _) _ _ _
 repeat (any_goals (first|assumption|with_reducible refine zpu hC ?_|wp_step))
 refine⟨rfl,codeAny_call_builtin_at (yaz _ (by decide+kernel)) entry_typeCall (wpAny_check_type_call_sub hC ?_)⟩
 repeat (first|with_reducible refine zpu hC ?_|with_reducible refine wpAny_madeBy_exc hC ?_|wp_step)
 refine codeAny_call_builtin_code (yaz _ zpb.quiet) (wpAny_check_obj_new zpb hC (codeAny_obj_new zpb hC hn hi ?_));show D0 _ _ _ _ _ _;have hx:((h.push zdi).push (zpk h.objs.size)).get? (h.objs.size+1)=some (zpk h.objs.size):=by
  have:(h.push zdi).objs.size=h.objs.size+1:=G8 ..;rw[<-this];exact D8 _ rfl
 have hC1:=up hC;have hcC:(N0 269::[zre "object"]).contains (.ref 269)=true:=by simp
 have hn1:((h.push zdi).push (zpk h.objs.size)).Ns 268 mN:=let ⟨o,es,ep,e,r⟩:=hn;⟨o,es,ep,up e,r⟩;unfold isInstance
 repeat (first|with_reducible refine zpu hx ?_|(with_reducible refine wpAny_isSubtype_exc hC1 ?_;rw[hcC])|wp_step)
 show D0 _ _ (Z3 (.ref 269) _) _ _ _;refine wpAny_typeLookup_exc hC1 hn1 mro lk ?_;rw[hi];refine J8 (B0 ?_);unfold bindSpecial;refine B0 (wpAny_typeOf (T:= "function") ⟨_,up hf,hfc⟩ ?_);rw[if_pos (by decide)]
 refine C4 (B0 (E7 k (λ r s' hr=>?_) λ z z x=>x));obtain⟨rfl,hQ⟩:=hr
 wp_walk
 exact hQ
end
noncomputable def FIni:Fd where
 f:=163
 c:=162
 fd:=yfd
 ps:=["self","headers"]
 nm:=["self","headers","k","v"]
 kl:=[false,false,false,false]
 gn:=[("type",.type "type"),("list",.type "list")]
theorem yf4:FokB G0 FIni:=zkt (gi:=[]) (bj:=[12,13]) rfl (by decide+kernel) (A6 (i:=12) rfl) (A6 (i:=12) rfl) rfl rfl ⟨rfl,rfl,rfl,rfl,rfl,rfl⟩
section
variable{w:E3}{c:Cx}{H:Hm}{V:List (Option D)}{P:Flow->A8->Prop}{E:Value->A8->Prop}{rest:List Stmt}{I Dd L:Addr}
theorem Ev.fixL {G:Gt}{x:Str}{p:Pos}{f:Bool}(i:Nat)(hx:c.nm[i]? =some x)(hv:V[i]? =some (some (.ptr L)))(h1:(L,M8 [] 0)∈H.fix)(hK:L∉c.K):Ev G w c H V f (.Name x p) (.lst []):=by
 refine .mk' λ s F Q E k=>?_;obtain⟨v,q1,q2⟩:=F.vars i x _ hx hv;have q:=F.ok.dbg x (A6 hx);obtain rfl:=Rp.p0 q2;obtain⟨e1,_,_,_,e5⟩:=F.fix L _ h1;refine T7 (q1.load F.ok.fn q.2 (k _ s (M4 s) (Rp.lst' (n:=0) (vs:=[]) ?_ Z8))) q.1;rw[hid_some];refine⟨λ hm=>?_,e1⟩
 cases f with
 |true=>exact(G1.mp hm).elim hK e5
 |false=>exact hK hm
theorem ygn {l:List D}: ∀(s:A8) (K:List Addr) v,Rp (hid K s.heap) (.lst l) v->s.TypeIs v "list":=λ s K v r=>by
 obtain⟨a,o,vs,rfl,ho,⟨n,rfl⟩,_⟩:=r.lst_inv;rw[hid_some] at ho;exact⟨_,ho.2,rfl⟩
theorem Wx.setH {sf y:Str}{p ap q ps:Pos}(i j:Nat)(hh:c.A.handled=none)(hx:c.nm[i]? =some sf)(hv:V[i]? =some (some (.ptr I)))(hy:c.nm[j]? =some y)(hw:V[j]? =some (some (.ptr L)))(hfx:H.fix=[(I,zpk Dd),(Dd,zdi),(L,M8 [] 0)])(hID:Dd≠I)(hLI:L≠I)(hLD:L≠Dd)
 (lI:OkW c I)(lD:OkW c Dd)(h: ∀ox od,Tbl I Dd L ox od->Wx G0 w c ⟨H.own,[(I,ox),(Dd,od),(L,M8 [] 0)],H.gen⟩ V rest P E)
 (hs:U6 (.Name y q) (some (.Attribute (.Name sf p) "_headers" ap)) ps.line c.env=pure false:=by rfl):
 Wx G0 w c H V (.Assign [.Attribute (.Name sf p) "_headers" ap] (.Name y q) ps::rest) P E:=by
 refine⟨λ s F=>?_⟩;obtain⟨v1,a1,a2⟩:=F.vars i sf _ hx hv;obtain⟨v2,b1,b2⟩:=F.vars j y _ hy hw;obtain rfl:=Rp.p0 a2;obtain rfl:=Rp.p0 b2;have d1:=F.ok.dbg sf (A6 hx);have d2:=F.ok.dbg y (A6 hy);refine E8 (plainObj_wpAny_Assign_Attribute (T7 (b1.load F.ok.fn d2.2 (T7 (a1.load F.ok.fn d1.2 ?_) d1.1)) d2.1) hs);obtain⟨gI,nI,cI,xI,oI⟩:=F.fix I (zpk Dd) (by rw[hfx];simp)
 obtain⟨gD,nD,cD,xD,oD⟩:=F.fix Dd zdi (by rw[hfx];simp)
 obtain⟨gL,nL,cL,xL,oL⟩:=F.fix L (M8 [] 0) (by rw[hfx];simp)
 obtain⟨mN,hc,_,_,_,_,_,_,q0,_,_,q2,_⟩:=zlz F.gnd;refine Q4 ?_;have inst0:s.heap.Inst I 269 λ m=>none:=⟨_,gI,rfl,(λ c=>by simp),.inr ⟨Dd,rfl,hID,Heap.Ns1.of_empty ⟨_,#[],_,gD,rfl,(λ e he=>absurd he (by simp)),λ m=>rfl⟩⟩⟩
 have hI9:I≠269:=λ e=>by
  obtain⟨nm,q,bs,sn,sub,col,dd,k0,k1,k2,k3,k5,hC⟩:=hc.obj;rw[e,hC] at gI;cases gI
 have F':=F;obtain⟨hp,gg,d,t,os⟩:=s;obtain⟨nm,q,bs,sn,sub,col,dd,k0,k1,k2,k3,k5,hC⟩:=hc.obj;refine store_attr PySem.F.store_object hC hc.ns q0 q2 zjf hI9 inst0 (λ h' tk' I' hk hsame=>λ hz=>?_) Within.nil (by decide)
 obtain⟨ox,x1,x2,x3,x4,x5⟩:=hsame _ gI;obtain⟨o',y1,y2,y3,y4⟩:=I';rw[x1] at y1;cases y1;have hd:=x5 Dd rfl;rcases y4 with⟨z,_⟩|⟨d',z1,z2,z3⟩
 ·rw[hd] at z;cases z
 rw[hd] at z1;cases z1;obtain⟨od,es,ep,w1,w2,w3⟩:=z3;have T:Tbl I Dd L ox od:=⟨λ hh e1 e2=>⟨ox,e1,y2,y3,.inr ⟨Dd,hd,z2,⟨od,es,ep,e2,w2,w3⟩⟩⟩,(λ v e=>by rw[x3] at e;cases e),(λ⟨_,_,e⟩=>by rw[x3] at e;cases e),(λ v e=>by rw[w2] at e;cases e),λ⟨_,_,e⟩=>by rw[w2] at e;cases e⟩
 have keep: ∀b o,b∉[I,Dd]->hp.get? b=some o->h'.get? b=some o:=λ b o hb e=>by
  simp only[B9,D6,or_false,not_or] at hb;refine hk b o hb.1 (λ o₀ dx e1 e2=>?_) e;have e1:some (zpk Dd)=some o₀:=gI.symm.trans e1
  cases e1;cases e2;exact hb.2
 refine(h ox od T).h _ (F'.step (W:=[I,Dd]) (gw:=[]) (lim:=hp.objs.size) ⟨F'.go.size,(λ a e=>by rw[hh] at e;cases e),(λ b o hb m e=>keep b o hb e),(λ a ha=>?_),(λ a ha o e=>?_),hz,(λ m m m e=>e),(λ m m e=> .inl e),rfl,(λ i hi=>nomatch hi),(λ a m e=>by rw[hh] at e;cases e)⟩ rfl (λ a d' h=> .inl ⟨λ q=>?_,h⟩) (λ a o h=>?_) λ p hp=> .inl ⟨λ h=>(nomatch h),hp⟩)
 ·simp only[B9,D6,or_false] at ha
  rcases ha with rfl|rfl
  ·exact lI
  ·exact lD
 ·simp only[B9,D6,or_false] at ha
  rcases ha with rfl|rfl
  ·have e:some (zpk Dd)=some o:=gI.symm.trans e
   cases e;exact⟨.inl (λ vs e=>by cases e),(λ v e=>by cases e),xI,λ⟨_,_,e⟩=>by cases e⟩
  ·have e:some zdi=some o:=gD.symm.trans e
   cases e;exact⟨.inl (λ vs e=>by cases e),(λ v e=>by cases e),xD,λ⟨_,_,e⟩=>by cases e⟩
 ·have hm:=I4 (f:=(·.1)) h
  simp only[B9,D6,or_false] at q;rcases q with rfl|rfl
  ·exact oI hm
  ·exact oD hm
 ·simp only[B9,D6,or_false] at h
  rcases h with e|e|e
  ·cases e;exact .inr ⟨x1,nI,T.x1,xI,oI⟩
  ·cases e;exact .inr ⟨w1,nD,T.d1,xD,oD⟩
  ·cases e
   refine .inl ⟨λ hm=>?_,by rw[hfx];simp,.inl (C6 gL)⟩
   simp only[B9,D6,or_false] at hm;exact hm.elim hLI hLD
end
section
variable{w:E3}{I Dd L:Addr}
theorem yaj {s:A8}(ho:s.heap.get? 156=some (R4 [.none] 0))(v1 v2:Value):BindsTo s FIni.fd ⟨[v1,v2],[]⟩ [("self",v1),("headers",v2)]:=
 zj7 (T:=156) rfl ho rfl rfl rfl
theorem ycz {A:H2}{K:List Addr}{b s:A8}(hh:A.handled=none)(rm:Rm A 2)(gnd:Gnd0 G0 s.heap)(tb:Tb s.heap)(gndB:Gnd0 G0 b.heap)(tbB:Tb b.heap)(go:Go b s)(klB: ∀a∈K,a<b.heap.objs.size)
 (hI:s.heap.get? I=some (zpk Dd))(hD:s.heap.get? Dd=some zdi)(hL:s.heap.get? L=some (M8 [] 0))(n1:I≠82/\I≠89)(n2:Dd≠82/\Dd≠89)(n3:L≠82/\L≠89)(hID:Dd≠I)(hLI:L≠I)(hLD:L≠Dd)
 (zI:b.heap.objs.size<=I)(zD:b.heap.objs.size<=Dd)(zL:b.heap.objs.size<=L){Q E:Value->A8->Prop}
 (k: ∀ox od s',Go b s'->Tbl I Dd L ox od->s'.heap.get? I=some ox->s'.heap.get? Dd=some od->s'.heap.get? L=some (M8 [] 0)->Q .none s'):D0 (D1 pw w) A (call (.ref 163) [.ref I,.ref L]) Q E s:=by
 have h156:s.heap.get? 156=some (R4 [.none] 0):=(gnd.ob _ (A6 (i:=2) rfl)).1;have hLK:L∉K:=λ h=>absurd (klB L h) (D7.mpr zL);refine zmo (w:=w) FIni yf4 (l:=2) (b:=b) (ow:=[]) (fx:=[(I,zpk Dd),(Dd,zdi)]) (wr:=[]) (dk:=[]) (V:=[some (.ptr I),some (.ptr L),none,none]) (K:=K) (by omega) rm gnd tb (HdA.none hh) gndB tbB go.toW klB (λ a h=>nomatch h) (λ p h=>nomatch h) (λ p h=>nomatch h) ⟨(λ a ds h=>nomatch h),U7⟩
  (λ p hp=>?_) (λ p hp=>?_) (λ M A' E' Q' h=>yaj h156 _ _ M A' E' Q' (h s _ (M4 s) ?_)) λ Lo s2 F2 g2=>?_
 ·simp only[B9,D6,or_false] at hp
  rcases hp with rfl|rfl
  ·exact⟨hI,n1⟩
  ·exact⟨hD,n2⟩
 ·simp only[B9,D6,or_false] at hp
  rcases hp with rfl|rfl
  ·exact⟨(λ v e=>by cases e),λ⟨_,_,e⟩=>by cases e⟩
  ·exact⟨(λ v e=>by cases e),λ⟨_,_,e⟩=>by cases e⟩
 ·exact zg3 (by show([("self":Str),"headers"]:List Str).Nodup;decide+kernel) (.cons rfl (.cons rfl (.nil (wk0 (wk0 wkE)))))
 have W:Wx G0 w (FIni.cxw (A.deeper (H3 FIni.fd Lo FIni.f)) (H3 FIni.fd Lo FIni.f) b K [] [] 0) ⟨[],[(I,zpk Dd),(Dd,zdi),(L,M8 [] 0)],[]⟩ [some (.ptr I),some (.ptr L),none,none] FIni.body
  (λ f s'=>(∃ox od,Go b s'/\Tbl I Dd L ox od/\s'.heap.get? I=some ox/\s'.heap.get? Dd=some od/\s'.heap.get? L=some (M8 [] 0))/\(match f with| .ret v=>v|_=> .none)= .none) (λ z z=>False):=by
  refine I9 1 (show 1<4 by decide) rfl (Ev.ite (d:= .ptr L) (O5 (B4 1 rfl rfl) zaq (zmp (by simp))) (λ z=>B4 1 rfl rfl) λ h=>by cases h) ?_
  refine W3 (Ts.typeIsNot (G7 0 rfl) (G7 1 rfl) (B8 (Ev.fixL 1 rfl rfl (by simp) hLK) D9) ygn) (λ h=>by cases h) λ z=>?_
  refine Wx.setH 0 1 hh rfl rfl rfl rfl rfl hID hLI hLD (.inl zI) (.inl zD) λ ox od T=>?_;refine W3 (zmj Ev.cbool Tv.bool) (λ z=>?_) λ h=>by cases h
  refine zni (items:=[]) (zgr hh (Ev.fixL 1 rfl rfl (by simp) hLK) zec) (λ k=>[]) (λ k=>[some (.ptr I),some (.ptr L),none,none]) (λ z=>True) rfl rfl trivial (λ k=>rfl) (λ k d hd z fx gn=>by cases hd) λ z=>?_
  refine zbw λ s F=>⟨⟨ox,od,F.go.nil,T,(F.fix I ox (by simp)).1,(F.fix Dd od (by simp)).1,(F.fix L _ (B1 _ (B1 _ A9))).1⟩,rfl⟩
 have eL:s2.heap.get? L=some (M8 [] 0):=g2.keepN tb (.seq ⟨_,_,rfl⟩) hL;have hnl:L≠Lo:=λ e=>by
  obtain⟨mm,oL,es,ep,h1,h2,_⟩:=F2.ns;have:s2.heap.get? Lo=some oL:=h1;rw[<-e,eL] at this;cases this;cases h2
 have F3:=F2.fixadd (a:=L) (o:=M8 [] 0) ⟨eL,n3,(λ v e=>by cases e),hnl,λ h=>nomatch h⟩
 have F4:FrS G0 (FIni.cxw (A.deeper (H3 FIni.fd Lo FIni.f)) (H3 FIni.fd Lo FIni.f) b K [] [] 0) ⟨[],[(I,zpk Dd),(Dd,zdi),(L,M8 [] 0)],[]⟩ [some (.ptr I),some (.ptr L),none,none] s2:={F3 with fix:=λ a o h=>F3.fix a o (by
  simp only[B9,D6,or_false] at h ⊢;rcases h with h|h|h
  ·exact .inr (.inl h)
  ·exact .inr (.inr h)
  ·exact .inl h)}
 refine E7 (W.h s2 F4) (λ f s' h=>?_) λ z z h=>h.elim;obtain⟨⟨ox,od,g,T,e1,e2,e3⟩,e⟩:=h;have fin:=k ox od s' g T e1 e2 e3
 cases f with
 |ret v=>
  have:v= .none:=e;subst this;exact fin
 |_=>exact fin
variable{c:Cx}{H:Hm}{V:List (Option D)}{P:Flow->A8->Prop}{E:Value->A8->Prop}{rest:List Stmt}
theorem Wx.mkTbl {x:Str}{np p lp cp ps:Pos}(i:Nat)(hh:c.A.handled=none)(hi:i<c.ns)(hx:c.nm[i]? =some x)(hf:Nv G0 w c (.Name "Headers" np) (.ref 269))(hl:4<=c.lv+1)
 (h: ∀I Dd L ox od,Tbl I Dd L ox od->OkW c L->c.b.heap.objs.size<=I/\c.b.heap.objs.size<=Dd->L∉c.K->Wx G0 w c ⟨(L,[])::H.own,(I,ox)::(Dd,od)::H.fix,H.gen⟩ (V.set i (some (.ptr I))) rest P E)
 (hs:U6 (.Call (.Name "Headers" np) [.List [] lp] [] cp) (some (.Name x p)) ps.line c.env=pure false:=by rfl):
 Wx G0 w c H V (.Assign [.Name x p] (.Call (.Name "Headers" np) [.List [] lp] [] cp) ps::rest) P E:=by
 refine⟨λ s F=>E8 (V3 (L0 (hf.h H V s F _ _ ?_)) hs)⟩;obtain⟨mN,hc,hini,_⟩:=zlz F.gnd;refine callWith_cls (h₀:=s.heap) hc (K6 (wpAny_List (S9 ⟨by decide,S9 ⟨λ b o e=>C3 _ e,?_⟩⟩)))
 have hL0:(s.heap.push (M8 [] 0)).get? s.heap.objs.size=some (M8 [] 0):=D8 _ rfl;have g1:=Z0 s (M8 [] 0);have F1:=F.onto g1;generalize hLa:s.heap.objs.size=L at hL0 ⊢;show D0 _ _ (call (.ref 269) [.ref L]) _ _ {s with heap:=s.heap.push (M8 [] 0)};have gnd1:=F1.gnd;have tb1:=F1.tb;have z1:(s.heap.push (M8 [] 0)).objs.size=L+1:=by rw[<-hLa];exact G8 ..
 generalize hs1:({s with heap:=s.heap.push (M8 [] 0)}:A8)=s1 at*;have hz1:s1.heap.objs.size=L+1:=by rw[<-hs1];exact z1
 have hL1:s1.heap.get? L=some (M8 [] 0):=by rw[<-hs1];exact hL0
 obtain⟨mN,hc,hini,_⟩:=zlz gnd1;obtain⟨nm,q,bs,sn,sub,col,dd,k0,k1,k2,k3,k5,hC⟩:=hc.obj;have hfI:=gnd1.fn _ (A6 (i:=12) rfl);have g2:=Z0 s1 zdi;have g3:=Z0 {s1 with heap:=s1.heap.push zdi} (zpk s1.heap.objs.size);have z2:(s1.heap.push zdi).objs.size=L+2:=by rw[G8,hz1]
 have gg:=(g2.trans g3);have go:=g1.trans gg;have eD:((s1.heap.push zdi).push (zpk s1.heap.objs.size)).get? s1.heap.objs.size=some zdi:=C3 _ (D8 _ rfl);have eI:((s1.heap.push zdi).push (zpk s1.heap.objs.size)).get? (s1.heap.objs.size+1)=some (zpk s1.heap.objs.size):=by
  have:(s1.heap.push zdi).objs.size=s1.heap.objs.size+1:=G8 ..;rw[<-this];exact D8 _ rfl
 have eL:((s1.heap.push zdi).push (zpk s1.heap.objs.size)).get? L=some (M8 [] 0):=C3 _ (C3 _ hL1);have tb3:=gg.tab tb1;have big: ∀a,L<=a->a≠82/\a≠89:=λ a ha=>by
  have:=F.tb.1;rw[hLa] at this;constructor<;>(intro e;subst e;omega)
 generalize hDd:s1.heap.objs.size=Dd at*;have hDL: @Eq Nat Dd (L+1):=hz1;have hsL: @Eq Nat s.heap.objs.size L:=hLa;have nIL:Dd+1≠L:=λ e=>by have e: @Eq Nat (Dd+1) L:=e;omega
 have nDL:Dd≠L:=λ e=>by have e: @Eq Nat Dd L:=e;omega
 have nDI:Dd≠Dd+1:=λ e=>by have e: @Eq Nat Dd (Dd+1):=e;omega
 have lLD: @LE.le Nat _ L Dd:=by omega
 have lLI: @LE.le Nat _ L (Dd+1):=by omega
 refine zzi hC hc.ns hini hfI rfl ?_;rw[hDd];have rm:=F.ok.rm.le hl;refine ycz (A:=c.A.under (.builtin "type.__call__" ⟨[.ref 269,.ref L],[]⟩)) (b:=s) (K:=c.K) (I:=Dd+1) (Dd:=Dd) (L:=L) hh ⟨?_,?_⟩ (gnd1.go gg tb1) tb3 F.gnd F.tb go (λ a ha=>C9 (F.ok.kl a ha) F.go.size) eI eD eL (big _ lLI) (big _ lLD) (big _ (D2 _)) nDI (U8 nIL) (U8 nDL) (by rw[hLa];exact lLI) (by rw[hLa];exact lLD) (by rw[hLa];exact D2 _) λ ox od s' g T e1 e2 e3=>⟨rfl,?_⟩
 ·show c.A.depth+1+2<=600
  have:=rm.1;omega
 ·show c.A.units+1+20*2<=9000
  have:=rm.2;omega
 ·have hloc:c.env.locals<L:=by
   obtain⟨mm,oL,es,ep,h1,_⟩:=F.ns;rw[<-hLa];exact C6 h1
  have hown: ∀a,L<=a->a≠L->a∉((L,([]:List D))::H.own).map (·.1):=λ a ha hne hm=>by
   rcases B9.mp hm with e|hm
   ·exact hne e
   ·obtain⟨⟨a',ds⟩,hp,rfl⟩:=C5.mp hm
    obtain⟨o,vs,h1,_⟩:=F.own a' ds hp;have:=C6 h1;rw[hLa] at this;exact absurd this (D7.mpr ha)
  have FN:=F.newown (a:=L) (ds:=[]) (vs:=[]) (n:=0) g (by rw[hLa];exact D2 _) e3 Z8
  have FD:=FN.fixadd (a:=Dd) (o:=od) ⟨e2,big _ lLD,T.d1,(λ e=>H8 _ (C9 (e▸hloc) lLD)),hown _ lLD nDL⟩;have FI:=FD.fixadd (a:=Dd+1) (o:=ox) ⟨e1,big _ lLI,T.x1,(λ e=>H8 _ (C9 (e▸hloc) lLI)),hown _ lLI nIL⟩;exact FI.store (d:= .ptr (Dd+1)) i hi hx rfl λ s2 F2 z=>(h (Dd+1) Dd L ox od T (.inl (by rw[<-hLa];exact F.go.size)) ⟨A7 (by rw[<-hLa];exact F.go.size) lLI,A7 (by rw[<-hLa];exact F.go.size) lLD⟩ (λ hm=>absurd (F.ok.kl L hm) (D7.mpr (by rw[<-hLa];exact F.go.size)))).h s2 F2
end
structure Hdr (h:P9)(K:List Addr)(I Dd L:Addr)(ox od:Obj)(rows:List D):Prop where
 tbl:Tbl I Dd L ox od
 gI:h.get? I=some ox/\I≠82/\I≠89
 gD:h.get? Dd=some od/\Dd≠82/\Dd≠89
 vL:Rp (hid K h) (.lst rows) (.ref L)
noncomputable def yh7 (c:Cx)(d:D)(f:Flow)(s':A8):Prop:=Go c.b s'/\Rp (hid c.K s'.heap) d (match f with| .ret v=>v|_=> .none)/\ ∀a,(match f with| .ret v=>v|_=> .none)= .ref a->c.b.heap.objs.size<=a
structure FnH (n:Bool)(w:E3)(l:Nat)(f:Addr)(I Dd L:Addr)(ox od:Obj)(rows:List D)(ds:List D)(d:D):Prop where
 h: ∀A K s vs,Rm A l->(n=true->A.handled=none)->Ok G0 A K s->Hdr s.heap K I Dd L ox od rows->RpL (hid K s.heap) ds vs-> ∀(Q E:Value->A8->Prop),
  (∀v s',Go s s'->Rp (hid K s'.heap) d v->(∀a,v= .ref a->s.heap.objs.size<=a)->Q v s')->D0 (D1 pw w) A (call (.ref f) (.ref I::vs)) Q E s
section
variable{w:E3}{I Dd L:Addr}{ox od:Obj}{rows:List D}
theorem FnH.intro {n:Bool}(Δ:Fd)(hD:FokB G0 Δ){l:Nat}{ds:List D}{d:D}{V:List (Option D)}(hl:2<=l)
 (bind: ∀(A:H2) K s vs,Ok G0 A K s->RpL (hid K s.heap) ds vs-> ∃binds,BindsTo s Δ.fd ⟨.ref I::vs,[]⟩ binds/\Bnd Δ V K binds s)
 (h: ∀A env b K lv,lv+2=l->(n=true->A.handled=none)->env.scope=Δ.fd.scope->Hdr b.heap K I Dd L ox od rows->Wx G0 w (Δ.cxw A env b K [] [] lv) ⟨[],[(I,ox),(Dd,od)],[]⟩ V Δ.body (yh7 (Δ.cxw A env b K [] [] lv) d) (λ z z=>False)):FnH n w l Δ.f I Dd L ox od rows ds d:=by
 refine⟨λ A K s vs rm hh ok hd rv Q E k=>?_⟩;obtain⟨binds,hb,bn⟩:=bind A K s vs ok rv;refine zmo (w:=w) Δ hD (l:=l) (b:=s) (ow:=[]) (fx:=[(I,ox),(Dd,od)]) (wr:=[]) (dk:=[]) (V:=V) (K:=K) hl rm ok.gnd ok.tb ok.hd ok.gnd ok.tb (zj5 s) ok.kl (λ a h=>nomatch h) (λ p h=>nomatch h) (λ p h=>nomatch h) ⟨(λ a ds h=>nomatch h),U7⟩ (λ p hp=>?_) (λ p hp=>?_)
  (λ M A' E' Q' hq=>hb M A' E' Q' (hq s _ (M4 s) ?_)) λ Lo s2 F2 g2=>?_
 ·simp only[B9,D6,or_false] at hp
  rcases hp with rfl|rfl
  ·exact hd.gI
  ·exact hd.gD
 ·simp only[B9,D6,or_false] at hp
  rcases hp with rfl|rfl
  ·exact⟨hd.tbl.x1,hd.tbl.x2⟩
  ·exact⟨hd.tbl.d1,hd.tbl.d2⟩
 ·rw[show K++([]:List (Addr×List D)).map (·.1)=K by simp]
  exact bn
 exact E7 ((h (A.deeper (H3 Δ.fd Lo Δ.f)) (H3 Δ.fd Lo Δ.f) s K (l-2) (by omega) hh rfl hd).h s2 F2) (λ f s' h=>k _ s' h.1 h.2.1 h.2.2) λ z z h=>h.elim
variable{c:Cx}{H:Hm}{V:List (Option D)}{P:Flow->A8->Prop}{E:Value->A8->Prop}{rest:List Stmt}
theorem Ev.hdr {f:Bool}{sf:Str}{p ap:Pos}(i:Nat)(hx:c.nm[i]? =some sf)(hv:V[i]? =some (some (.ptr I)))(hd:Hdr c.b.heap c.K I Dd L ox od rows)(h1:(I,ox)∈H.fix)(h2:(Dd,od)∈H.fix)(hown:H.own=[])(hwr:c.wr=[])
 (ht: ∀o r,zmv (.Name sf p) o r=pure ():=by intro _ _;rfl):Ev G0 w c H V f (.Attribute (.Name sf p) "_headers" ap) (.lst rows):=by
 refine .mk' λ s F Q E k=>zoh F i hx hv hd.tbl h1 h2 (λ s' g=>k _ s' g ?_) ht;have hg:Go c.b s:=by have:=F.go;rw[hwr] at this;exact this.nil
 have:=(hd.vL.go hg F.ok.tb).go g F.tb;have e:hk c H f=c.K:=by unfold hk;rw[hown];cases f<;>simp
 rw[e];exact this
theorem Wx.retM {G:Gt}{f:Bool}{e:Expr}{ps:Pos}{ds:List D}(he:Nl G w c H V f e ds)(h: ∀a s,FrS G c H V s->c.b.heap.objs.size<=a->Rp (hid (hk c H f) s.heap) (.lst ds) (.ref a)->P (.ret (.ref a)) s):Wx G w c H V (.Return (some e) ps::rest) P E:=by
 refine⟨λ s F=>E8 (zgu (he.h s F _ _ λ a s1 vs n g ha e1 r=>?_))⟩;refine h a s1 (F.onto g) (A7 F.go.size ha) (Rp.lst' (n:=n) ?_ (r.sub λ b hb=>B1 _ hb));rw[hid_some];exact⟨λ hm=>absurd ((F.okS f).kl a hm) (D7.mpr ha),e1⟩
theorem Nl.copy {f:Bool}{value:Expr}{p pos:Pos}{l:List D}(h:Ev G0 w c H V f value (.lst l))(hz:l.length<=H5):Nl G0 w c H V f (.Subscript value (.Slice none none none p) pos) l:=
 zmk (lo:=none) (hi:=none) h Pt.none Pt.none hz ⟨(λ a h=>by cases h),(λ a h=>by cases h),.inl rfl⟩
end
noncomputable abbrev zj9 (l:List (Str×Str)):List D:=l.map λ p=> .tup [.str p.1,.str p.2]
noncomputable def yhf (nm:Str):D->Bool
 | .tup (.str k::_)=>P1 k==nm
 |_=>false
noncomputable def yd6:D->D
 | .tup [_,v]=>v
 |_=> .none
structure KeyOk (x:Str):Prop where
 t:R2 (P1 x).length=false
 z:(P1 x).length<=10000
noncomputable def zij (rows:List (Str×Str))(nm:Str):List Str:=(rows.filter λ p=>P1 p.1==P1 nm).map (·.2)
noncomputable def yc2 (rows:List (Str×Str))(nm:Str):Option Str:=(rows.find? λ p=>P1 p.1==P1 nm).map (·.2)
noncomputable def FGal:Fd where
 f:=208
 c:=207
 fd:=yfg
 ps:=["self","name"]
 nm:=["self","name"]
 kl:=[false,true]
 gn:=[]
theorem yf8:FokB G0 FGal:=zkt (gi:=[]) (bj:=[]) rfl (by decide+kernel) (A6 (i:=14) rfl) (A6 (i:=14) rfl) rfl rfl ⟨rfl,rfl,rfl,rfl,rfl,rfl⟩
noncomputable def FGet:Fd where
 f:=216
 c:=215
 fd:=yff
 ps:=["self","name","default"]
 nm:=["self","name","default","k","v"]
 kl:=[false,false,false,false,false]
 gn:=[]
theorem yf7:FokB G0 FGet:=zkt (gi:=[]) (bj:=[]) rfl (by decide+kernel) (A6 (i:=15) rfl) (A6 (i:=15) rfl) rfl rfl ⟨rfl,rfl,rfl,rfl,rfl,rfl⟩
noncomputable def FItm:Fd where
 f:=233
 c:=232
 fd:=yfc
 ps:=["self"]
 nm:=["self"]
 kl:=[false]
 gn:=[]
theorem yf3:FokB G0 FItm:=zkt (gi:=[]) (bj:=[]) rfl (by decide+kernel) (A6 (i:=16) rfl) (A6 (i:=16) rfl) rfl rfl ⟨rfl,rfl,rfl,rfl,rfl,rfl⟩
section
variable{w:E3}{I Dd L:Addr}{ox od:Obj}{rows:List (Str×Str)}
theorem zzy {rows:List D}(hz:rows.length<=1000):FnH false w 2 233 I Dd L ox od rows [] (.lst rows):=by
 refine FnH.intro FItm yf3 (V:=[some (.ptr I)]) (by omega) (λ A K s vs ok r=>?_) λ A env b K lv hlv hh hsc hd=>?_
 ·obtain rfl:=r.i0
  exact⟨[("self",.ref I)],zgt rfl,zg3 (by simp) (.cons rfl (.nil wkE))⟩
 ·have hsl:H5=16777216:=by decide
  refine Wx.retM (Nl.copy (Ev.hdr (f:=true) (I:=I) 0 rfl rfl hd (by simp) (by simp) rfl rfl) (by omega)) λ a s F ha r=>⟨F.go.nil,?_,λ a' e=>by cases e;exact ha⟩
  have e:hk (FItm.cxw A env b K [] [] lv) ⟨[],[(I,ox),(Dd,od)],[]⟩ true=K:=by show K++[]=K;simp
  rw[e] at r;exact r
theorem zum {name:Str}(hz:rows.length<=1000)(hk1: ∀p∈rows,KeyOk p.1)(hn:KeyOk name)(hc:zc7 true (P1 name)):FnH true w 4 208 I Dd L ox od (zj9 rows) [.str name] (.lst ((zij rows name).map D.str)):=by
 refine FnH.intro FGal yf8 (V:=[some (.ptr I),some (.str name)]) (by omega) (λ A K s vs ok r=>?_) λ A env b K lv hlv hh hsc hd=>?_
 ·obtain⟨v,rfl,rv⟩:=zc0 r
  exact⟨[("self",.ref I),("name",v)],zgt rfl,zg3 (by show([("self":Str),"name"]:List Str).Nodup;decide+kernel) (.cons rfl (.cons rv (.nil wkE)))⟩
 ·have hsl:H5=16777216:=by decide
  have z1:=hn.z;refine I9 1 (show 1<2 by decide) rfl (Ev.conv (I:=I) 0 rfl rfl hd.tbl (by simp) (by simp) (B8 (zh3 M6 za8 zc1 (B4 1 rfl rfl) D9 (Me.lower hn.t (by omega))) D9) (by omega) hc (by show 2<=lv+1;omega)) ?_
  have eq1:((zj9 rows).filter (yhf (P1 name))).map yd6=(zij rows name).map D.str:=by
   unfold zj9 zij;rw[zfc,E6,E6];rfl
  refine Wx.retM (za9 (lo:=["kv"]) (kx:=[false]) (fr:=[1]) (yhf (P1 name)) yd6 (zbu (gj:=[]) (by show zii FGal.nm FGal.kl (FGal.gn.map (·.1)) _ _ _ _ _=true;decide+kernel)) (zgr (hh rfl) (Ev.hdr (I:=I) 0 rfl rfl hd (by simp) (by simp) rfl rfl) zec) rfl (by rw[B5];omega) ?_) λ a s F ha r=>⟨F.go.nil,?_,λ a' e=>by cases e;exact ha⟩
  ·intro L' b' d hd' Da acc fx gs
   obtain⟨p,hp,rfl⟩:=C5.mp hd';have hk2:=hk1 p hp;have z2:=hk2.z;exact⟨Tl.one (O5 (zh3 M6 za8 zc1 (O1 (B4 0 rfl rfl) D5 (Gi.tup (by decide) rfl (by simp))) D9 (Me.lower hk2.t (by omega))) (B4 1 rfl rfl) Cm.eqS),λ y=>O1 (B4 0 rfl rfl) D5 (Gi.tup (by decide) rfl (by simp))⟩
  ·rw[eq1] at r
   have e:hk (FGal.cxw A env b K [] [] lv) ⟨[],[(I,ox),(Dd,od)],[]⟩ true=K:=by show K++[]=K;simp
   rw[e] at r;exact r
end
theorem ydf {α:Type}{t:α->Bool}{l:List α}: ∀{i:Nat} {p:α},l[i]? =some p->(∀q∈l.take i,t q=false)->t p=true->l.find? t=some p:=by
 induction l with
 |nil=>intro i p h;cases h
 |cons x r ih=>
  intro i p h n e
  cases i with
  |zero=>obtain rfl:x=p:=Q8 h;rw[List.find?_cons,e]
  |succ i=>
   rw[List.find?_cons,n x A9];exact ih h (λ q hq=>n q (B1 _ hq)) e
theorem yde {α:Type}{t:α->Bool}{l:List α}(n: ∀q∈l.take l.length,t q=false):l.find? t=none:=by
 rw[V5] at n;exact List.find?_eq_none.mpr λ x hx=>by rw[n x hx];exact N4
section
variable{w:E3}{I Dd L:Addr}{ox od:Obj}{rows:List (Str×Str)}
theorem yak {s:A8}(ho:s.heap.get? 209=some (R4 [.none] 0))(v1 v2:Value):BindsTo s FGet.fd ⟨[v1,v2],[]⟩ [("self",v1),("name",v2),("default",.none)]:=
 zj7 (T:=209) rfl ho rfl rfl rfl
theorem fn_get {name:Str}(hz:rows.length<=1000)(hk1: ∀p∈rows,KeyOk p.1)(hn:KeyOk name)(hc:zc7 true (P1 name)):FnH true w 4 216 I Dd L ox od (zj9 rows) [.str name] (zlc (yc2 rows name)):=by
 refine FnH.intro FGet yf7 (V:=[some (.ptr I),some (.str name),some .none,none,none]) (by omega) (λ A K s vs ok r=>?_) λ A env b K lv hlv hh hsc hd=>?_
 ·obtain⟨v,rfl,rv⟩:=zc0 r
  have h209:s.heap.get? 209=some (R4 [.none] 0):=(ok.gnd.ob _ (A6 (i:=3) rfl)).1;exact⟨[("self",.ref I),("name",v),("default",.none)],yak h209 _ _,zg3 (by show([("self":Str),"name","default"]:List Str).Nodup;decide+kernel) (.cons rfl (.cons rv (.cons rfl (.nil (wk0 (wk0 wkE))))))⟩
 ·have hsl:H5=16777216:=by decide
  have z1:=hn.z;have hlen:(zj9 rows).length=rows.length:=B5 ..;refine I9 1 (show 1<5 by decide) rfl (Ev.conv (I:=I) 0 rfl rfl hd.tbl (by simp) (by simp) (B8 (zh3 M6 za8 zc1 (B4 1 rfl rfl) D9 (Me.lower hn.t (by omega))) D9) (by omega) hc (by show 2<=lv+1;omega)) ?_
  refine zni (items:=zj9 rows) (zgr (hh rfl) (Ev.hdr (I:=I) 0 rfl rfl hd (by simp) (by simp) rfl rfl) zec) (λ k=>[]) (λ k=>[some (.ptr I),some (.str (P1 name)),some .none,none,none]) (λ k=> ∀q∈rows.take k,(P1 q.1==P1 name)=false) rfl rfl (by simp) (λ k=>rfl) (λ k d hd' hl fx gn=>?_) λ hl=>?_
  ·rw[B7] at hd'
   obtain⟨p,hp,rfl⟩:=zda.mp hd';have hk2:=hk1 p (A6 hp);have z2:=hk2.z;refine⟨_,zgp (nb:=true) (λ y=>hh rfl) 3 4 (show 3<5 by decide) rfl (show 4<5 by decide) rfl,?_⟩
   refine W3 (p:=P1 p.1==P1 name) (O5 (zh3 M6 za8 zc1 (B4 3 rfl rfl) D9 (Me.lower hk2.t (by omega))) (B4 1 rfl rfl) Cm.eqS) (λ e=>?_) λ e=>?_
   ·refine za3 (d:= .str p.2) (B4 4 rfl rfl) λ v s F r=>⟨F.go.nil,?_,λ a q=>?_⟩
    ·unfold yc2
     rw[ydf hp hl e];obtain⟨t,rfl⟩:=r.str_inv;exact .str'
    ·obtain⟨t,rfl⟩:=r.str_inv
     cases q
   ·refine zbw λ s F=>⟨λ q hq=>?_,F.weak λ j d' h=>?_⟩
    ·rw[P4,hp] at hq
     rcases G1.mp hq with hq|hq
     ·exact hl q hq
     ·simp at hq;subst hq;exact e
    ·exact wkS (wkS (wkS (wkN (wkN wkE)))) j _ h
  ·rw[hlen] at hl
   refine za3 (d:= .none) (B4 2 rfl rfl) λ v s F r=>⟨F.go.nil,?_,λ a q=>?_⟩
   ·unfold yc2
    rw[yde hl];obtain rfl:=(show v=M7 from r)
    exact rfl
   ·obtain rfl:=(show v=M7 from r)
    cases q
end
section
variable{G:Gt}{w:E3}{c:Cx}{H:Hm}{V:List (Option D)}{S:List Addr}{outer:List Env}{cls:String}{e:Addr}{a0:Value}{ta:Option (List Value)}{fl:Value}{r s':A8}
theorem Thr.keep (T:Thr S outer cls e a0 ta fl r s'){a:Addr}{o:Obj}(ha:a∉S)(h:r.heap.get? a=some o):s'.heap.get? a=some o:=
 T.fly.stays a o (by rw[zg4 ha];exact h)
theorem FrS.land (F:FrS G c H V r)(T:Thr S outer cls e a0 ta fl r s')(hb: ∀a∈S,c.b.heap.get? a=none)(hfx: ∀p∈H.fix,p.1∉S)(hdk: ∀p∈c.dk,∀vs,p.2.data≠ .fields vs)
 {A':H2}(rm:Rm A' (c.lv+1))(hd:HdA A' s'.heap):FrS G {c with A:=A'} H V s':=by
 have dc: ∀{a:Addr} {o:Obj},r.heap.get? a=some o->(∀es ep,o.data≠ .dict es ep)->a∉S:=λ{a o} h hn hm=>by
  obtain⟨o',es,ep,h1,h2⟩:=T.dct a hm;rw[h] at h1;cases h1;exact hn _ _ h2
 have rp: ∀K b o,Sq o->hid K r.heap b=some o->hid K s'.heap b=some o:=by
  intro K b o hq q;rw[hid_some] at q ⊢;refine⟨q.1,T.keep (dc q.2 λ es ep q'=>?_) q.2⟩;obtain⟨_,_,q''⟩:=hq;rw[q''] at q';cases q'
 have cell: ∀{a:Addr} {v:Option Value},r.heap.IsCell a v->s'.heap.IsCell a v:=λ{a v} ⟨o,h1,h2⟩=>⟨o,T.keep (dc h1 λ es ep q=>by rw[h2] at q;cases q) h1,h2⟩
 refine{ok:=⟨rm,F.ok.fn,F.ok.gl,F.ok.bi,F.ok.lo,F.ok.nd,F.ok.dbg,F.ok.apart,F.ok.own,F.ok.sto,F.ok.kd,F.ok.gns,F.ok.gnd,F.ok.tb,F.ok.kl,F.ok.wrq,F.ok.dkq⟩,go:=?_,ns:=?_,vars:=?_,own:=?_,olo:=F.olo,ond:=F.ond,fix:=?_,gen:=?_,cells:=?_,hdA:=hd,dk:=?_}
 ·refine⟨λ a o h1 h2 h3 q=>T.keep (λ hm=>?_) (F.go.keep a o h1 h2 h3 q),λ t=>?_,A7 F.go.size T.size,λ i x q=>?_,λ i x q=>?_,T.os.trans F.go.os⟩
  ·rw[hb a hm] at q;cases q
  ·exact(F.go.tab t).butW (W:=S) T.size (λ b o hb hn q=>T.keep hb q) λ a ha o q=>by
    obtain⟨o',es,ep,h1,h2⟩:=T.dct a ha;rw[q] at h1;cases h1;exact .inl λ vs q'=>by rw[h2] at q';cases q'
  ·rw[T.gens];exact F.go.gens i x q
  ·rw[T.gens] at q;exact F.go.bare i x q
 ·obtain⟨m,hm⟩:=F.ns
  exact⟨m,T.up.ns hm⟩
 ·intro i x d h1 h2
  obtain⟨v,h3,h4⟩:=F.vars i x d h1 h2;refine⟨v,?_,zeo (rp _) _ _ h4⟩
  cases h3 with
  |loc hk mm hn hm=>exact .loc hk mm (T.up.ns hn) hm
  |cel hk a hc hv=>exact .cel hk a hc (cell hv)
 ·intro a ds h
  obtain⟨o,vs,h1,hL,h2⟩:=F.own a ds h;refine⟨o,vs,T.keep (dc h1 λ es ep q=>?_) h1,hL,za4 (rp _) _ _ h2⟩;obtain⟨_,_,q'⟩:=hL.sq;rw[q'] at q;cases q
 ·intro a o h
  obtain⟨h1,h2⟩:=F.fix a o h;exact⟨T.keep (hfx _ h) h1,h2⟩
 ·intro p h
  rw[T.gens];exact F.gen p h
 ·intro x a h
  obtain⟨v,h1⟩:=F.cells x a h;exact⟨v,cell h1⟩
 ·intro p hp
  obtain⟨sl,h1⟩:=F.dk p hp;obtain⟨sl',h2⟩:=T.up p.1 _ h1 (hdk p hp);exact⟨sl',h2⟩
end
section
variable{G:Gt}{w:E3}{c:Cx}{H:Hm}{V:List (Option D)}{s:A8}{P:Flow->A8->Prop}{E:Value->A8->Prop}{rest:List Stmt}{S:List Addr}{outer:List Env}{cls:String}{e:Addr}{a0:Value}{ta:Option (List Value)}{fl:Value}{r s':A8}
noncomputable abbrev mrk (c:Cx)(e:Addr):Cx:={c with A:=c.A.mark (some (.ref e))}
theorem Thr.hd {A:H2}(T:Thr S outer cls e a0 ta fl r s')(hc:cls≠ "code"):HdA (A.mark (some (.ref e))) s'.heap:=by
 intro v q;obtain⟨oe,vs,Tt,oT,ts,he,hcl,hd,h0,h1,h2,_⟩:=T.fly.ex;have q:some (N0 e)=some v:=q;cases q;exact⟨e,oe,vs,rfl,he,hd,h2,.inr ⟨by rw[hcl];intro q;cases q;exact hc rfl,by rw[hcl];intro q;cases q⟩⟩
theorem FrS.reA {A':H2}(F:FrS G {c with A:=A'} H V s)(rm:Rm c.A (c.lv+1))(hd:HdA c.A s.heap):FrS G c H V s where
 ok:=⟨rm,F.ok.fn,F.ok.gl,F.ok.bi,F.ok.lo,F.ok.nd,F.ok.dbg,F.ok.apart,F.ok.own,F.ok.sto,F.ok.kd,F.ok.gns,F.ok.gnd,F.ok.tb,F.ok.kl,F.ok.wrq,F.ok.dkq⟩
 go:=F.go
 ns:=F.ns
 vars:=F.vars
 own:=F.own
 olo:=F.olo
 ond:=F.ond
 fix:=F.fix
 gen:=F.gen
 cells:=F.cells
 hdA:=hd
 dk:=F.dk
noncomputable def zxm (G:Gt)(c:Cx)(H:Hm)(V:List (Option D))(outer:List Env)(cls:String)(m:Option Str)(v:Value)(s':A8):Prop:=
 ∃e a0 ta S r,v= .ref e/\FrS G c H V r/\Thr S (c.env::outer) cls e a0 ta .none r s'/\(∀x,m=some x-> ∃tk,ta=some [.str x tk])/\(∀a∈S,c.b.heap.get? a=none)/\ ∀p∈H.fix,p.1∉S
theorem ya2 {body orelse:List Stmt}{h₀:ExceptHandler}{hs:List ExceptHandler}{pos:Pos}{m:Option Str}{Q:Flow->A8->Prop}(hfr:c.A.frames=some (c.env::outer))(hf:c.env.frame=some c.env.locals)
 (hb:D0 (D1 pw w) c.A (X5 body c.env) (λ z z=>False) (zxm G c H V outer cls m) s)
 (k: ∀e a0 ta S r s3,FrS G c H V r->Thr S (c.env::outer) cls e a0 ta .none r s3->(∀x,m=some x-> ∃tk,ta=some [.str x tk])->(∀a∈S,c.b.heap.get? a=none)->(∀p∈H.fix,p.1∉S)->D0 (D1 pw w) c.A (handleBy (.ref e) c.env (h₀::hs)) Q E s3):
 D0 (D1 pw w) c.A (exec (.Try body (h₀::hs) orelse [] pos) c.env) Q E s:=by
 refine wpAny_Try_except (E7 hb (λ z z h=>h.elim) λ v s1 h=>?_);obtain⟨e,a0,ta,S,r,rfl,F,T,hm,hS,hx⟩:=h;refine zik hfr hf T.fly λ h1 F1 u1 z1=>?_;have T1:=T.step F1 u1 z1 λ a h=>h;refine zct (x:=none) T1.fly λ h2 F2 u2 z2=>?_;exact k e a0 ta S r _ F (T1.step F2 u2 z2 λ a h=>h) hm hS hx
theorem Wx.tryN {body orelse suite:List Stmt}{b₀:Stmt}{x:Str}{p hp pos:Pos}{V':List (Option D)}(hh:c.A.handled=none)(hfr:c.A.frames=some (c.env::outer))(hf:c.env.frame=some c.env.locals)
 (hexc:ze2 (.type cls) (.type "BaseException")=pure true)(hnt:ze2 (.type ((zn7 cls).elim "type" λ x=>x.metatype)) (.type "tuple")=pure false)(hsub:ze2 (.type cls) (.type cls)=pure true)(hc:cls≠ "code")
 (hdk: ∀p∈c.dk,∀vs,p.2.data≠ .fields vs)(hn: ∀e,Nv G w (mrk c e) (.Name x p) (.type cls))
 (hb: ∀s,FrS G c H V s->D0 (D1 pw w) c.A (X5 body c.env) (λ z z=>False) (zxm G c H V outer cls none) s)
 (hsuite: ∀e,Wx G w (mrk c e) H V (b₀::suite) (λ f s=>f= .next/\FrS G (mrk c e) H V' s) (λ z z=>False))
 (h:Wx G w c H V' rest P E):Wx G w c H V (.Try body [.ExceptHandler (some (.Name x p)) none (b₀::suite) hp] orelse [] pos::rest) P E:=by
 refine⟨λ s F=>E8 (ya2 hfr hf (hb s F) λ e a0 ta S r s3 Fr T z hS hx=>?_)⟩;have rm:Rm (c.A.mark (some (.ref e))) (c.lv+1):=Fr.ok.rm;have F3:FrS G (mrk c e) H V s3:=Fr.land T hS hx hdk rm (T.hd hc);refine wpAny_handleBy_builtin (X:=cls) hexc hnt hsub ((hn e).h H V s3 F3 _ _ ⟨rfl,?_,?_⟩)
 ·obtain⟨oe,_,_,_,_,he,hcl,_⟩:=T.fly.ex
  exact⟨oe,he,hcl⟩
 rw[if_pos rfl];refine zct (x:=none) T.fly λ h4 F4 u4 z4=>?_;have T4:=T.step F4 u4 z4 λ a h=>h;have F5:FrS G (mrk c e) H V _:=Fr.land T4 hS hx hdk rm (T4.hd hc);refine E7 ((hsuite e).h _ F5) (λ f s6 h6=>?_) λ z z h=>h.elim;obtain⟨rfl,F6⟩:=h6;exact h.h s6 (F6.reA Fr.ok.rm (HdA.none hh))
theorem FrS.fixsub {H':Hm}(F:FrS G c H V s)(ho:H'.own=H.own)(hg:H'.gen=H.gen)(hf: ∀p∈H'.fix,p∈H.fix):FrS G c H' V s:=by
 have hkk:hk c H' true=hk c H true:=by simp only[hk,if_true,ho]
 exact
 {ok:=F.ok
  go:=F.go
  ns:=F.ns
  vars:=λ i x d h1 h2=>(by rw[hkk];exact F.vars i x d h1 h2)
  own:=λ a ds h=>(by rw[hkk];exact F.own a ds (ho▸h))
  olo:=λ p h=>F.olo p (ho▸h)
  ond:=(by rw[ho];exact F.ond)
  fix:=λ a o h=>(by rw[ho];exact F.fix a o (hf _ h))
  gen:=λ p h=>F.gen p (hg▸h)
  cells:=F.cells
  hdA:=F.hdA
  dk:=F.dk}
theorem FrS.unbind {A:H2}{x:Str}{pos:Pos}{Q:Unit->A8->Prop}(F:FrS G c H V s)(i:Nat)(hi:i<c.ns)(hx:c.nm[i]? =some x)(hkl:c.kl[i]? =some false)(k: ∀s',FrS G c H (V.set i none) s'->Q () s'):
 D0 (D1 pw w) A (do ztw c.env x .none;unbindBehindTheSuite c.env x pos) Q E s:=by
 have ne: ∀(j:Nat) (y:Str),c.nm[j]? =some y->j≠i->y≠x:=λ j y hy hj e=>by
  subst e;exact hj ((zk4 (C7.mp hy).1 F.ok.nd).mp (hy.trans hx.symm))
 have hl:c.env.kindOf x=some .local:=by
  rcases F.ok.kd i x hx with⟨_,q⟩|⟨q,_⟩
  ·exact q
  ·rw[hkl] at q;cases q
 obtain⟨m,hm⟩:=F.ns;refine wpAny_nameGoes_keeps hl hm (by rw[F.ok.fn];rfl) λ h' v hn' hs'=>?_
 obtain⟨oL,es,ep,hL,hLd,_⟩:=id hm;have B:Bu c s {s with heap:=h',toks:=s.toks+1} c.env.locals:=⟨.inl F.ok.lo,λ o e=>by
  rw[hL] at e;cases e;exact⟨λ vs q=>by(rw[hLd] at q;cases q),λ q=>by(obtain⟨_,_,q⟩:=q;rw[hLd] at q;cases q)⟩,hs',rfl,rfl⟩
 have cell: ∀{a:Addr} {v:Option Value},s.heap.IsCell a v->h'.IsCell a v:=λ⟨o,h1,h2⟩=>⟨o,(hs'.2 _ λ q=>by
  subst q;rw[hL] at h1;cases h1;rw[hLd] at h2;cases h2).trans h1,h2⟩
 refine k _ (F.bu B ⟨_,hn'⟩ (λ y a h=>let ⟨u,h1⟩:=F.cells y a h;⟨u,cell h1⟩) (λ j y d' hy hd=>?_) λ b o hb=>(F.fix b o hb).2.2.2.1);by_cases hj:j=i
 ·subst hj
  rw[zgk] at hd
  cases q:V[j]? with
  |none=>rw[q] at hd;cases hd
  |some _=>rw[q] at hd;cases hd
 ·rw[P8 (λ q=>hj q.symm)] at hd
  obtain⟨u,h1,h2⟩:=F.vars j y d' hy hd;refine⟨u,?_,zeo B.rp _ _ h2⟩
  cases h1 with
  |loc hk m₁ hn hm₁=>
   have:=Ns.unique hn hm;subst this;exact .loc hk _ hn' (by simpa [ne j y hy hj] using hm₁)
  |cel hk a hc hv=>exact .cel hk a hc (cell hv)
structure Exc (cls:String)(m:Str)(e t:Addr)(oe ot:Obj):Prop where
 c:oe.cls= .type cls
 d: ∃vs,oe.data= .fields vs/\vs[0]? =some (.ref t)
 tc:ot.cls= .type "tuple"
 td: ∃tk n,ot.data= .seq #[.str m tk] n
theorem Wx.tryAs {body orelse suite:List Stmt}{b₀:Stmt}{x y:Str}{p hp pos:Pos}{m:Str}(i:Nat)(hi:i<c.ns)(hy:c.nm[i]? =some y)(hkl:c.kl[i]? =some false)(hh:c.A.handled=none)(hfr:c.A.frames=some (c.env::outer))(hf:c.env.frame=some c.env.locals)
 (hexc:ze2 (.type cls) (.type "BaseException")=pure true)(hnt:ze2 (.type ((zn7 cls).elim "type" λ x=>x.metatype)) (.type "tuple")=pure false)(hsub:ze2 (.type cls) (.type cls)=pure true)(hc:cls≠ "code")(hc2:cls≠ "list")
 (hdk: ∀p∈c.dk,∀vs,p.2.data≠ .fields vs)(hn: ∀e,Nv G w (mrk c e) (.Name x p) (.type cls))
 (hb: ∀s,FrS G c H V s->D0 (D1 pw w) c.A (X5 body c.env) (λ z z=>False) (zxm G c H V outer cls (some m)) s)
 (hsuite: ∀e t oe ot,Exc cls m e t oe ot->Wx G w (mrk c e) ⟨H.own,(t,ot)::(e,oe)::H.fix,H.gen⟩ (V.set i (some (.ptr e))) (b₀::suite) (λ f s=>f= .next/\FrS G (mrk c e) ⟨H.own,(t,ot)::(e,oe)::H.fix,H.gen⟩ (V.set i (some (.ptr e))) s) (λ z z=>False))
 (h:Wx G w c H (V.set i none) rest P E):Wx G w c H V (.Try body [.ExceptHandler (some (.Name x p)) (some y) (b₀::suite) hp] orelse [] pos::rest) P E:=by
 refine⟨λ s F=>E8 (ya2 hfr hf (hb s F) λ e a0 ta S r s3 Fr T hm hS hx=>?_)⟩;have rm:Rm (c.A.mark (some (.ref e))) (c.lv+1):=Fr.ok.rm;have F3:FrS G (mrk c e) H V s3:=Fr.land T hS hx hdk rm (T.hd hc);refine wpAny_handleBy_builtin_as (X:=cls) hexc hnt hsub ((hn e).h H V s3 F3 _ _ ⟨rfl,?_,?_⟩)
 ·obtain⟨oe,_,_,_,_,he,hcl,_⟩:=T.fly.ex
  exact⟨oe,he,hcl⟩
 rw[if_pos rfl];refine zct (x:=none) T.fly λ h4 F4 u4 z4=>?_;have T4:=T.step F4 u4 z4 λ a h=>h;have F5:FrS G (mrk c e) H V _:=Fr.land T4 hS hx hdk rm (T4.hd hc);obtain⟨oe,vs,Tt,oT,ts,he,hcl,hd,h0,_⟩:=T4.fly.ex;obtain⟨tk,hta⟩:=hm m rfl;obtain⟨t,ot,n,rfl,ht,htc,htd⟩:=T4.arg _ hta;have X:Exc cls m e t oe ot:=⟨hcl,⟨vs,hd,h0⟩,htc,⟨tk,n,htd⟩⟩;obtain⟨mm,hmm⟩:=F5.ns;obtain⟨oL,es,ep,hL,hLd,_⟩:=id hmm;have no: ∀{b:Addr} {o:Obj},({s3 with heap:=h4}:A8).heap.get? b=some o->o.cls≠ .type "list"->b∉H.own.map (·.1):=λ{b o} hb hl hmem=>by
  obtain⟨⟨a',ds⟩,hp,rfl⟩:=C5.mp hmem;obtain⟨o',us,g1,⟨nn,g2⟩,_⟩:=F5.own a' ds hp;rw[hb] at g1;cases g1;exact hl (by rw[g2])
 have Fe:=F5.fixadd (a:=e) (o:=oe) ⟨he,F5.tb.off he (.inr ⟨by rw[hcl];intro q;cases q;exact hc rfl,by rw[hcl];intro q;cases q⟩),(λ v q=>by rw[hd] at q;cases q),(λ q=>by
  rw[q] at he;have:=he.symm.trans hL;cases this;rw[hd] at hLd;cases hLd),no he (by rw[hcl];intro q;cases q;exact hc2 rfl)⟩
 have Ft:=Fe.fixadd (a:=t) (o:=ot) ⟨ht,F5.tb.off ht (.seq ⟨_,_,htd⟩),(λ v q=>by rw[htd] at q;cases q),(λ q=>by
  rw[q] at ht;have:=ht.symm.trans hL;cases this;rw[htd] at hLd;cases hLd),no ht (by rw[htc];decide)⟩
 refine Ft.store (d:= .ptr e) i hi hy rfl λ s6 F6 z=>?_;refine E7 ((hsuite e t oe ot X).h s6 F6) (λ f s7 h7=>?_) λ z z h=>h.elim;obtain⟨rfl,F7⟩:=h7;refine F7.unbind i hi hy hkl λ s8 F8=>?_;have F9:FrS G (mrk c e) H ((V.set i (some (.ptr e))).set i none) s8:=F8.fixsub rfl rfl λ p hp=>B1 _ (B1 _ hp);rw[List.set_set] at F9;exact h.h s8 (F9.reA Fr.ok.rm (HdA.none hh))
end
noncomputable def FIdz:Fd where
 f:=108
 c:=107
 fd:=ydg
 ps:=["a","b"]
 nm:=["a","b","q","r"]
 kl:=[false,false,false,false]
 gn:=[("ZeroDivisionError",.type "ZeroDivisionError")]
theorem yf5:FokB G0 FIdz:=zkt (gi:=[]) (bj:=[3]) rfl (by decide+kernel) (A6 (i:=5) rfl) (A6 (i:=5) rfl) rfl rfl ⟨rfl,rfl,rfl,rfl,rfl,rfl⟩
section
variable{w:E3}
theorem zsu:ze2 (.type "ZeroDivisionError") (.type "ZeroDivisionError")=pure true:=by first|rfl|kernel_rfl
theorem zwk {A:H2}{K:List Addr}{s:A8}{a:Int}{vs:List Value}{outer:List Env}(hh:A.handled=none)(rm:Rm A 2)(ok:Ok G0 A K s)(rv:RpL (hid K s.heap) [.int a,.int 0] vs)
 (hfr:A.frames=some outer)(ff:FF s.heap outer){Q E:Value->A8->Prop}
 (k: ∀e a0 S r s',Go s r->Thr S outer "ZeroDivisionError" e a0 none .none r s'->(∀a∈S,a∈ybe outer\/s.heap.objs.size<=a)->E (.ref e) s'):
 D0 (D1 pw w) A (call (.ref 108) vs) Q E s:=by
 obtain⟨v1,v2,rfl,r1,r2⟩:=zkp rv;refine zmo (w:=w) FIdz yf5 (l:=2) (b:=s) (ow:=[]) (fx:=[]) (wr:=[]) (dk:=[]) (V:=[some (.int a),some (.int 0),none,none]) (K:=K) (by omega) rm ok.gnd ok.tb ok.hd ok.gnd ok.tb (zj5 s) ok.kl (λ a h=>nomatch h) (λ p h=>nomatch h) (λ p h=>nomatch h) ⟨(λ a ds h=>nomatch h),U7⟩ (λ p h=>nomatch h) (λ p h=>nomatch h)
  (λ M A' E' Q' h=>zgt (fd:=FIdz.fd) (binds:=[("a",v1),("b",v2)]) rfl M A' E' Q' (h s _ (M4 s) ?_)) λ L s2 F2 g2=>?_
 ·rw[show K++([]:List (Addr×List D)).map (·.1)=K by simp]
  exact zg3 (by show([("a":Str),"b"]:List Str).Nodup;decide+kernel) (.cons r1 (.cons r2 (.nil (wk0 (wk0 wkE)))))
 have W:Wx G0 w (FIdz.cxw (A.deeper (H3 FIdz.fd L FIdz.f)) (H3 FIdz.fd L FIdz.f) s K [] [] 0) h0 [some (.int a),some (.int 0),none,none] FIdz.body (λ z z=>False)
  (λ v s'=> ∃r e a0,FrS G0 (FIdz.cxw (A.deeper (H3 FIdz.fd L FIdz.f)) (H3 FIdz.fd L FIdz.f) s K [] [] 0) h0 [some (.int a),some (.int 0),none,none] r/\New "ZeroDivisionError" e a0 none r s'/\v= .ref e):=by
  refine W3 (p:=true) (O5 (B4 1 rfl rfl) D5 Cm.eq) (λ z=>?_) λ h=>by cases h
  refine⟨λ s F=>E8 (Q4 (Raise_classB hh excClass_ZeroDivisionError zsu ((G7 0 rfl).h h0 _ s F _ _ ⟨rfl,rfl⟩) λ h' e N hz=>?_))⟩;obtain⟨ob,t,h1,h2,h3⟩:=N.there;exact⟨s,e,t,F,⟨N.keeps,hz,rfl,rfl,N.new,⟨ob,h1,h2,h3⟩,λ args ha=>by cases ha⟩,rfl⟩
 refine E7 (W.h s2 F2) (λ f s' h=>h.elim) λ v1 s' h=>?_;obtain⟨r1,e,t,F1,n,rfl⟩:=h;obtain⟨m,hm⟩:=F1.ns;have gr:Go s r1:=F1.go.nil;refine zvm (S:=ybe (H3 FIdz.fd L FIdz.f::outer)) (zb4 hfr) rfl (FF.cons rfl rfl hm (ff.go gr ok.tb)) (λ a h=>h) (λ a h=>h) n λ s3 T=>?_;refine k e t _ r1 s3 gr T λ a ha=>?_;rw[zd8 (L:=L) rfl] at ha;rcases B9.mp ha with rfl|ha
 ·exact .inr F1.ok.lo
 ·exact .inl ha
end
section
variable{G:Gt}{w:E3}{c:Cx}{H:Hm}{V:List (Option D)}{P:Flow->A8->Prop}{E:Value->A8->Prop}{rest:List Stmt}
theorem Wx.forX {t iter:Expr}{body:List Stmt}{ps:Pos}{items:List D}(iv:IvG G w c H V t iter items)
 (ow:Nat->List (Addr×List D))(Vs:Nat->List (Option D))(lv:Nat->Prop)(ho:ow 0=H.own)(hV:Vs 0=V)(hl:lv 0)(hm: ∀k,(ow k).map (·.1)=H.own.map (·.1))
 (turn: ∀k d,items[k]? =some d->lv k-> ∀fx gn,(∀q∈H.fix,q∈fx)-> ∃V',Tg G w c ⟨ow k,fx,gn⟩ (Vs k) t d V'/\Wx G w c ⟨ow k,fx,gn⟩ V' body (LpP G c ⟨ow (k+1),fx,gn⟩ (Vs (k+1)) (lv (k+1)) P) (λ z z=>False))
 (h:lv items.length->Wx G w c (H.owns (ow items.length)) (Vs items.length) rest P E)
 (hs: ∀x,J0 iter c.env x=pure x:=by intro _;rfl):Wx G w c H V (.For t iter body [] ps::rest) P E:=
 Wx.forH iv (λ z z e=>e.elim) ow Vs lv ho hV hl hm turn h hs
end
section
variable{w:E3}{c:Cx}{H:Hm}{V:List (Option D)}{P:Flow->A8->Prop}{E:Value->A8->Prop}{rest:List Stmt}{I Dd L:Addr}{ox od:Obj}{s:A8}
theorem yer {rows:List D}(F:FrS G0 c H V s)(T:Tbl I Dd L ox od)(h1:(I,ox)∈H.fix)(h2:(Dd,od)∈H.fix)(ho:(L,rows)∈H.own):Hdr s.heap c.K I Dd L ox od rows:=by
 refine⟨T,⟨(F.fix I ox h1).1,(F.fix I ox h1).2.1⟩,⟨(F.fix Dd od h2).1,(F.fix Dd od h2).2.1⟩,?_⟩;obtain⟨o,vs,h3,hL,h4⟩:=F.own L rows ho;exact⟨L,o,vs,rfl,by rw[hid_some];exact⟨F.olo _ ho,h3⟩,hL,h4.sub λ a h=>D3 _ h⟩
theorem Ev.tblM {f n:Bool}{l:Nat}{fa:Addr}{fd:K9}{tb name:Str}{p ap ps:Pos}{args:List Expr}{ds rows:List D}{d:D}(i:Nat)(hx:c.nm[i]? =some tb)(hv:V[i]? =some (some (.ptr I)))(T:Tbl I Dd L ox od)(h1:(I,ox)∈H.fix)(h2:(Dd,od)∈H.fix)(ho:(L,rows)∈H.own)
 (ha:As G0 w c H V true args ds)(fn:FnH n w l fa I Dd L ox od rows ds d)(hn:n=true->c.A.handled=none)(hl:l<=c.lv+1)
 (hf: ∀mN:Str->Option Value,(mN "_convert_string_type"=some (.ref 170)/\mN "get_all"=some (.ref 208)/\mN "get"=some (.ref 216)/\mN "items"=some (.ref 233)/\mN "add_header"=some (.ref 266))->mN name=some (.ref fa))
 (hfd:(fa,fd)∈G0.ftab)(hB:Z3 (.type "object") name=pure none)(hsh:ygy L name=none)
 (fin: ∀(h:P9) v,Rp (hid c.K h) d v->(∀a,v= .ref a->a∉hk c H true)->Rp (hid (hk c H f) h) d v)
 (hz:args.length<29:=by decide)(hline:(ap.endLine==ps.line)=true:=by rfl):Ev G0 w c H V f (.Call (.Attribute (.Name tb p) name ap) args [] ps) d:=by
 refine .mk' λ s F Q E kk=>?_;obtain⟨v0,q1,q2⟩:=F.vars i tb _ hx hv;have q:=F.ok.dbg tb (A6 hx);have e0:v0= .ref I:=q2;subst e0;refine zuu rfl ?_ hline (T7 (q1.load F.ok.fn q.2 ?_) q.1)
 ·rw[zqn (ha.ns ps)]
  have e:zf5 ps (zbk [] c.env)=[]:=rfl;rw[e];simp only[List.all_nil,zfa,zh1,if_true,zgj,zlv,decide_eq_true_eq];omega
 refine zlh F.gnd T (F.fix I ox h1).1 (F.fix Dd od h2).1 hf hfd hB hsh ?_;refine R3 (o:={cls:= .type "function",data:= .func fd}) (fd:=fd) (N2 (ha.ns _) (ha.h _ s F _ _ λ vs s1 g1 r1=>⟨⟨(F.onto g1).gnd.fn _ hfd,rfl⟩,?_⟩));have F1:=F.onto g1;refine fn.h c.A c.K s1 vs (F1.ok.rm.le hl) hn ((F1.okS false)) (yer F1 T h1 h2 ho) (r1.sub λ a h=>D3 _ h) _ _ λ v s2 g2 r2 hv2=>kk v s2 (g1.trans g2) (fin _ v r2 λ a e hm=>?_);exact absurd (F1.hlt a hm) (D7.mpr (hv2 a e))
theorem ye3 {d:D}{K K':List Addr}(hd:Sc d=true): ∀(h:P9) v,Rp (hid K h) d v->(∀a,v= .ref a->a∉K')->Rp (hid K' h) d v:=λ h v r z=>r.scalar hd
theorem zz3 {xs:List Str}{K K':List Addr}: ∀(h:P9) v,Rp (hid K h) (.lst (xs.map D.str)) v->(∀a,v= .ref a->a∉K')->Rp (hid K' h) (.lst (xs.map D.str)) v:=λ h v r hf=>by
 obtain⟨a,o,vs,rfl,ho,hL,hl⟩:=r.lst_inv;rw[hid_some] at ho;obtain⟨l,rfl,hx⟩:=zrv hl;refine⟨a,o,_,rfl,by rw[hid_some];exact⟨hf a rfl,ho.2⟩,hL,?_⟩
 rw[<-hx];clear hl hL ho hf hx
 induction l with
 |nil=>exact Z8
 |cons x r ih=>exact U4 .str' ih
variable{rows:List (Str×Str)}
theorem Ev.getAll {tb:Str}{p ap ps:Pos}{e:Expr}{nm:Str}(i:Nat)(hx:c.nm[i]? =some tb)(hv:V[i]? =some (some (.ptr I)))(T:Tbl I Dd L ox od)(h1:(I,ox)∈H.fix)(h2:(Dd,od)∈H.fix)(ho:(L,zj9 rows)∈H.own)
 (ha:As G0 w c H V true [e] [.str nm])(hh:c.A.handled=none)(hl:4<=c.lv+1)(hz:rows.length<=1000)(hk1: ∀p∈rows,KeyOk p.1)(hn:KeyOk nm)(hc:zc7 true (P1 nm))(hline:(ap.endLine==ps.line)=true:=by rfl):
 Ev G0 w c H V true (.Call (.Attribute (.Name tb p) "get_all" ap) [e] [] ps) (.lst ((zij rows nm).map D.str)):=
 Ev.tblM i hx hv T h1 h2 ho ha (zum hz hk1 hn hc) (λ z=>hh) hl (λ mN h=>h.2.1) (A6 (i:=14) rfl) zp9 rfl zz3 (by simp) hline
theorem Ev.get {tb:Str}{p ap ps:Pos}{e:Expr}{nm:Str}(i:Nat)(hx:c.nm[i]? =some tb)(hv:V[i]? =some (some (.ptr I)))(T:Tbl I Dd L ox od)(h1:(I,ox)∈H.fix)(h2:(Dd,od)∈H.fix)(ho:(L,zj9 rows)∈H.own)
 (ha:As G0 w c H V true [e] [.str nm])(hh:c.A.handled=none)(hl:4<=c.lv+1)(hz:rows.length<=1000)(hk1: ∀p∈rows,KeyOk p.1)(hn:KeyOk nm)(hc:zc7 true (P1 nm))(hline:(ap.endLine==ps.line)=true:=by rfl):
 Ev G0 w c H V true (.Call (.Attribute (.Name tb p) "get" ap) [e] [] ps) (zlc (yc2 rows nm)):=
 Ev.tblM i hx hv T h1 h2 ho ha (fn_get hz hk1 hn hc) (λ z=>hh) hl (λ mN h=>h.2.2.1) (A6 (i:=15) rfl) zv3 rfl (ye3 (by cases yc2 rows nm<;>rfl)) (by simp) hline
theorem Ev.items {tb:Str}{p ap ps:Pos}{rows:List D}(i:Nat)(hx:c.nm[i]? =some tb)(hv:V[i]? =some (some (.ptr I)))(T:Tbl I Dd L ox od)(h1:(I,ox)∈H.fix)(h2:(Dd,od)∈H.fix)(ho:(L,rows)∈H.own)
 (hl:2<=c.lv+1)(hz:rows.length<=1000)(hline:(ap.endLine==ps.line)=true:=by rfl):Ev G0 w c H V false (.Call (.Attribute (.Name tb p) "items" ap) [] [] ps) (.lst rows):=
 Ev.tblM i hx hv T h1 h2 ho D9 (zzy hz) (λ h=>by cases h) hl (λ mN h=>h.2.2.2.1) (A6 (i:=16) rfl) zr2 rfl (λ h v r z=>r) (by simp) hline
theorem Ev.strExc {x y m:Str}{p q ps:Pos}{e t:Addr}{oe ot:Obj}(i:Nat)(hx:c.nm[i]? =some x)(hv:V[i]? =some (some (.ptr e)))(X:Exc "ValueError" m e t oe ot)(h1:(e,oe)∈H.fix)(h2:(t,ot)∈H.fix)(hf:Nv G0 w c (.Name y q) (.type "str"))
 (hs:J7 [.Name x p] c.env=[(false,M3 (.Name x p) c.env)]:=by rfl):Ev G0 w c H V true (.Call (.Name y q) [.Name x p] [] ps) (.str m):=by
 refine .mk' λ s F Q E k=>?_;have ha:As G0 w c H V true [.Name x p] [.ptr e]:=B8 (B4 i hx hv) D9 hs;refine L0 (hf.h H V s F _ _ (O7 (ha.ns _) (N2 (ha.ns _) (ha.h _ s F _ _ λ vs s1 g1 r1=>?_))));rw[I2];obtain⟨v,us,rfl,r1,r2⟩:=zgw r1;obtain rfl:=Rp.p0 r1;obtain rfl:=r2.i0;have F1:=F.onto g1;obtain⟨vs,d1,d2⟩:=X.d;obtain⟨tk,n,d3⟩:=X.td;refine P.str_of_exc_one (t0:=t) PySem.F.excStr_ValueError (m:=m) (tk:=tk) ?_ ⟨oe,vs,(F1.fix e oe h1).1,X.c,d1,d2⟩ ⟨ot,n,(F1.fix t ot h2).1,X.tc,d3⟩ (k _ s1 g1 .str');have:=F1.ok.rm.2;show c.A.units+2<9900;omega
end
noncomputable def hidL:List (Option Str):=[some "(",some ")\"",some "(\\",some "",none,some "\""]
noncomputable def ahL:List (Option Str):=[none,some "\\)",some "\\\"",some "\\\\"]
noncomputable abbrev jiv:Str:= "\"(\\"
noncomputable abbrev exT (h:Option Str):List (Str×Option Str):=[("k",h),("j_i",some jiv)]
noncomputable def zee (h a:Option Str):Str:=L9 "; " (zl6 a (exT h))
noncomputable def inF (c:Str):Str:=if(L4 "\"\\" c 0 ("\"\\":Str).length 1).isEmpty then c else "\\"++c
noncomputable def inD:D->D
 | .str c=> .str (inF c)
 |_=> .none
noncomputable def zx3 (h:Option Str):Str:=L9 "" (((h.getD "").cps.toList.map λ c=>(⟨#[c]⟩:Str)).map inF)
noncomputable def hdE (a:Option Str):Str:=match a with|none=> ""|some a=>a++ "; "
noncomputable def miE (h:Option Str):Str:=if zx3 h= "" then "k" else("k=\"":Str)++zx3 h++ "\""
noncomputable def yhq (h a:Option Str):Str:=hdE a++miE h++ "; j-i=\"\\\"(\\\\\""
theorem yb9: ∀h∈hidL,∀a∈ahL,yhq h a=zee h a:=by decide+kernel
theorem zzs: ∀h∈hidL,(zx3 h).length<=20/\(h.getD "").length<=5:=by decide+kernel
theorem ygf: ∀h∈hidL,∀a∈ahL,(zee h a).length<=60:=by decide+kernel
noncomputable def cleanB (b:Bool)(x:Str):Bool:=x.cps.toList.all λ c=> !(if b then zr5 else zx1) c
theorem cleanB.ok {b:Bool}{x:Str}(h:cleanB b x=true):zc7 b x:=λ q hq=>by
 unfold cleanB at h;have:=K5.mp h (x.cps.getD q 0) (by
  have:x.cps.getD q 0=x.cps[q]:=by simp[Array.getD,hq]
  rw[this];exact Array.mem_toList_iff.mpr (Array.getElem_mem hq))
 simpa using this
open Internal.cleanB renaming ok->zb5
noncomputable def addB (name:Str)(val:Option Str)(ex:List (Str×Option Str)):Bool:=
 decide (name.length<=1000)&&(val.all λ x=>cleanB false x&&decide (x.length<=1000))&&(ex.all λ p=>cleanB true p.1&&decide (p.1.length<=100)&&decide ((ybo p.1).length<=1000)&&p.2.all λ x=>cleanB false x&&decide (x.length<=1000)&&decide ((zbx x ⟨#[92]⟩ ⟨#[92,92]⟩).length<=10000)&&decide ((zu5 x).length<=100000))&&
 decide (ex.length<=10)&&decide ((zl6 val ex).toArray.foldl (λ a p=>a+p.length+("; ":Str).length) 0<=100000)&&decide ((L9 "; " (zl6 val ex)).length<=100000)
theorem addB.ok {name:Str}{val:Option Str}{ex:List (Str×Option Str)}(h:addB name val ex=true):AddOk name val ex:=by
 unfold addB at h;simp only[O2,decide_eq_true_eq] at h;obtain⟨⟨⟨⟨⟨h1,h2⟩,h3⟩,h4⟩,h5⟩,h6⟩:=h;have hsl:H5=16777216:=by decide
 refine⟨h1,λ x e=>?_,λ p hp=>?_,h4,?_,by omega⟩
 ·subst e
  simp only[ybt,O2,decide_eq_true_eq] at h2;exact⟨zb5 h2.1,h2.2⟩
 ·have h:=K5.mp h3 p hp
  simp only[O2,decide_eq_true_eq] at h;obtain⟨⟨⟨a1,a2⟩,a3⟩,a4⟩:=h;refine⟨zb5 a1,a2,a3,λ x e=>?_⟩;rw[e] at a4;simp only[ybt,O2,decide_eq_true_eq] at a4;exact⟨zb5 a4.1.1.1,a4.1.1.2,a4.1.2,a4.2⟩
 ·unfold R2
  exact decide_eq_false (by omega)
theorem yh6: ∀h∈hidL,∀a∈ahL,addB "x" a (exT h)=true:=by decide+kernel
noncomputable def chS (x:Str)(k:Nat):Str:=⟨#[x.cps.getD k 0]⟩
noncomputable def nmA (u:Nat):Str:=if u=0 then "aBc" else "AbC"
noncomputable def nmB (u:Nat):Str:=if u=0 then "AbC" else "aBc"
noncomputable def dA (u:Nat)(ps:List Str):List (Str×Str):=(G2 ps.length).map λ k=>(chS (nmA u) k,ps.getD k "")
noncomputable def num (w:Int):Str:=(toString w:String)
noncomputable abbrev xS:Str:= "x"
noncomputable def dB (u:Nat)(ps:List Str)(ws:List Int):List (Str×Str):=(G2 ps.length).map λ k=>(chS (nmB u) k,num (ws.getD k 0))
noncomputable def zhr (u:Nat)(ps:List Str)(ws:List Int)(v:Str):List (Str×Str):=dA u ps++[(xS,v)]++dB u ps ws
noncomputable def ydx:List Str:=["a","B","c","A","b","C"]
theorem zwc: ∀u∈[0,1],∀k∈[0,1,2],chS (nmA u) k∈ydx/\chS (nmB u) k∈ydx:=by decide+kernel
theorem zqa: ∀x∈("x":Str)::ydx,cleanB true x=true/\(P1 x).length<=10/\x.length<=10/\cleanB true (P1 x)=true:=by decide+kernel
theorem ygv: ∀x∈ydx,(x==("x":Str))=false:=by decide+kernel
theorem zjj {x:Str}(h:(P1 x).length<=10):KeyOk x:=⟨by
 have hsl:H5=16777216:=by decide
 unfold R2;exact decide_eq_false (by omega),by omega⟩
structure PsOk (ps:List Str)(ws:List Int):Prop where
 n:ps.length=2\/ps.length=3
 w:ws.length=ps.length
 p: ∀p∈ps,p∈(["((","(","",")","))"]:List Str)
 z: ∀w∈ws,0<=w/\w<10^9
theorem getD_mem {α:Type}{l:List α}{k:Nat}{d:α}(h:k<l.length):l.getD k d∈l:=by
 rw[C8,B3 h];exact Q6 h
theorem zse {u:Nat}{ps:List Str}{ws:List Int}{v:Str}(hu:u=0\/u=1)(o:PsOk ps ws): ∀p∈zhr u ps ws v,p=(xS,v)\/(p.1∈ydx/\(p.2∈ps\/ ∃w∈ws,p.2=num w)):=by
 intro p hp;have hu':u∈[0,1]:=by simpa using hu
 unfold zhr at hp;rw[G1,G1] at hp;rcases hp with(hp|hp)|hp
 ·right
  obtain⟨k,hk,rfl⟩:=C5.mp hp;rw[I8] at hk;have hk3:k∈[0,1,2]:=by
   have:=o.n;simp only[B9,D6,or_false];omega
  exact⟨(zwc u hu' k hk3).1,.inl (getD_mem hk)⟩
 ·left;simpa using hp
 ·right
  obtain⟨k,hk,rfl⟩:=C5.mp hp;rw[I8] at hk;have hk3:k∈[0,1,2]:=by
   have:=o.n;simp only[B9,D6,or_false];omega
  exact⟨(zwc u hu' k hk3).2,.inr ⟨_,getD_mem (by rw[o.w];exact hk),rfl⟩⟩
theorem yel {w:Int}(h0:0<=w)(h1:w<10^9):cleanB false (num w)=true/\(num w).length<=30:=by
 refine⟨?_,A7 (KT.len_num h0 (by omega)) (by decide)⟩
 obtain⟨n,rfl⟩:=K2 h0;unfold cleanB num;rw[Str.ofString_eq_toList];refine K5.mpr λ x hx=>?_;simp only[C5] at hx;obtain⟨c,hc,rfl⟩:=hx;have e:(toString ((n:Nat):Int)).toList=(Nat.repr n).toList:=by
  rw[Int.toString_eq_repr,Int.repr_eq_if,if_pos (by omega+splitNatSub)];rfl
 rw[e,Nat.toList_repr] at hc;have hd:=Nat.isDigit_of_mem_toDigits (by decide) (by decide) hc
 simp only[Char.isDigit,O2,decide_eq_true_eq] at hd;have e2:c.val.toNat=c.toNat:=rfl;have h2:c.val.toNat<=57:=by simpa using zsn.mp hd.2
 have h3:48<=c.val.toNat:=by simpa using zsn.mp hd.1
 have key: ∀k,k<58->48<=k->zx1 k=false:=by decide+kernel
 simp[key c.toNat (by omega) (by omega)]
theorem ygs: ∀p∈(["((","(","",")","))"]:List Str),cleanB false p=true/\p.length<=2:=by decide+kernel
theorem ygw (x:Str):L9 "; " [x]=x:=rfl
theorem yhu (k v:Str):ydw k (some v) []= .tup [.str k,.str v]:=rfl
theorem yhl {k v:Str}(hk:k∈ydx)(hv:cleanB false v=true)(hz:v.length<=30):AddOk k (some v) []:=by
 obtain⟨_,_,h3,_⟩:=zqa k (B1 _ hk);have hsl:H5=16777216:=by decide
 have e:zl6 (some v) []=[v]:=rfl;refine⟨by omega,λ x e=>by cases e;exact⟨zb5 hv,by omega⟩,λ p hp=>(nomatch hp),by simp,?_,?_⟩
 ·rw[e]
  unfold R2;refine decide_eq_false ?_;have:([v].toArray.foldl (λ a p=>a+p.length+("; ":Str).length) 0)=0+v.length+2:=rfl;rw[this];omega
 ·rw[e,ygw];omega
theorem ydj {u:Nat}{ps:List Str}{ws:List Int}{v:Str}(hu:u=0\/u=1)(o:PsOk ps ws){p:Str×Str}(hp:p∈zhr u ps ws v)(hx:(p.1==xS)=false):AddOk p.1 (some p.2) []/\zc7 true p.1:=by
 rcases zse hu o p hp with rfl|⟨h1,h2⟩
 ·simp at hx
 ·refine⟨?_,zb5 (zqa _ (B1 _ h1)).1⟩
  rcases h2 with h2|⟨w,hw,h2⟩
  ·have:=ygs _ (o.p _ h2)
   exact yhl h1 this.1 (by omega)
  ·have:=yel (o.z w hw).1 (o.z w hw).2
   rw[<-h2] at this;exact yhl h1 this.1 this.2
theorem yg0 {u:Nat}{ps:List Str}{ws:List Int}{v:Str}(hu:u=0\/u=1)(o:PsOk ps ws){p:Str×Str}(hp:p∈zhr u ps ws v)(hx:(p.1==xS)=true):p=(xS,v):=by
 rcases zse hu o p hp with h|⟨h1,_⟩
 ·exact h
 ·have:=ygv _ h1
  rw[this] at hx;cases hx
theorem zoz {u:Nat}{ps:List Str}{ws:List Int}{v:Str}(o:PsOk ps ws):(zhr u ps ws v).length<=7:=by
 have:=o.n;simp only[zhr,dA,dB,K1,B5,zao,List.length_singleton];omega
theorem zsf {u:Nat}{ps:List Str}{ws:List Int}{v:Str}(hu:u=0\/u=1)(o:PsOk ps ws): ∀p∈zhr u ps ws v,KeyOk p.1:=λ p hp=>by
 rcases zse hu o p hp with rfl|⟨h1,_⟩
 ·exact zjj (zqa xS A9).2.1
 ·exact zjj (zqa p.1 (B1 _ h1)).2.1
theorem yee (l:List (Str×Str)):PlL 8 (zj9 l)=true:=by
 induction l with
 |nil=>rfl
 |cons p r ih=>
  show(Pl 8 (.tup [.str p.1,.str p.2])&&PlL 8 (zj9 r))=true;rw[ih];rfl
theorem ycb {u k:Nat}{ps:List Str}{ws:List Int}{v:Str}(hu:u=0\/u=1)(o:PsOk ps ws)(hk:k<ps.length):zij (zhr u ps ws v) (chS "Abc" k)=[ps.getD k "",num (ws.getD k 0)]:=by
 obtain⟨o1,o2,_,_⟩:=o;rcases o1 with e|e
 ·obtain⟨p0,p1,rfl⟩:=x2 e
  obtain⟨w0,w1,rfl⟩:=x2 o2;rcases hu with rfl|rfl
  ·exact n2 (by kernel_rfl) (by kernel_rfl) hk
  ·exact n2 (by kernel_rfl) (by kernel_rfl) hk
 ·obtain⟨p0,p1,p2,rfl⟩:=x3 e
  obtain⟨w0,w1,w2,rfl⟩:=x3 o2;rcases hu with rfl|rfl
  ·exact n3 (by kernel_rfl) (by kernel_rfl) (by kernel_rfl) hk
  ·exact n3 (by kernel_rfl) (by kernel_rfl) (by kernel_rfl) hk
theorem yeu {u:Nat}{ps:List Str}{ws:List Int}{v:Str}(hu:u=0\/u=1)(o:PsOk ps ws):yc2 (zhr u ps ws v) "B"=some (ps.getD 1 "")/\yc2 (zhr u ps ws v) "X"=some v:=by
 obtain⟨o1,o2,_,_⟩:=o;rcases o1 with e|e
 ·obtain⟨p0,p1,rfl⟩:=x2 e
  obtain⟨w0,w1,rfl⟩:=x2 o2;rcases hu with rfl|rfl<;>exact⟨by kernel_rfl,by kernel_rfl⟩
 ·obtain⟨p0,p1,p2,rfl⟩:=x3 e
  obtain⟨w0,w1,w2,rfl⟩:=x3 o2;rcases hu with rfl|rfl<;>exact⟨by kernel_rfl,by kernel_rfl⟩
section
variable{G:Gt}{w:E3}{c:Cx}{H:Hm}{V:List (Option D)}
theorem Tv.str {x:Str}(h:(x.length:Int)<2^62):Tv G w (.str x) ((x.length:Int) != 0):=by
 refine⟨λ A K s v ok r Q E k=>?_⟩;obtain⟨t,rfl⟩:=r.str_inv;exact P.truthy_str (by omega) (k _ (R1 s _))
theorem Ev.orV {a b:Expr}{ps:Pos}{d1 d2:D}{p:Bool}(h1:Ev G w c H V true a d1)(t:Tv G w d1 p)(h2:Ev G w c H V true b d2)(he:evalEach [a,b] c.env=[M3 a c.env,M3 b c.env]:=by rfl):Ev G w c H V true (.BoolOp .Or [a,b] ps) (if p then d1 else d2):=by
 refine .mk' λ s F Q E k=>?_;rw[arm_eval_BoolOp,he];refine B0 (h1.r F λ v s1 g1 r1=>B0 (K7 (B0 (J8 (t.h c.A _ s1 v ((F.onto g1).okS true) r1 _ _ λ s2 g2=>?_)))))
 cases p with
 |true=>exact C4 (k v s2 (g1.trans g2) (r1.go g2 (F.onto g1).tb))
 |false=>
  exact h2.r ((F.onto g1).onto g2) λ u s3 g3 r3=>k u s3 ((g1.trans g2).trans g3) r3
end
noncomputable def FTab:Fd where
 f:=285
 c:=284
 fd:=ye4
 ps:=["pieces","weights","cell"]
 nm:=["pieces","weights","cell","hidden","ahead","names","inner","value","due","table","pair","odd","refusal","told"]
 kl:=[true,true,true,false,false,true,false,false,false,true,false,false,false,false]
 gn:=[("Headers",.ref 269),("len",.builtin "len"),("range",.type "range"),("str",.type "str"),("ValueError",.type "ValueError")]
theorem FokTab:Fok G0 FTab:=zgb (gi:=[20]) (bj:=[1,5,10,14]) rfl (by decide+kernel) (A6 (i:=19) rfl) (A6 (i:=19) rfl) rfl rfl ⟨rfl,rfl,rfl,rfl,rfl,rfl⟩
 (yd0 λ a b c=>rfl)
noncomputable abbrev vT (ps:List Str)(ws:List Int)(cell:Nat)(l:List (Option D)):List (Option D):=[some (.lst (ps.map D.str)),some (.lst (izD ws)),some (.int cell)]++l
noncomputable def yej (u:Nat)(ps:List Str):D->D
 | .int k=> .tup [.str (chS (nmA u) k.toNat),.str (ps.getD k.toNat "")]
 |_=> .none
noncomputable def yei (u:Nat)(ws:List Int):D->D
 | .int k=> .tup [.str (chS (nmB u) k.toNat),.str (num (ws.getD k.toNat 0))]
 |_=> .none
noncomputable def nm3:List Str:=["aBc","AbC","aBc"]
noncomputable def znw (u:Nat):List Str:=nm3.drop u
section
variable{w:E3}
theorem zqi {a b:Nat}:((a:Int).fmod (b:Int))=((a % b:Nat):Int):=by rw[R8 _ (by omega)];rfl
theorem zyt {A:H2}{env:Env}{b:A8}{K:List Addr}{dk:List (Addr×Obj)}{lv:Nat}{ps:List Str}{ws:List Int}{cell:Nat}(hh:A.handled=none)(hsc:env.scope=FTab.fd.scope)(o:PsOk ps ws)(hcz:cell<10^15)(hlv:10<=lv)
 {h a:Option Str}(hh1:hidL[cell % 6]? =some h)(ha1:ahL[cell / 6 % 4]? =some a){u:Nat}(hu1:u=cell / 24 % 2){P:Flow->A8->Prop}{E:Value->A8->Prop}
 (rest:Wx G0 w (FTab.cxw A env b K [] dk lv) h0 (vT ps ws cell [some (zlc h),some (zlc a),some (.lst ((znw u).map D.str)),some (.str (zx3 h)),some (.str (zee h a)),some (.lst (zj9 (zhr u ps ws (zee h a)))),none,none,none,none,none]) (FTab.body.drop 7) P E):
 Wx G0 w (FTab.cxw A env b K [] dk lv) h0 (vT ps ws cell [none,none,none,none,none,none,none,none,none,none,none]) FTab.body P E:=by
 have hsl:H5=16777216:=by decide
 have hm6:cell % 6<6:=O9 _ (by decide)
 have hm4:cell / 6 % 4<4:=O9 _ (by decide)
 have hu:u=0\/u=1:=by have:cell / 24 % 2<2:=O9 _ (by decide);omega
 have hhm:h∈hidL:=A6 hh1;have ham:a∈ahL:=A6 ha1;have hn:=o.n;have hn3:ps.length<=3:=by rcases hn with e|e<;>rw[e]<;>decide
 have hzp:(ps.map D.str).length=ps.length:=B5 ..;have q24:((cell:Int).fdiv 6).fmod 4=((cell / 6 % 4:Nat):Int):=by
  rw[show(6:Int)=((6:Nat):Int) from rfl,V6 _ (by omega),show((cell:Int) /((6:Nat):Int))=((cell / 6:Nat):Int) from rfl]
  exact zqi (b:=4)
 have q2:((cell:Int).fdiv 24).fmod 2=((cell / 24 % 2:Nat):Int):=by
  rw[show(24:Int)=((24:Nat):Int) from rfl,V6 _ (by omega),show((cell:Int) /((24:Nat):Int))=((cell / 24:Nat):Int) from rfl]
  exact zqi (b:=2)
 have q6:(cell:Int).fmod 6=((cell % 6:Nat):Int):=zqi (b:=6);have hil:=zzs h hhm;have hoq:(if h.elim false (λ x=>((x.length:Int) != 0)) then zlc h else D.str "")= .str (h.getD ""):=by
  cases h with
  |none=>rfl
  |some x=>
   show(if((x.length:Int) != 0)=true then D.str x else D.str "")= .str x;split
   ·rfl
   ·rename_i q
    have:x.cps.size=0:=by
     have:(x.length:Int)=0:=by simpa using q
     have e:x.length=x.cps.size:=rfl;omega
    exact congrArg D.str (eq_str (zm4 this).symm)
 have hhl: ∀x,h=some x->x.length<=5:=λ x e=>by have:=hil.2;rw[e] at this;exact this
 have e1:((zkx (h.getD "")).filter λ j=>true).map inD=(((h.getD "").cps.toList.map λ c=>(⟨#[c]⟩:Str)).map inF).map D.str:=by
  rw[Q5];unfold zkx;rw[E6,E6,E6];rfl
 have hil1:=hil.1;have hal: ∀x,a=some x->x.length<=5:=λ x e=>by
  have: ∀a∈ahL,(a.getD "").length<=5:=by decide+kernel
  have:=this a ham;rw[e] at this;exact this
 have hia:((zx3 h).length=0)↔zx3 h= "":=by
  constructor
  ·intro q
   exact eq_str (zm4 q)
  ·intro q;rw[q];rfl
 have na: ∀k,k<3->(nmA u).cps[k]? =some ((nmA u).cps.getD k 0)/\(nmB u).cps[k]? =some ((nmB u).cps.getD k 0):=by
  intro k hk;have: ∀u∈[0,1],∀k∈[0,1,2],(nmA u).cps[k]? =some ((nmA u).cps.getD k 0)/\(nmB u).cps[k]? =some ((nmB u).cps.getD k 0):=by decide+kernel
  exact this u (by simpa using hu) k (by simp only[B9,D6,or_false];omega)
 have nA:((znw u).map D.str)[0]? =some (.str (nmA u))/\((znw u).map D.str)[1]? =some (.str (nmB u)):=by
  rcases hu with e|e<;>(rw[e];exact⟨rfl,rfl⟩)
 have nz:((znw u).map D.str).length<=2^62:=by
  rcases hu with e|e<;>(rw[e];decide)
 have hzw:(izD ws).length=ws.length:=B5 ..;have hw:=o.w;refine I9 (d:=zlc h) 3 (show 3<14 by decide) rfl (O1 ((X1 (B8 K0 (B8 K0 (B8 K0 (B8 K0 (B8 zaq (B8 K0 D9))))))).ev) ((G4 (B4 2 rfl rfl) D5 (zfs (by decide))).eq (by rw[q6])) (T6 (by omega) ?_ (by simp))) ?_
 ·rw[C0]
  revert hh1;refine n6 ?_ ?_ ?_ ?_ ?_ ?_ hm6<;>(intro e;cases e;rfl)
 refine I9 (d:=zlc a) 4 (show 4<14 by decide) rfl (O1 ((X1 (B8 zaq (B8 K0 (B8 K0 (B8 K0 D9))))).ev) ((G4 (G4 (B4 2 rfl rfl) D5 (Bi.div (by decide) (P3 (by decide)))) D5 (zfs (by decide))).eq (by rw[q24])) (T6 (by omega) ?_ (by simp))) ?_
 ·rw[C0]
  revert ha1;refine n4 ?_ ?_ ?_ ?_ hm4<;>(intro e;cases e;rfl)
 refine I9 (d:= .lst ((znw u).map D.str)) 5 (show 5<14 by decide) rfl ((zmk (l:=nm3.map D.str) (lo:=some (u:Int)) (hi:=none) (X1 (B8 K0 (B8 K0 (B8 K0 D9)))).ev (Pt.some ((G4 (G4 (B4 2 rfl rfl) D5 (Bi.div (by decide) (P3 (by decide)))) D5 (zfs (by decide))).eq (by rw[q2,hu1]))) Pt.none (by decide) ⟨λ a h=>(by cases h;omega),λ a h=>(by cases h),.inr rfl⟩).ev.eq ?_) ?_
 ·rcases hu with h|h
  ·rw[h];rfl
  ·rw[h];rfl
 refine I9 (d:= .str (zx3 h)) 6 (show 6<14 by decide) rfl (zh3 M6 U2 Z5 K0 (B8 ((za9 (lo:=["sign"]) (kx:=[false]) (fr:=[]) (λ j=>true) inD (zbu (gj:=[]) (by show zii FTab.nm FTab.kl (FTab.gn.map (·.1)) _ _ _ _ _=true;decide+kernel))
  (zgr hh ((Ev.orV (p:=h.elim false λ x=>((x.length:Int) != 0)) (B4 3 rfl rfl) ?_ K0).eq hoq) Ib.str) rfl ?_ ?_).ev.eq (by rw[e1])) D9) (Me.joinS (B:=2) ?_ ?_)) ?_
 ·cases h with
  |none=>exact Tv.none
  |some x=>exact Tv.str (V8 (H1.mpr (hhl x rfl)) (by decide))
 ·simp only[zkx,B5,V9]
  have:(h.getD "").cps.size<=5:=hil.2;omega
 ·intro L b d hd Da acc fx gs
  obtain⟨ch,hch,rfl⟩:=C5.mp hd;refine⟨zc8,λ j=>?_⟩;refine(Ev.ite (d:= .str (inF ⟨#[ch]⟩)) (O5 (B4 0 rfl rfl) K0 Cm.inS) (λ q=>?_) λ q=>?_)
  ·refine(G4 K0 (B4 0 rfl rfl) (zau ?_)).eq ?_
   ·show 1+1<=_;omega
   ·unfold inF
    rw[if_neg (by simpa using q)]
  ·refine(B4 0 rfl rfl).eq ?_
   unfold inF;rw[if_pos (by simpa using q)]
 ·intro y hy
  obtain⟨z,hz,rfl⟩:=C5.mp hy;obtain⟨ch,hch,rfl⟩:=C5.mp hz;unfold inF;split
  ·show 1<=2;omega
  ·show 1+1<=2;omega
 ·simp only[B5,V9]
  have:(h.getD "").cps.size<=5:=hil.2;have e0:("":Str).length=0:=rfl;rw[e0,zgh,zgj];exact A7 (I0 2 this) (by decide+kernel)
 refine I9 (d:= .str (zee h a)) 7 (show 7<14 by decide) rfl ((G4 (G4 (d:= .str (hdE a++miE h)) (d1:= .str (hdE a)) (d2:= .str (miE h)) (Ev.ite (p:=a.isNone) (O5 (B4 4 rfl rfl) zaq ?_) (λ q=>?_) λ q=>?_) (Ev.ite (p:=((zx3 h).length:Int) != 0) (zmj (B4 6 rfl rfl) (Tv.str (by omega))) (λ q=>?_) λ q=>?_) (zau ?_)) K0 (zau ?_)).eq ?_) ?_
 ·match a with
  |none=>exact Cm.is_none_none
  |some x=>exact znk (by simp[zlc])
 ·match a,q with
  |none,_=>exact K0
 ·match a,q,hal with
  |some x,_,hx=>exact G4 (B4 4 rfl rfl) K0 (zau (A7 (G3 (hx x rfl) 2) (by decide+kernel)))
 ·refine(G4 (G4 K0 (B4 6 rfl rfl) (zau (A7 (Q2 hil.1 3) (by decide+kernel:3+20<=H5)))) K0 (zau ?_)).eq ?_
  ·rw[M2];exact A7 (G3 (Q2 hil.1 3) 1) (by decide+kernel:3+20+1<=H5)
  ·unfold miE
   rw[if_neg];intro e;have:=hia.mpr e;rw[this] at q;cases q
 ·refine Ev.cstr.eq ?_
  unfold miE;rw[if_pos];refine hia.mp ?_;have:((zx3 h).length:Int)=0:=by simpa using q
  omega
 ·have h1: ∀h∈hidL,(miE h).length<=30:=by decide+kernel
  have h2: ∀a∈ahL,(hdE a).length<=30:=by decide+kernel
  exact A7 (I5 (h2 a ham) (h1 h hhm)) (by decide+kernel)
 ·have h1: ∀h∈hidL,(miE h).length<=30:=by decide+kernel
  have h2: ∀a∈ahL,(hdE a).length<=30:=by decide+kernel
  rw[M2];exact A7 (G3 (I5 (h2 a ham) (h1 h hhm)) 13) (by decide+kernel:30+30+13<=H5)
 ·exact congrArg D.str (yb9 h hhm a ham)
 refine Wx.own 8 (show 8<14 by decide) rfl (Nl.bin (za9 (lo:=["k"]) (kx:=[false]) (fr:=[5,0]) (λ j=>true) (yej u ps) (zbu (gj:=[]) (by show zii FTab.nm FTab.kl (FTab.gn.map (·.1)) _ _ _ _ _=true;decide+kernel))
  (zbz (n:=(ps.length:Int)) hh (G7 2 rfl) (B8 ((V0 (G7 1 rfl) (B8 (B4 0 rfl rfl) D9) (zb1 (by rw[hzp];exact C2 hn3 (by decide)))).eq (by rw[hzp])) D9) (H1.mpr (A7 hn3 (by decide))) (nlb _)) rfl (by simp[Q3];exact A7 hn3 (by decide+kernel)) ?_).ev (X1 (B8 (Z1 (B8 K0 (B8 (B4 7 rfl rfl) D9))) D9)).ev (Bn.add (by rw[Q5];simp[Q3];exact A7 (G3 hn3 1) (by decide+kernel)))) λ R hR=>?_
 ·intro L b d hd Da acc fx gs
  rw[C0] at hd;obtain⟨k,hk,rfl⟩:=C5.mp hd;have hkm:k<ps.length:=I8.mp hk;have hk0:=z0 k;have hk3:=C9 hkm hn3;refine⟨zc8,λ j=>?_⟩;refine(Z1 (B8 (O1 (O1 (B4 1 rfl rfl) D5 (T6 (by decide) nA.1 nz)) (B4 0 rfl rfl) (Gi.str (zn k) (by omega) (by rw[hk0];exact(na k hk3).1))) (B8 (O1 (B4 2 rfl rfl) (B4 0 rfl rfl) (T6 (d:= .str (ps.getD k "")) (zn k) (by rw[hk0,B7,B3 hkm,C8,B3 hkm];rfl) (by rw[hzp];exact A7 hn3 (by decide)))) D9))).eq ?_
  show _=D.tup [.str (chS (nmA u) (0+(k:Int)).toNat),.str (ps.getD (0+(k:Int)).toNat "")];rw[hk0];rfl
 refine Wx.mut 8 0 rfl rfl rfl hR (B8 (za9 (lo:=["k"]) (kx:=[false]) (fr:=[5,1]) (λ j=>true) (yei u ws) (zbu (gj:=[3]) (by show zii FTab.nm FTab.kl (FTab.gn.map (·.1)) _ _ _ _ _=true;decide+kernel))
  (zbz (n:=(ps.length:Int)) hh (G7 2 rfl) (B8 ((V0 (G7 1 rfl) (B8 (B4 0 rfl rfl) D9) (zb1 (by rw[hzp];exact C2 hn3 (by decide)))).eq (by rw[hzp])) D9) (H1.mpr (A7 hn3 (by decide))) (nlb _)) rfl (by simp[Q3];exact A7 hn3 (by decide+kernel)) ?_).ev D9) (Lm.extend (by rw[Q5];simp[Q3];exact C2 (I5 (G3 hn3 1) hn3) (by decide))) zpo PySem.F.type_list_extend ?_
 ·intro L b d hd Da acc fx gs
  rw[C0] at hd;obtain⟨k,hk,rfl⟩:=C5.mp hd;have hkm:k<ps.length:=I8.mp hk;have hk0:=z0 k;have hk3:=C9 hkm hn3;have hwk:k<ws.length:=lq hkm hw;have hwz:=o.z (ws.getD k 0) (getD_mem hwk);refine⟨zc8,λ j=>?_⟩;refine(Z1 (B8 (O1 (O1 (B4 1 rfl rfl) D5 (T6 (by decide) nA.2 nz)) (B4 0 rfl rfl) (Gi.str (zn k) (by omega) (by rw[hk0];exact(na k hk3).2))) (B8 (Ev.callT (G7 0 rfl) (B8 (O1 (B4 2 rfl rfl) (B4 0 rfl rfl) (T6 (d:= .int (ws.getD k 0)) (zn k) (by rw[hk0];exact getD_some hwk) (by rw[hzw,hw];exact A7 hn3 (by decide)))) D9) (Bf.strI ?_)) D9))).eq ?_
  ·have:(ws.getD k 0).natAbs<10^9:=X2.mp (by rw[zdz hwz.1];exact hwz.2)
   rcases zbp (ws.getD k 0).natAbs with q|q
   ·rw[q];decide
   ·have:=(yar (by omega)).mpr (show(ws.getD k 0).natAbs<2^30 by omega)
    omega
  show _=D.tup [.str (chS (nmB u) (0+(k:Int)).toNat),.str (num (ws.getD (0+(k:Int)).toNat 0))];rw[hk0];rfl
 refine Wx.disown 8 0 rfl rfl ?_;have fin:((Q3 0 ((ps.length:Int)).toNat).filter λ j=>true).map (yej u ps)++[D.tup [.str "x",.str (zee h a)]]++((Q3 0 ((ps.length:Int)).toNat).filter λ j=>true).map (yei u ws)=zj9 (zhr u ps ws (zee h a)):=by
  rw[Q5,C0];unfold zhr dA dB zj9 Q3;rw[J2,J2,E6,E6,E6,E6];refine congr (congrArg _ (congr (congrArg _ (H6 λ k j=>?_)) rfl)) (H6 λ k j=>?_)
  ·show D.tup [.str (chS (nmA u) (0+(k:Int)).toNat),.str (ps.getD (0+(k:Int)).toNat "")]=_
   rw[z0];rfl
  ·show D.tup [.str (chS (nmB u) (0+(k:Int)).toNat),.str (num (ws.getD (0+(k:Int)).toNat 0))]=_
   rw[z0];rfl
 rw[<-fin] at rest;exact rest
end
section
variable{w:E3}{c:Cx}{H:Hm}{V:List (Option D)}
theorem Ev.sliceU {f:Bool}{value:Expr}{lower upper:Option Expr}{p pos:Pos}{x:Str}{lo hi:Option Int}(h:Ev G0 w c H V f value (.str x))(hl:Pt G0 w c H V lower lo)(hu:Pt G0 w c H V upper hi)(hz:x.length<=H5):
 Ev G0 w c H V f (.Subscript value (.Slice lower upper none p) pos) (.str (T9 x lo hi)):=by
 refine .mk' λ s F Q E k=>?_;refine zs4 (T:= "str") zf6.lookup (h.r F λ v s1 g1 r1=>wpAny_Slice (hl.h s1 (F.onto g1) _ _ λ l s2 g2 e1=>hu.h s2 ((F.onto g1).onto g2) _ _ λ u s3 g3 e2=>?_));rw[zz7];obtain⟨t,rfl⟩:=r1.str_inv;refine C4 ⟨zbt _ x t,zyj (l:=l) (u:=u) (st:=none) ⟨_,D8 _ rfl,rfl,rfl⟩ rfl ?_⟩;subst e1 e2;refine zug ⟨A7 (zjw x _ _) hz,λ t' tk=>?_⟩;exact k (.str (T9 x (l.map (·.1)) (u.map (·.1))) t') _ (((g1.trans g2).trans g3).trans (zmn s3 _ tk)) .str'
end
noncomputable def dirtyB (b:Bool)(x:Str):Bool:=x.cps.toList.any λ c=>if b then zr5 c else zx1 c
theorem dirtyB.ok {b:Bool}{x:Str}(h:dirtyB b x=true):zjq b x:=by
 unfold dirtyB at h;obtain⟨c,hc,hq⟩:=List.any_eq_true.mp h;obtain⟨i,hi,rfl⟩:=List.getElem_of_mem hc;have hi':i<x.cps.size:=by simpa using hi
 refine⟨i,hi',?_⟩;have:x.cps.getD i 0=x.cps.toList[i]:=by simp[Array.getD,hi']
 rw[this]
 cases b<;>simpa using hq
noncomputable def eL:List Str:=["\n","\r"]
noncomputable def zfu (e:Str)(j k:Nat):Str:=if k=j then e else ""
noncomputable abbrev lpS:Str:= "("
theorem ycq: ∀e∈eL,∀j∈[0,1,2],(dirtyB false (lpS++zfu e j 1)||(cleanB false (lpS++zfu e j 1)&&dirtyB false (lpS++zfu e j 2))||(cleanB false (lpS++zfu e j 1)&&cleanB false (lpS++zfu e j 2)&&dirtyB true (xS++zfu e j 0)))=true:=by decide+kernel
theorem ycp: ∀e∈eL,∀j∈[0,1,2],(xS++zfu e j 0).length<=10/\(lpS++zfu e j 1).length<=10/\(lpS++zfu e j 2).length<=10/\(zbx (lpS++zfu e j 2) ⟨#[92]⟩ ⟨#[92,92]⟩).length<=10000/\(zu5 (lpS++zfu e j 2)).length<=100000/\(zfu e j 0).length<=5/\(zfu e j 1).length<=5/\(zfu e j 2).length<=5:=by decide+kernel
theorem zzb {e:Str}{j:Nat}(he:e∈eL)(hj:j∈[0,1,2]):zjq false (lpS++zfu e j 1)\/(zc7 false (lpS++zfu e j 1)/\zjq false (lpS++zfu e j 2))\/(zc7 false (lpS++zfu e j 1)/\zc7 false (lpS++zfu e j 2)/\zjq true (xS++zfu e j 0)):=by
 have:=ycq e he j hj;simp only[Bool.or_eq_true,O2] at this;rcases this with(h|⟨h1,h2⟩)|⟨⟨h1,h2⟩,h3⟩
 ·exact .inl (dirtyB.ok h)
 ·exact .inr (.inl ⟨zb5 h1,dirtyB.ok h2⟩)
 ·exact .inr (.inr ⟨zb5 h1,zb5 h2,dirtyB.ok h3⟩)
section
variable{w:E3}
noncomputable abbrev vT2 (ps:List Str)(ws:List Int)(cell u:Nat)(h a:Option Str)(l:List (Option D)):List (Option D):=vT ps ws cell ([some (zlc h),some (zlc a),some (.lst ((znw u).map D.str)),some (.str (zx3 h)),some (.str (zee h a)),some (.lst (zj9 (zhr u ps ws (zee h a))))]++l)
theorem zyu {A:H2}{env:Env}{b:A8}{K:List Addr}{dk:List (Addr×Obj)}{lv:Nat}{ps:List Str}{ws:List Int}{cell:Nat}(hh:A.handled=none)(o:PsOk ps ws)(hlv:10<=lv)
 {h a:Option Str}(hhm:h∈hidL)(ham:a∈ahL){u:Nat}(hu:u=0\/u=1){P:Flow->A8->Prop}{E:Value->A8->Prop}
 (rest: ∀I Dd L ox od,Tbl I Dd L ox od->OkW (FTab.cxw A env b K [] dk lv) L->b.heap.objs.size<=I/\b.heap.objs.size<=Dd->L∉K->
   Wx G0 w (FTab.cxw A env b K [] dk lv) ⟨[(L,zj9 (zhr u ps ws (zee h a)))],[(I,ox),(Dd,od)],[]⟩ (vT2 ps ws cell u h a [some (.ptr I),none,none,none,none]) (FTab.body.drop 9) P E):
 Wx G0 w (FTab.cxw A env b K [] dk lv) h0 (vT2 ps ws cell u h a [none,none,none,none,none]) (FTab.body.drop 7) P E:=by
 refine Wx.mkTbl 9 hh (show 9<14 by decide) rfl (G7 0 rfl) (by show 4<=lv+1;omega) λ I Dd L ox od T hL hID hLK=>?_
 have hlen:(zj9 (zhr u ps ws (zee h a))).length<=7:=by rw[B5];exact zoz o
 refine Wx.forX (items:=zj9 (zhr u ps ws (zee h a))) (zgr hh (B4 8 rfl rfl) zec).g (λ k=>[(L,zj9 ((zhr u ps ws (zee h a)).take k))]) (λ z=>vT2 ps ws cell u h a [some (.ptr I),none,none,none,none]) (λ z=>True) (by simp) rfl trivial (λ k=>rfl) (λ k d hd z fx gn hfx=>?_) λ z=>?_
 ·rw[B7] at hd
  obtain⟨p,hp,rfl⟩:=zda.mp hd;have hpm:=A6 hp;have hI:(I,ox)∈fx:=hfx _ A9;have hD:(Dd,od)∈fx:=hfx _ (B1 _ A9);have hz:(zj9 ((zhr u ps ws (zee h a)).take k)).length<=1000:=by
   rw[B5,U1];have:=zoz (u:=u) (v:=zee h a) o;omega
  have nx:zj9 ((zhr u ps ws (zee h a)).take k)++[.tup [.str p.1,.str p.2]]=zj9 ((zhr u ps ws (zee h a)).take (k+1)):=by
   rw[P4,hp];simp
  refine⟨_,zen 10 (show 10<14 by decide) rfl,?_⟩
  have g0:Gi G0 w (.tup [.str p.1,.str p.2]) (.int 0) (.str p.1):=Gi.tup (by decide) rfl (by simp)
  have g1:Gi G0 w (.tup [.str p.1,.str p.2]) (.int 1) (.str p.2):=Gi.tup (by decide) rfl (by simp)
  have done: ∀{rw0:D} {P0:Flow->A8->Prop} {E0:Value->A8->Prop},rw0= .tup [.str p.1,.str p.2]->Wx G0 w (FTab.cxw A env b K [] dk lv) ((⟨[(L,zj9 ((zhr u ps ws (zee h a)).take k))],fx,gn⟩:Hm).owns [(L,zj9 ((zhr u ps ws (zee h a)).take k)++[rw0])]) (vT2 ps ws cell u h a [some (.ptr I),some (.tup [.str p.1,.str p.2]),none,none,none]) []
   (LpP G0 (FTab.cxw A env b K [] dk lv) ⟨[(L,zj9 ((zhr u ps ws (zee h a)).take (k+1)))],fx,gn⟩ (vT2 ps ws cell u h a [some (.ptr I),none,none,none,none]) True P0) E0:=λ{rw0 P0 E0} e=>by
   subst e;rw[nx];refine zbw λ s F=>⟨trivial,F.weak (wkS (wkS (wkS (wkS (wkS (wkS (wkS (wkS (wkS (wkS (wkN (wkN (wkN (wkN wkE))))))))))))))⟩
  refine W3 (p:=p.1==xS) (O5 (O1 (B4 10 rfl rfl) D5 g0) K0 Cm.eqS) (λ q=>?_) λ q=>?_
  ·have hpx:=yg0 hu o hpm q
   refine Wx.addH (name:= "x") (val:=a) (ex:=exT h) 9 hh rfl rfl T hI hD rfl hL (AsP.cons EvQ.cstr (B8 (B4 4 rfl rfl) D9)) (KwE.cons (B4 3 rfl rfl) (KwE.cons K0 KwE.nil)) ydp (by decide) (addB.ok (yh6 h hhm a ham)) (zb5 (zqa xS A9).1) hz (by show 4<=lv+1;omega) (done ?_)
   rw[hpx];rfl
  ·obtain⟨ao,hcn⟩:=ydj hu o hpm q
   refine Wx.addH (name:=p.1) (val:=some p.2) (ex:=[]) 9 hh rfl rfl T hI hD rfl hL (AsP.cons (EvQ.sub (B4 10 rfl rfl) EvQ.cint g0) (B8 (O1 (B4 10 rfl rfl) D5 g1) D9)) KwE.nil ydr (by decide) ao hcn hz (by show 4<=lv+1;omega) (done ?_)
   exact yhu _ _
 ·have e:(zj9 (zhr u ps ws (zee h a))).length=(zhr u ps ws (zee h a)).length:=B5 ..
  rw[e,V5];exact rest I Dd L ox od T hL hID hLK
end
noncomputable def yhd (e:Str)(j:Nat):D->D
 | .int k=> .str (zfu e j k.toNat)
 |_=> .none
noncomputable def yev (rows:List (Str×Str)):D->D
 | .str x=> .lst ((zij rows x).map D.str)
 |_=> .none
noncomputable def yhc (ps:List Str)(ws:List Int):D->D
 | .int k=> .lst [.str (ps.getD k.toNat ""),.str (num (ws.getD k.toNat 0))]
 |_=> .none
noncomputable def zm9 (ps:List Str)(ws:List Int):List D:=(G2 ps.length).map λ k=> .lst [.str (ps.getD k ""),.str (num (ws.getD k 0))]
theorem zto (f:Nat->D)(n:Nat):zln (λ z=>true) f n=(G2 n).map f:=by
 unfold zln;rw[show(λ k=>if true=true then some (f k) else none)=some∘f from rfl,List.filterMap_eq_map]
theorem yca (l:List (Str×Str)):PlL 8 (l.map λ p=>D.lst [.str p.1,.str p.2])=true:=by
 induction l with
 |nil=>rfl
 |cons p r ih=>
  show(Pl 8 (.lst [.str p.1,.str p.2])&&PlL 8 (r.map λ p=>D.lst [.str p.1,.str p.2]))=true;rw[ih];rfl
theorem zwh:ze2 (.type "ValueError") (.type "ValueError")=pure true:=by first|rfl|kernel_rfl
theorem zwi:ze2 (.type "ValueError") (.type "BaseException")=pure true:=by first|rfl|kernel_rfl
theorem zzq:ze2 (.type ((zn7 "ValueError").elim "type" λ x=>x.metatype)) (.type "tuple")=pure false:=by first|rfl|kernel_rfl
section
variable{w:E3}
theorem ycc {A:H2}{env envL:Env}{b:A8}{K:List Addr}{oL:Obj}{Ll:Addr}{lv:Nat}{ps:List Str}{ws:List Int}{cell:Nat}(hh:A.handled=none)(hsc:env.scope=FTab.fd.scope)(o:PsOk ps ws)(hlv:10<=lv)
 (hfr:A.frames=some [env,envL])(hef:env.frame=some env.locals)(hfL:envL.frame=some Ll)(hkL:envL.scope.kind= .function)(hoL: ∃es ep,oL.data= .dict es ep)(hbL:b.heap.get? Ll=none)(hLb:Ll<b.heap.objs.size)
 {h a:Option Str}(hhm:h∈hidL)(ham:a∈ahL){u j:Nat}(hu:u=0\/u=1){e:Str}(hcz:cell<10^15)(he:eL[cell / 48 % 2]? =some e)(hj:j=cell / 96 % 3){I Dd L:Addr}{ox od:Obj}(T:Tbl I Dd L ox od)(hL:OkW (FTab.cxw A env b K [] [(Ll,oL)] lv) L)(hID:b.heap.objs.size<=I/\b.heap.objs.size<=Dd)
 {P:Flow->A8->Prop}{E:Value->A8->Prop}
 (hP: ∀v s H V,FrS G0 (FTab.cxw A env b K [] [(Ll,oL)] lv) H V s->Rp (hid K s.heap) (.tup [.lst (ps.map D.str),.lst (izD ws),.str (zee h a)]) v->P (.ret v) s):
 Wx G0 w (FTab.cxw A env b K [] [(Ll,oL)] lv) ⟨[(L,zj9 (zhr u ps ws (zee h a)))],[(I,ox),(Dd,od)],[]⟩ (vT2 ps ws cell u h a [some (.ptr I),none,none,none,none]) (FTab.body.drop 9) P E:=by
 have hsl:H5=16777216:=by decide
 have hem:e∈eL:=A6 he;have hjm:j∈[0,1,2]:=by
  have:cell / 96 % 3<3:=O9 _ (by decide)
  simp only[B9,D6,or_false];omega
 have hn:=o.n;have hn3:ps.length<=3:=by rcases hn with e|e<;>rw[e]<;>decide
 have hw:=o.w;have hzp:(ps.map D.str).length=ps.length:=B5 ..;have hzw:(izD ws).length=ws.length:=B5 ..;have q48:((cell:Int).fdiv 48).fmod 2=((cell / 48 % 2:Nat):Int):=by
  rw[show(48:Int)=((48:Nat):Int) from rfl,V6 _ (by omega),show((cell:Int) /((48:Nat):Int))=((cell / 48:Nat):Int) from rfl]
  exact zqi (b:=2)
 have q96:((cell:Int).fdiv 96).fmod 3=((cell / 96 % 3:Nat):Int):=by
  rw[show(96:Int)=((96:Nat):Int) from rfl,V6 _ (by omega),show((cell:Int) /((96:Nat):Int))=((cell / 96:Nat):Int) from rfl]
  exact zqi (b:=3)
 have eo:((Q3 0 (3:Int).toNat).filter λ y=>true).map (yhd e j)=[.str (zfu e j 0),.str (zfu e j 1),.str (zfu e j 2)]:=by
  rw[Q5];rfl
 have Z:=ycp e hem j hjm;have z1:=Z.1;have z2:=Z.2.1;have z3:=Z.2.2.1;have hdlen:(zj9 (zhr u ps ws (zee h a))).length<=7:=by rw[B5];exact zoz o
 have gO: ∀i:Nat,i<3->Gi G0 w (.lst [.str (zfu e j 0),.str (zfu e j 1),.str (zfu e j 2)]) (.int i) (.str (zfu e j i)):=λ i hi=>T6 (by omega) (by rw[C0];match i,hi with|0,_=>rfl|1,_=>rfl|2,_=>rfl) (by simp)
 refine Wx.asgE (lo:=["k"]) (kx:=[false]) (fr:=[2]) (λ y=>true) (yhd e j) 11 (show 11<14 by decide) rfl (zbu (gj:=[]) (by show zii FTab.nm FTab.kl (FTab.gn.map (·.1)) _ _ _ _ _=true;decide+kernel)) (zbz (n:=3) hh (G7 2 rfl) (B8 D5 D9) (by decide) (by decide)) rfl (by decide) ?_ (zhf hsc (by decide+kernel)) eo ?_
 ·intro L' b' d hd Da acc fx gs
  obtain⟨k,hk,rfl⟩:=C5.mp hd;have hk3:k<3:=I8.mp hk;have hk0:=z0 k;refine⟨zc8,λ y=>?_⟩;refine Ev.ite (d:= .str (zfu e j (0+(k:Int)).toNat)) (O5 (B4 0 rfl rfl) ((G4 (G4 (B4 1 rfl rfl) D5 (Bi.div (by decide) (P3 (by decide)))) D5 (zfs (by decide))).eq (by rw[q96])) Cm.eq) (λ q=>?_) λ q=>?_
  ·have hkj:k=j:=by
    have:(0+(k:Int))=((cell / 96 % 3:Nat):Int):=by simpa using q
    omega
   refine(O1 (X1 (B8 K0 (B8 K0 D9))).ev ((G4 (G4 (B4 1 rfl rfl) D5 (Bi.div (by decide) (P3 (by decide)))) D5 (zfs (by decide))).eq (by rw[q48])) (T6 (d:= .str e) (by omega) ?_ (by simp))).eq ?_
   ·rw[C0]
    have hm2:cell / 48 % 2<2:=O9 _ (by decide)
    match cell / 48 % 2,hm2,he with
    |0,_,e'=>cases e';rfl
    |1,_,e'=>cases e';rfl
   ·unfold zfu;rw[hk0,if_pos hkj]
  ·refine Ev.cstr.eq ?_
   have hkj:k≠j:=by
    intro q';have: ¬(0+(k:Int))=((cell / 96 % 3:Nat):Int):=by simpa using q
    omega
   unfold zfu;rw[hk0,if_neg hkj]
 refine Wx.tryAs (cls:= "ValueError") (m:=ycr) (outer:=[envL]) 12 (show 12<14 by decide) rfl rfl hh hfr hef zwi zzq zwh (by decide) (by decide) (λ p hp vs q=>?_) (λ y=>G7 4 rfl) (λ s F=>?_) (λ ex t oe ot X=>?_) ?_
 ·rw[B2.mp hp] at q
  obtain⟨es,ep,q'⟩:=hoL;rw[q'] at q;cases q
 ·have ffT: ∀s',FrS G0 (FTab.cxw A env b K [] [(Ll,oL)] lv) ⟨[(L,zj9 (zhr u ps ws (zee h a)))],[(I,ox),(Dd,od)],[]⟩ (vT2 ps ws cell u h a [some (.ptr I),none,some (.lst [.str (zfu e j 0),.str (zfu e j 1),.str (zfu e j 2)]),none,none]) s'->FF s'.heap [env,envL]:=λ s' F'=>by
   obtain⟨m,hm⟩:=F'.ns;refine FF.cons F'.ok.fn hef hm ?_;intro en hen;rw[B2.mp hen];obtain⟨sl,hsl⟩:=F'.dk (Ll,oL) A9;obtain⟨es,ep,q'⟩:=hoL;exact⟨by rw[hkL];decide,Ll,_,hfL,hsl,es,ep,q'⟩
  refine E8 (zgc (zux (name:=xS++zfu e j 0) (val:=lpS++zfu e j 1) (kv:=lpS++zfu e j 2) (outer:=[env,envL]) 9 hh rfl rfl T (by simp) (by simp) rfl hL
   (AsP.cons (EvQ.bin EvQ.cstr (O1 (B4 11 rfl rfl) D5 (gO 0 (by decide))) (zau (by show 1+(zfu e j 0).length<=_;omega))) (B8 (G4 K0 (O1 (B4 11 rfl rfl) D5 (gO 1 (by decide))) (zau (by show 1+(zfu e j 1).length<=_;omega))) D9))
   (KwE.cons (G4 K0 (O1 (B4 11 rfl rfl) D5 (gO 2 (by decide))) (zau (by show 1+(zfu e j 2).length<=_;omega))) KwE.nil) (by decide) (by show 4<=lv+1;omega) (by omega) (by omega) (by omega) Z.2.2.2.1 Z.2.2.2.2.1 (zzb hem hjm) hfr ffT F ?_) (by unfold zc4;rw[F.ok.fn];rfl) rfl)
  intro ex t tk S r s' Fr Tr hS;have nb: ∀a,b.heap.objs.size<=a->b.heap.get? a=none:=λ a ha=>by
   cases q:b.heap.get? a with
   |none=>rfl
   |some o'=>exact absurd (C6 q) (D7.mpr ha)
  have hl2: ∀a,a∈ybe [env,envL]->a=env.locals\/a=Ll:=λ a ha=>by
   rw[zd8 hef,zd8 hfL] at ha;simpa using ha
  refine⟨ex,.ref t,_,S,r,rfl,Fr,Tr,λ x hx=>by cases hx;exact⟨tk,rfl⟩,λ a ha=>?_,λ p hp hm=>?_⟩
  ·rcases hS a ha with q|q
   ·rcases hl2 a q with q|q
    ·rw[q];exact nb _ F.ok.lo
    ·rw[q];exact hbL
   ·exact nb _ (A7 F.go.size q)
  ·obtain⟨f1,_,_,f4,_⟩:=F.fix p.1 p.2 hp
   have hpz:b.heap.objs.size<=p.1:=by
    simp only[B9,D6,or_false] at hp;rcases hp with rfl|rfl
    ·exact hID.1
    ·exact hID.2
   rcases hS p.1 hm with q|q
   ·rcases hl2 _ q with q|q
    ·exact f4 q
    ·rw[q] at hpz;exact absurd hLb (D7.mpr hpz)
   ·exact absurd (C6 f1) (D7.mpr q)
 ·refine W3 (p:=false) ((Ts.bo (Al.or (p:=false) ((O5 (Ev.strExc 12 rfl rfl X (by simp) (by simp) (G7 3 rfl)) K0 Cm.neS).eq (by simp)) λ y=>Al.or (p:=false) (Ts.cmpO (Ev.items 9 rfl rfl T (by simp) (by simp) A9 (by show 2<=lv+1;omega) (by omega)) (B4 8 rfl rfl) (zkf (yee _))) λ y=>zmt))) (λ q=>by cases q) λ y=>?_
  exact zbw λ s F=>⟨rfl,F⟩
 have hz7:(zhr u ps ws (zee h a)).length<=7:=zoz o;have en:((G2 ps.length).map λ k=>D.str (chS "Abc" k))=zkx (T9 "Abc" none (some (ps.length:Int))):=by
  rcases hn with q|q<;>(rw[q];rfl)
 have ab: ∀k∈[0,1,2],(P1 (chS "Abc" k)).length<=10/\cleanB true (P1 (chS "Abc" k))=true:=by decide+kernel
 have k3: ∀k,k<ps.length->k∈[0,1,2]:=λ k hk=>by simp only[B9,D6,or_false];exact o3 (C9 hk hn3)
 have et:((zkx (T9 "Abc" none (some (ps.length:Int)))).filter λ y=>true).map (yev (zhr u ps ws (zee h a)))=zm9 ps ws:=by
  rw[Q5,<-en,E6];refine H6 λ k hk=>?_;show D.lst ((zij (zhr u ps ws (zee h a)) (chS "Abc" k)).map D.str)=_;rw[ycb hu o (I8.mp hk)];rfl
 refine Wx.asgX (lo:=["name"]) (kx:=[false]) (fr:=[9]) (λ y=>true) (yev (zhr u ps ws (zee h a))) 13 (show 13<14 by decide) rfl (zbu (gj:=[]) (by show zii FTab.nm FTab.kl (FTab.gn.map (·.1)) _ _ _ _ _=true;decide+kernel))
  (zgr hh (Ev.sliceU (lo:=none) (hi:=some (ps.length:Int)) K0 Pt.none (Pt.some ((V0 (G7 1 rfl) (B8 (B4 0 rfl rfl) D9) (zb1 (by rw[hzp];exact C2 hn3 (by decide)))).eq (by rw[hzp]))) (by decide)) Ib.str) rfl (by rw[<-en];simp;exact A7 hn3 (by decide+kernel)) ?_ (zhf hsc (by decide+kernel)) ?_
 ·intro L' b' d hd Da acc fx gs hq
  rw[<-en] at hd;obtain⟨k,hk,rfl⟩:=C5.mp hd;have hk1:=I8.mp hk;obtain⟨a1,a2⟩:=ab k (k3 k hk1);exact⟨zc8,λ y=>Ev.getAll 1 rfl rfl T (hq _ (by simp)) (hq _ (by simp)) (B1 _ A9) (B8 (B4 0 rfl rfl) D9) hh (by show 4<=lv+1;omega) (by omega) (zsf hu o) (zjj a1) (zb5 a2)⟩
 rw[et];obtain⟨gB,gX⟩:=yeu (v:=zee h a) hu o;have tp:PlL 8 (zm9 ps ws)=true:=by
  have:=yca ((G2 ps.length).map λ k=>(ps.getD k "",num (ws.getD k 0)));rw[E6] at this;exact this
 have er:((Q3 0 ((ps.length:Int)).toNat).filter λ y=>true).map (yhc ps ws)=zm9 ps ws:=by
  rw[Q5,C0];unfold Q3 zm9;rw[E6];refine H6 λ k y=>?_;show D.lst [.str (ps.getD (0+(k:Int)).toNat ""),.str (num (ws.getD (0+(k:Int)).toNat 0))]=_;rw[z0]
 have kB:(P1 "B").length<=10/\cleanB true (P1 "B")=true/\(P1 "X").length<=10/\cleanB true (P1 "X")=true:=by decide+kernel
 have h1p:1<ps.length:=by rcases hn with e|e<;>rw[e]<;>decide
 refine W3 (p:=false) (Ts.bo (Al.or (p:=false) (O5 (B4 13 rfl rfl) ((za9 (lo:=["k"]) (kx:=[false]) (fr:=[0,1]) (λ y=>true) (yhc ps ws) (zbu (gj:=[3]) (by show zii FTab.nm FTab.kl (FTab.gn.map (·.1)) _ _ _ _ _=true;decide+kernel))
  (zbz (n:=(ps.length:Int)) hh (G7 2 rfl) (B8 ((V0 (G7 1 rfl) (B8 (B4 0 rfl rfl) D9) (zb1 (by rw[hzp];exact C2 hn3 (by decide)))).eq (by rw[hzp])) D9) (H1.mpr (A7 hn3 (by decide))) (nlb _)) rfl (by simp[Q3];exact A7 hn3 (by decide+kernel)) ?_).ev.eq (by rw[er])) (zkf tp)) λ y=>
  Al.or (p:=false) ((O5 ((Ev.get 9 rfl rfl T (by simp) (by simp) A9 (B8 K0 D9) hh (by show 4<=lv+1;omega) (by omega) (zsf hu o) (zjj kB.1) (zb5 kB.2.1)).eq (d':= .str (ps.getD 1 "")) (by rw[gB];rfl)) (O1 (B4 0 rfl rfl) D5 (T6 (d:= .str (ps.getD 1 "")) (by decide) (by rw[B7];show zep D.str ps[1]? =_;rw[B3 h1p,C8,B3 h1p];rfl) (by rw[hzp];exact A7 hn3 (by decide)))) Cm.neS).eq (by simp)) λ y=>zmt)) (λ q=>by cases q) λ y=>?_
 ·intro L' b' d hd Da acc fx gs
  rw[C0] at hd;obtain⟨k,hk,rfl⟩:=C5.mp hd;have hkm:k<ps.length:=I8.mp hk;have hk0:=z0 k;have hwk:k<ws.length:=lq hkm hw;have hwz:=o.z (ws.getD k 0) (getD_mem hwk);refine⟨zc8,λ y=>?_⟩;refine(X1 (B8 (O1 (B4 1 rfl rfl) (B4 0 rfl rfl) (T6 (d:= .str (ps.getD k "")) (zn k) (by rw[hk0,B7,B3 hkm,C8,B3 hkm];rfl) (by rw[hzp];exact A7 hn3 (by decide)))) (B8 (Ev.callT (G7 0 rfl) (B8 (O1 (B4 2 rfl rfl) (B4 0 rfl rfl) (T6 (d:= .int (ws.getD k 0)) (zn k) (by rw[hk0];exact getD_some hwk) (by rw[hzw,hw];exact A7 hn3 (by decide)))) D9) (Bf.strI ?_)) D9))).ev.eq ?_
  ·have:(ws.getD k 0).natAbs<10^9:=X2.mp (by rw[zdz hwz.1];exact hwz.2)
   rcases zbp (ws.getD k 0).natAbs with q|q
   ·rw[q];decide
   ·have:=(yar (by omega)).mpr (show(ws.getD k 0).natAbs<2^30 by omega)
    omega
  show _=D.lst [.str (ps.getD (0+(k:Int)).toNat ""),.str (num (ws.getD (0+(k:Int)).toNat 0))];rw[hk0];rfl
 have tz:(zm9 ps ws).length=ps.length:=by unfold zm9;simp
 have tg: ∀(k:Nat) d,(zm9 ps ws)[k]? =some d->k<ps.length/\d= .lst [.str (ps.getD k ""),.str (num (ws.getD k 0))]:=λ k d hd=>by
  unfold zm9 at hd;rw[B7] at hd;obtain⟨k',hk',rfl⟩:=zda.mp hd;have hk2:=(C7.mp hk').1;rw[N6 (by simpa using hk2)] at hk'
  cases hk';exact⟨by simpa using hk2,rfl⟩
 have c1:zln (λ y=>true) (λ k=>D.str (ps.getD k "")) (zm9 ps ws).length=ps.map D.str:=by
  rw[tz,zto];apply T3;intro i;rw[B7,B7];rcases O3 i ps.length with q|q
  ·rw[N6 q,B3 q]
   simp[C8,q]
  ·rw[H9 (by simpa using q),H9 q];rfl
 have c2:zln (λ y=>true) (λ k=>D.int (ws.getD k 0)) (zm9 ps ws).length=izD ws:=by
  rw[tz,zto];unfold izD;apply T3;intro i;rw[B7,B7];rcases O3 i ps.length with q|q
  ·have q':i<ws.length:=lq q hw
   rw[N6 q,B3 q'];simp[C8,q']
  ·rw[H9 (by simpa using q),H9 (by rw[hw];simpa using q)];rfl
 refine Wx.retT (d:= .tup [.lst (ps.map D.str),.lst (izD ws),.str (zee h a)]) (Z1 (B8 ((Nl.comp (lo:=["pair"]) (kx:=[false]) (fr:=[]) (λ y=>true) (λ k=>D.str (ps.getD k "")) (zbu (gj:=[]) (by show zii FTab.nm FTab.kl (FTab.gn.map (·.1)) _ _ _ _ _=true;decide+kernel)) (zgr hh (B4 13 rfl rfl) zec) rfl (by rw[tz];exact A7 hn3 (by decide+kernel)) ?_).ev.eq (by rw[c1]))
  (B8 ((Nl.comp (lo:=["pair"]) (kx:=[false]) (fr:=[]) (λ y=>true) (λ k=>D.int (ws.getD k 0)) (Sco.ofX (gj:=[]) [2] (by show zii FTab.nm FTab.kl (FTab.gn.map (·.1)) _ _ _ _ _=true;decide+kernel) (by decide+kernel)) (zgr hh (B4 13 rfl rfl) zec) rfl (by rw[tz];exact A7 hn3 (by decide+kernel)) ?_).ev.eq (by rw[c2]))
  (B8 ((Ev.get 9 rfl rfl T (by simp) (by simp) A9 (B8 K0 D9) hh (by show 4<=lv+1;omega) (by omega) (zsf hu o) (zjj kB.2.2.1) (zb5 kB.2.2.2)).eq (d':= .str (zee h a)) (by rw[gX];rfl)) D9)))) λ v s' F r=>hP v s' _ _ F (r.sub λ a ha=>D3 _ ha)
 ·rintro c' ⟨L',b',rfl⟩ k d hd Da acc fx gs hq
  obtain⟨hk,rfl⟩:=tg k d hd;exact⟨zc8,λ y=>O1 (B4 0 rfl rfl) D5 (T6 (by decide) rfl (by simp))⟩
 ·rintro c' ⟨L',b',rfl⟩ k d hd Da acc fx gs hq
  obtain⟨hk,rfl⟩:=tg k d hd;have hwz:=o.z (ws.getD k 0) (getD_mem (lq hk hw));exact⟨zc8,λ y=>Ev.callT (G7 0 rfl) (B8 (O1 (B4 0 rfl rfl) D5 (T6 (d:= .str (num (ws.getD k 0))) (by decide) rfl (by simp))) D9) (Bf.intS hwz.1 (Int.lt_trans hwz.2 (by decide)))⟩
end
section
variable{w:E3}{c:Cx}{H:Hm}{V:List (Option D)}{s s':A8}
theorem FrS.landB {G:Gt}(F:FrS G c H V s)(hwr:c.wr=[])(hdk:c.dk=[]){oL:Obj}(hL:s.heap.get? c.env.locals=some oL)(hLd: ∃es ep,oL.data= .dict es ep)(tbB:Tb (zbm s.heap [c.env.locals]))(g:Go {s with heap:=zbm s.heap [c.env.locals]} s')(hsl: ∃sl,s'.heap.get? c.env.locals=some {oL with slots:=sl}):FrS G c H V s':=by
 obtain⟨es,ep,hd⟩:=hLd;have kp: ∀{a:Addr} {o:Obj},a≠82->a≠89->a≠c.env.locals->s.heap.get? a=some o->s'.heap.get? a=some o:=λ{a o} h1 h2 h3 e=>g.keep a o h1 h2 (by
  show(zbm s.heap [c.env.locals]).get? a=some o;rw[zg4 (by simpa using h3)];exact e)
 have kn: ∀{a:Addr} {o:Obj},NoF o->(∀es ep,o.data≠ .dict es ep)->s.heap.get? a=some o->s'.heap.get? a=some o:=λ{a o} n nd e=>
  kp (F.tb.off e n).1 (F.tb.off e n).2 (λ q=>by rw[q,hL] at e;cases e;exact nd _ _ hd) e
 have up:s.heap.UpToSlots s'.heap:=λ a o e hn=>by
  by_cases q:a=c.env.locals
  ·subst q;rw[hL] at e;cases e;exact hsl
  ·exact⟨o.slots,kp (F.tb.off e (.inl hn)).1 (F.tb.off e (.inl hn)).2 q e⟩
 have rp: ∀K b o,Sq o->hid K s.heap b=some o->hid K s'.heap b=some o:=by
  intro K b o hq q;rw[hid_some] at q ⊢;refine⟨q.1,kn (.seq hq) (λ es ep q'=>?_) q.2⟩;obtain⟨_,_,q''⟩:=hq;rw[q''] at q';cases q'
 have cell: ∀{a:Addr} {v:Option Value},s.heap.IsCell a v->s'.heap.IsCell a v:=λ{a v} ⟨o,h1,h2⟩=>⟨o,kn (.inl λ vs e=>by rw[h2] at e;cases e) (λ es ep q=>by rw[h2] at q;cases q) h1,h2⟩
 refine{ok:=F.ok,go:=?_,ns:=?_,vars:=?_,own:=?_,olo:=F.olo,ond:=F.ond,fix:=?_,gen:=?_,cells:=?_,hdA:=?_,dk:=?_}
 ·refine⟨λ a o h1 h2 h3 q=>kp h1 h2 (λ e=>?_) (F.go.keep a o h1 h2 h3 q),λ t=>g.tab tbB,?_,λ i x q=>g.gens i x (F.go.gens i x q),λ i x q=>?_,g.os.trans F.go.os⟩
  ·exact absurd (C6 q) (D7.mpr (by rw[e];exact F.ok.lo))
  ·have:=g.size
   have e:({s with heap:=zbm s.heap [c.env.locals]}:A8).heap.objs.size=s.heap.objs.size:=zn4 _ _;rw[e] at this;exact A7 F.go.size this
  ·rcases g.bare i x q with h|h
   ·exact F.go.bare i x h
   ·exact .inr h
 ·obtain⟨m,hm⟩:=F.ns
  exact⟨m,up.ns hm⟩
 ·intro i x d h1 h2
  obtain⟨v,h3,h4⟩:=F.vars i x d h1 h2;refine⟨v,?_,zeo (rp _) _ _ h4⟩
  cases h3 with
  |loc hk mm hn hm=>exact .loc hk mm (up.ns hn) hm
  |cel hk a hc hv=>exact .cel hk a hc (cell hv)
 ·intro a ds h
  obtain⟨o,vs,h1,hL',h2⟩:=F.own a ds h;refine⟨o,vs,kn (.seq hL'.sq) (λ es ep q=>?_) h1,hL',za4 (rp _) _ _ h2⟩;obtain⟨_,_,q'⟩:=hL'.sq;rw[q'] at q;cases q
 ·intro a o h
  obtain⟨h1,h2,h3,h4,h5⟩:=F.fix a o h;exact⟨kp h2.1 h2.2 h4 h1,h2,h3,h4,h5⟩
 ·intro p h
  exact⟨g.gens _ _ (F.gen p h).1,(F.gen p h).2⟩
 ·intro x a h
  obtain⟨v,h1⟩:=F.cells x a h;exact⟨v,cell h1⟩
 ·intro v q
  obtain⟨a,o,vs,e1,e2,e3,e4,e5⟩:=F.hdA v q;exact⟨a,o,vs,e1,kn e5 (λ es ep q'=>by rw[e3] at q';cases q') e2,e3,e4,e5⟩
 ·intro p hp
  rw[hdk] at hp;cases hp
theorem zwm {l:List (Option Str)}{i:Nat}(h:i<l.length): ∃x,l[i]? =some x:=⟨_,B3 h⟩
noncomputable def xV (cell:Nat):Str:=zee ((hidL[cell % 6]?).getD none) ((ahL[cell / 6 % 4]?).getD none)
theorem zyv {ps:List Str}{ws:List Int}{cell:Nat}{vs:List Value}(F:FrS G0 c H V s)(hh:c.A.handled=none)(hfr:c.A.frames=some [c.env])(hef:c.env.frame=some c.env.locals)(hwr:c.wr=[])(hdk:c.dk=[])(hlv:12<=c.lv+1)(o:PsOk ps ws)(hcz:cell<10^15)
 (r:RpL (hid (hk c H true) s.heap) [.lst (ps.map D.str),.lst (izD ws),.int cell] vs){Q E:Value->A8->Prop}
 (k: ∀v s',FrS G0 c H V s'->Rp (hid (hk c H true) s'.heap) (.tup [.lst (ps.map D.str),.lst (izD ws),.str (xV cell)]) v->Q v s'):D0 (D1 pw w) c.A (call (.ref 285) vs) Q E s:=by
 obtain⟨v1,v2,v3,rfl,r1,r2,r3⟩:=RpL.i3 r;obtain⟨m,hm⟩:=F.ns;obtain⟨oL,es,ep,hL,hLd,_⟩:=id hm;have nL:c.env.locals≠82/\c.env.locals≠89:=F.tb.off hL (.inl λ vs q=>by rw[hLd] at q;cases q)
 have hzb:(zbm s.heap [c.env.locals]).objs.size=s.heap.objs.size:=zn4 _ _;have tbB:Tb (zbm s.heap [c.env.locals]):=F.tb.butW (W:=[c.env.locals]) (by rw[hzb];exact D2 _) (λ b o' hb z e=>by rw[zg4 hb];exact e) λ a ha o' e=>by
  rw[B2.mp ha,hL] at e;cases e;exact .inl λ vs q=>by rw[hLd] at q;cases q
 have gcb:Go c.b {s with heap:=zbm s.heap [c.env.locals]}:=⟨λ a o' h1 h2 e=>by
  show(zbm s.heap [c.env.locals]).get? a=some o';rw[zg4 (by
   rw[B2];intro q;exact absurd (C6 e) (D7.mpr (by rw[q];exact F.ok.lo)))]
  exact F.go.keep a o' h1 h2 (by rw[hwr];exact λ h=>nomatch h) e,λ z=>tbB,by rw[hzb];exact F.go.size,F.go.gens,F.go.bare,F.go.os⟩
 have gbs:Go {s with heap:=zbm s.heap [c.env.locals]} s:=⟨λ a o' z z e=>ziu _ _ a o' e,λ z=>F.tb,by rw[hzb];exact D2 _,λ z z e=>e,λ z z e=> .inl e,rfl⟩
 have gndB:=F.ok.gnd.go gcb F.ok.tb;have lb:c.env.locals<s.heap.objs.size:=C6 hL;obtain⟨h,eh⟩:=zwm (l:=hidL) (i:=cell % 6) (O9 _ (by decide))
 obtain⟨a,ea⟩:=zwm (l:=ahL) (i:=cell / 6 % 4) (O9 _ (by decide))
 have hu:cell / 24 % 2=0\/cell / 24 % 2=1:=by have:cell / 24 % 2<2:=O9 _ (by decide);omega
 have ex:xV cell=zee h a:=by unfold xV;rw[eh,ea];rfl
 have e48: ∃e,eL[cell / 48 % 2]? =some e:=⟨_,B3 (O9 _ (by decide))⟩
 obtain⟨e,he⟩:=e48;rw[ex] at k;refine zmo (w:=w) FTab FokTab.b (l:=12) (b:={s with heap:=zbm s.heap [c.env.locals]}) (ow:=[]) (fx:=[]) (wr:=[]) (dk:=[(c.env.locals,oL)]) (V:=vT ps ws cell [none,none,none,none,none,none,none,none,none,none,none]) (K:=hk c H true) (by omega) (F.ok.rm.le hlv) F.gnd F.tb F.hdA gndB tbB gbs.toW (λ a ha=>by
  show a<(zbm s.heap [c.env.locals]).objs.size;rw[hzb];exact F.hlt a ha) (λ a h=>nomatch h) (λ p hp=>?_) (λ p hp=>?_) ⟨(λ a ds h=>nomatch h),U7⟩ (λ p h=>nomatch h) (λ p h=>nomatch h)
  (λ M A' E' Q' hq=>zgt (fd:=FTab.fd) (binds:=[("pieces",v1),("weights",v2),("cell",v3)]) rfl M A' E' Q' (hq s _ (M4 s) ?_)) λ Lo s2 F2 g2=>?_
 ·rw[B2.mp hp]
  exact⟨by show c.env.locals<(zbm s.heap [c.env.locals]).objs.size;rw[hzb];exact lb,(λ h=>nomatch h),nL⟩
 ·rw[B2.mp hp]
  exact⟨oL.slots,hL⟩
 ·rw[show hk c H true++([]:List (Addr×List D)).map (·.1)=hk c H true by simp]
  exact zg3 (by show([("pieces":Str),"weights","cell"]:List Str).Nodup;decide+kernel) (.cons r1 (.cons r2 (.cons r3 (.nil (wk0 (wk0 (wk0 (wk0 (wk0 (wk0 (wk0 (wk0 (wk0 (wk0 (wk0 wkE)))))))))))))))
 have W:=zyt (w:=w) (A:=c.A.deeper (H3 FTab.fd Lo FTab.f)) (env:=H3 FTab.fd Lo FTab.f) (b:={s with heap:=zbm s.heap [c.env.locals]}) (K:=hk c H true) (dk:=[(c.env.locals,oL)]) (lv:=10) (P:=λ f s'=> ∃v,f= .ret v/\Go {s with heap:=zbm s.heap [c.env.locals]} s'/\(∃sl,s'.heap.get? c.env.locals=some {oL with slots:=sl})/\Rp (hid (hk c H true) s'.heap) (.tup [.lst (ps.map D.str),.lst (izD ws),.str (zee h a)]) v) (E:=λ z z=>False) hh rfl o hcz (by omega) eh ea rfl
  (zyu (w:=w) (A:=c.A.deeper (H3 FTab.fd Lo FTab.f)) (env:=H3 FTab.fd Lo FTab.f) (b:={s with heap:=zbm s.heap [c.env.locals]}) (K:=hk c H true) (lv:=10) (dk:=[(c.env.locals,oL)]) hh o (by omega) (A6 eh) (A6 ea) hu λ I Dd L ox od T hLw hID hLK=>
    ycc (w:=w) (A:=c.A.deeper (H3 FTab.fd Lo FTab.f)) (env:=H3 FTab.fd Lo FTab.f) (b:={s with heap:=zbm s.heap [c.env.locals]}) (K:=hk c H true) (lv:=10) (envL:=c.env) (Ll:=c.env.locals) (oL:=oL) hh rfl o (by omega) (zb4 hfr) rfl hef F.ok.fn ⟨es,ep,hLd⟩ (zo6 A9) (by show c.env.locals<(zbm s.heap [c.env.locals]).objs.size;rw[hzb];exact lb) (A6 eh) (A6 ea) hu hcz he rfl T hLw hID λ v s' H' V' F' r'=>⟨v,rfl,F'.go.nil,F'.dk _ A9,r'⟩)
 refine E7 (W.h s2 F2) (λ f s' h=>?_) λ z z h=>h.elim;obtain⟨v,rfl,g,hsl,rv⟩:=h;exact k v s' (F.landB hwr hdk hL ⟨es,ep,hLd⟩ tbB g hsl) rv
end
noncomputable def L7 (m:Nat):Nat->List (List Nat)
 |0=>[[]]
 |n+1=>(G2 m).flatMap λ k=>(L7 m n).map (k:: ·)
noncomputable def ziv (ws:List Nat):List Nat->Nat
 |[]=>1
 |k::r=>ws.getD k 0*ziv ws r
noncomputable def zc3 (gs:List Int):List Nat->Nat
 |[]=>0
 |k::r=>(max 0 (gs.getD k 0+zc3 gs r)).toNat
theorem zfx (gs:List Int)(k:Nat)(r:List Nat):U9 gs (k::r)=gs.getD k 0+U9 gs r:=by unfold U9;simp
theorem zsy (gs:List Int)(w:List Nat):U9 gs w<=zc3 gs w:=by
 induction w with
 |nil=>exact V2 0
 |cons k r ih=>rw[zfx];exact E1 (zbc ih _) (E1 (zpg ..) (Int.self_le_toNat _))
noncomputable def zd6 (gs:List Int)(w:List Nat):Nat:=((zc3 gs w:Int)+7*(zc3 gs w-U9 gs w)).toNat
theorem zp7 (gs:List Int)(w:List Nat):((zd6 gs w:Nat):Int)=(zc3 gs w:Int)+7*(zc3 gs w-U9 gs w):=by
 exact L8 (zcx (E9 _) (zss (by decide) (Y2 (zsy gs w))))
theorem zcr {m n:Nat}: ∀{w:List Nat},w∈L7 m n->w.length=n/\ ∀k∈w,k<m:=by
 induction n with
 |zero=>intro w h;obtain rfl:=B2.mp h;exact⟨rfl,fmn⟩
 |succ n ih=>
  intro w h;obtain⟨k,hk,h⟩:=List.mem_flatMap.mp h;obtain⟨r,hr,rfl⟩:=C5.mp h;exact⟨congrArg (· +1) (ih hr).1,fmc (I8.mp hk) (ih hr).2⟩
theorem zbl {α β:Type}{c:Nat}{f:α->List β}(l:List α):(∀x∈l,(f x).length=c)->(l.flatMap f).length=l.length*c:=by
 induction l with
 |nil=>exact λ z=>(zea c).symm
 |cons a r ih=>
  intro h;rw[Y6,K1,h a A9,ih λ x hx=>h x (B1 _ hx),S7,zgg,Q9]
theorem znm (m n:Nat):(L7 m n).length=m^n:=by
 induction n with
 |zero=>rfl
 |succ n ih=>
  refine(zbl (c:=m^n) _ λ k z=>by rw[B5,ih]).trans ?_
  rw[zao,zxo,I7]
theorem zhj {gs:List Int}(hg: ∀g∈gs,-2<=g/\g<=2)(w:List Nat):zc3 gs w<=2*w.length/\(U9 gs w).natAbs<=2*w.length:=by
 induction w with
 |nil=>exact⟨D2 0,D2 0⟩
 |cons k r h1=>
  have h2: -2<=gs.getD k 0/\gs.getD k 0<=2:=by
   rw[C8]
   cases h:gs[k]? with
   |none=>simp
   |some g=>exact hg g (A6 h)
  rw[zfx,S7];have e:((2*(r.length+1):Nat):Int)=2+((2*r.length:Nat):Int):=by rw[R6,Q9,X3];rfl
  exact⟨O4.mpr (zt4.mpr ⟨E9 _,by rw[e];exact zk6 h2.2 (H1.mpr h1.1)⟩),A7 (zd0 ..) (by rw[R6,Q9];exact I5 h1.2 (abn (n:=2) h2.1 h2.2))⟩
theorem zl5 {gs:List Int}(hg: ∀g∈gs,-2<=g/\g<=2)(w:List Nat):zd6 gs w<=30*w.length:=by
 have h:=zhj hg w;have a:=H1.mpr h.1;refine H1.mp (by rw[zp7];exact E1 (zk6 a (zpf (zcg a (nab h.2).1) (by decide))) (by push_cast;omega))
theorem zfg {α:Type}(d:α)(l:List α):(G2 l.length).map (λ k=>l.getD k d)=l:=by
 apply T3;intro i;rw[B7];rcases O3 i l.length with hi|hi
 ·rw[N6 hi,B3 hi]
  simp[C8,B3 hi]
 ·rw[H9 (by simpa using hi),H9 hi];rfl
theorem zqw {ws:List Nat}(n m:Nat)(h:ws.length=m):((L7 m n).map (ziv ws)).sum=ws.sum^n:=by
 induction n with
 |zero=>rfl
 |succ n ih'=>
  show(((G2 m).flatMap λ k=>(L7 m n).map (k:: ·)).map (ziv ws)).sum=_;rw[zeg];have e: ∀k,((L7 m n).map (k:: ·)).map (ziv ws)=((L7 m n).map (ziv ws)).map (ws.getD k 0* ·):=λ k=>by rw[E6,E6];rfl
  have e2: ∀l:List Nat,∀c,(l.map (c* ·)).sum=c*l.sum:=λ l c=>by
   induction l with
   |nil=>simp
   |cons a r ih=>simp only[E5,H7,ih,R6]
  have e3: ∀l:List Nat,(l.flatMap λ k=>((L7 m n).map (k:: ·)).map (ziv ws)).sum=(l.map λ k=>ws.getD k 0).sum*ws.sum^n:=λ l=>by
   induction l with
   |nil=>simp
   |cons a r ih=>rw[Y6,zc2,ih,e,e2,ih',E5,H7,X8]
  rw[e3];rw[<-h,zfg,zxo,I7]
theorem zvt (rs:List Nat)(ms:List Int)(h:ms.length=rs.length):zrx rs ms=zu8 (λ(r:Nat) (m:Int)=>max 1 ((r:Int)+m).toNat) rs ms:=by
 unfold zrx;apply T3;intro i;rw[B7,List.getElem?_zipWith];rcases O3 i rs.length with hi|hi
 ·rw[N6 hi,B3 hi,B3 (lq hi h)]
  simp[C8,B3 hi,B3 (lq hi h)]
 ·rw[H9 (by simpa using hi),H9 hi];rfl
theorem zgz {α β γ δ:Type}(f:α->β->γ){a:δ->List α}{b:δ->List β}: ∀l:List δ,(∀k∈l,(a k).length=(b k).length)->zu8 f (l.flatMap a) (l.flatMap b)=l.flatMap λ k=>zu8 f (a k) (b k)
 |[],_=>rfl
 |k::r,h=>by
  rw[Y6,Y6,Y6,List.zipWith_append (h k A9),zgz f r λ x hx=>h x (B1 _ hx)]
noncomputable def zgo (gs:List Int)(m n:Nat):List Nat:=(L7 m n).map λ w=>zc3 gs w+1
theorem zvs (gs:List Int)(n:Nat):zrx (C1 gs.length (zgo gs gs.length n)).flatten (gs.flatMap λ g=>(L7 gs.length n).map λ z=>g)=zgo gs gs.length (n+1):=by
 generalize hm:gs.length=m;have e1:(C1 m (zgo gs m n)).flatten=(G2 m).flatMap λ z=>zgo gs m n:=by
  rw[List.flatMap_def,List.map_const',zao]
 have e2:(gs.flatMap λ g=>(L7 m n).map λ z=>g)=(G2 m).flatMap λ k=>(L7 m n).map λ z=>gs.getD k 0:=by
  conv=>lhs;rw[<-zfg 0 gs]
  rw[zaa,hm]
 have hl: ∀k∈G2 m,(zgo gs m n).length=((L7 m n).map λ z=>gs.getD k 0).length:=λ k z=>by unfold zgo;simp
 rw[e1,e2,zvt,zgz _ _ hl]
 ·show _=((G2 m).flatMap λ k=>(L7 m n).map (k:: ·)).map λ w=>zc3 gs w+1
  rw[zeg];congr 1;funext k;unfold zgo;rw[E6];generalize L7 m n=l
  induction l with
  |nil=>rfl
  |cons a r ih=>
   simp only[E5,List.zipWith_cons_cons,Function.comp_apply];rw[ih];congr 1;have e:zc3 gs (k::a)=(max 0 (gs.getD k 0+zc3 gs a)).toNat:=rfl;rw[e];show max 1 (((zc3 gs a:Nat):Int)+1+gs.getD k 0).toNat=_;rw[yb0,za6 (zc3 gs a:Int)];exact mx1 _
 ·rw[zbl (c:=(L7 m n).length) _ (λ k z=>by simp),zbl (c:=(L7 m n).length) _ (λ k z=>by unfold zgo;simp)]
noncomputable def SgI (ws:List Nat)(gs:List Int)(g:Int):Int:=(((G2 gs.length).filter λ k=>gs.getD k 0==g).map λ k=>(ws.getD k 0:Int)).sum
noncomputable def gainsL:List Int:=[-2,-1,0,1,2]
noncomputable def yc9 (Wd:Nat)(ws:List Nat)(gs:List Int):Int:=V4 Wd (gainsL.map (SgI ws gs))
noncomputable def zge (ws:List Nat)(gs:List Int)(n:Nat):List (Nat×Int):=(L7 gs.length n).map λ w=>(zd6 gs w,((ziv ws w:Nat):Int))
noncomputable def zdg (Wd f n:Nat):List Nat:=zhl Wd ((B6 ((f^n:Nat):Int)+Wd-1) / Wd) (f^n)
noncomputable def zam (n i:Nat):Nat:=(max ((i:Int)-2*n) (-7*((i:Int)-2*n))).toNat
noncomputable def zd7 (Wd f n:Nat):List (Nat×Int):=((G2 (zdg Wd f n).length).filter λ i=>(zdg Wd f n).getD i 0 != 0).map λ i=>(zam n i,(((zdg Wd f n).getD i 0:Nat):Int))
noncomputable def Y5 (Wd:Nat)(ws:List Nat)(gs:List Int)(n:Nat):Int:=zui Wd (zge ws gs n)
noncomputable def zil (Wd f n:Nat):Int:=zui Wd (zd7 Wd f n)
structure RdOk (pieces:List Str)(gs:List Int)(stretch:Str)(shift:Int)(j:Nat)(w:List Nat):Prop where
 yes:zrd (zd5 40 (zc3 gs w)++zpx pieces w (((j:Int)+shift).fmod 24).toNat stretch++zd5 41 (zc3 gs w-U9 gs w))=true
 no:((zc3 gs w:Int)>max 0 (U9 gs w)/\(gs.length=2\/j % 2=1))->zrd (zd5 40 (zc3 gs w-1)++zpx pieces w (((j:Int)+shift).fmod 24).toNat stretch++zd5 41 (zc3 gs w-1-U9 gs w))=false
structure RunOk (pieces:List Str)(ws:List Nat)(stretch:Str)(gs cells:List Int)(c3:Int)(c4 Wd f:Nat):Prop where
 m2:2<=gs.length
 m3:gs.length<=3
 pl:pieces.length=gs.length
 wl:ws.length=gs.length
 pz: ∀x∈pieces,x.length<=10
 sz:stretch.length<=60
 gb: ∀g∈gs,-2<=g/\g<=2
 wb:ws.sum<=14400000
 wp:0<ws.sum
 cl:cells.length=5
 e3:cells[3]? =some c3
 e4:cells[4]? =some (c4:Int)
 cb:c4<=1000000000
 wd:(B6 ((ws.sum:Int)^3):Int)+([1,5,90]:List Int).getD (((c4:Nat):Int).fmod 3).toNat 0=Wd
 fv:yc9 Wd ws gs=f
 fb:f<=ws.sum*2^(4*Wd)
 fp:0<f
 sb:ws.sum^3<2^Wd
 read: ∀n,1<=n->n<=3-> ∀j w,(L7 gs.length n)[j]? =some w->RdOk pieces gs stretch (c3.fdiv 288+18) j w
 sp: ∀n:Nat,1<=n->n<=3->(n:Int)*Y5 Wd ws gs n=((G2 n).map λ k=>zil Wd f (k+1)*Y5 Wd ws gs (n-(k+1))).sum
noncomputable def FRun:Fd where
 f:=305
 c:=304
 fd:=ye7
 ps:=["pieces","weights","stretch","gains","cells"]
 nm:=["pieces","weights","stretch","gains","cells","width","first","words","rows","amounts","forms","ends","size","places","figures","heights","room","down","turn","spare","whole"]
 kl:=[true,true,true,true,true,false,false,true,true,true,true,true,true,true,true,false,false,false,false,false,false]
 gn:=[("_digits2int",.ref 94),("_int2digits",.ref 87),("int_divmod",.ref 108),("_law_send",.ref 290),("_law_number",.ref 300),("sum",.builtin "sum"),("range",.type "range"),("len",.builtin "len")]
theorem yfx:Fok G0 FRun:=zgb (gi:=[5,4,7,23,25]) (bj:=[9,5,1]) rfl (by decide+kernel) (A6 (i:=23) rfl) (A6 (i:=23) rfl) rfl rfl ⟨rfl,rfl,rfl,rfl,rfl,rfl⟩
 (ygj λ a b c d e=>rfl)
noncomputable def yc5 (gs:List Int)(g:Int):D->Bool
 | .int i=>gs.getD i.toNat 0==g
 |_=>false
noncomputable def ygm (ws:List Nat):D->D
 | .int i=> .int (ws.getD i.toNat 0:Nat)
 |_=> .none
noncomputable def sgD (ws:List Nat)(gs:List Int):D->D
 | .int g=> .int (SgI ws gs g)
 |_=> .none
noncomputable abbrev wiD (ws:List Nat):List D:=izD (ws.map λ x:Nat=>(x:Int))
theorem yd3 {ws:List Nat}{k:Nat}(h:k<ws.length):(wiD ws)[k]? =some (.int (ws.getD k 0:Nat)):=by
 rw[B7,B7,B3 h,C8,B3 h];rfl
theorem ya0 (ws:List Nat):(ws.map λ x:Nat=>(x:Int)).sum=(ws.sum:Nat):=by
 induction ws with
 |nil=>rfl
 |cons a r ih=>rw[E5,H7,ih,H7];push_cast;rfl
theorem ygr (ws:List Nat)(gs:List Int)(g:Int):((Q3 0 gs.length).filter (yc5 gs g)).map (ygm ws)=izD (((G2 gs.length).filter λ k=>gs.getD k 0==g).map λ k=>(ws.getD k 0:Int)):=by
 unfold Q3;rw[zfc,E6];have:(yc5 gs g∘λ i:Nat=>D.int (0+(i:Int)))=λ k=>gs.getD k 0==g:=by
  funext k;show(gs.getD (0+(k:Int)).toNat 0==g)=_;rw[z0]
 rw[this];unfold izD;rw[E6];apply H6;intro k _;simp[ygm]
theorem zbi {x:Int}{n:Nat}(h:x.natAbs<2^n):B6 x<=n:=N8.mpr (by simpa using h)
theorem ybf {x:Nat}: ∀{l:List Nat},x∈l->x<=l.sum
 |a::r,h=>by
  rw[H7];rcases B9.mp h with e|h
  ·omega
  ·exact A7 (ybf h) (J6 ..)
theorem zl0 {elt:Expr}{gens:List Comprehension}{sc sc0:Scope}{pos p:Pos}{t:Str}{ln:Nat}{env:Env}(h:env.scope=sc0)
 (hb:((if sc0.kind.isAnnotationScope then zt0 else sc0.kind)== .function&&sc0.names.lookup t==some .local&&p.line==pos.line&& !(sc.names.any λ(n,k)=>n==t&&(k== .local||k== .cell)))=false):
 U6 (.ListComp elt gens sc pos) (some (.Name t p)) ln env=pure false:=by
 subst h;unfold U6;exact congrArg pure hb
theorem yda (Wd:Nat)(ws:List Nat)(gs:List Int):Y5 Wd ws gs 0=1:=by
 unfold Y5;exact(zab _).trans (zfq _)
noncomputable def yfp:D->D->D
 |a,.tup l=> .tup (a::l)
 |_,_=> .none
noncomputable def yhe:D->D->D
 | .int a,.int b=> .int (a*b)
 |_,_=> .none
theorem zyl (m n:Nat):((Q3 0 m).flatMap λ d=>((L7 m n).map zla).map (yfp d))=(L7 m (n+1)).map zla:=by
 show _=((G2 m).flatMap λ k=>(L7 m n).map (k:: ·)).map zla;unfold Q3;rw[zaa,zeg];congr 1;funext k;rw[E6,E6];apply H6;intro r _;show D.tup (D.int (0+(k:Int))::_)=_;rw[U0];rfl
theorem ydt {ws:List Nat}{m n:Nat}(h:ws.length=m):((wiD ws).flatMap λ d=>(wiD ((L7 m n).map (ziv ws))).map (yhe d))=wiD ((L7 m (n+1)).map (ziv ws)):=by
 show _=wiD (((G2 m).flatMap λ k=>(L7 m n).map (k:: ·)).map (ziv ws));have key: ∀F:Nat->List D,ws.flatMap F=(G2 m).flatMap λ k=>F (ws.getD k 0):=λ F=>by
  have e:ws=(G2 m).map λ k=>ws.getD k 0:=by rw[<-h];exact(zfg 0 ws).symm
  conv=>lhs;rw[e]
  rw[zaa]
 unfold wiD izD;simp only[zeg,zaa];rw[key];congr 1;funext k;simp only[E6];apply H6;intro r _;exact congrArg D.int (zfp _ _).symm
theorem zzf (gs:List Int)(l:List D):((izD gs).flatMap λ d=>l.map λ z=>d)=izD (gs.flatMap λ g=>l.map λ z=>g):=by
 unfold izD;rw[zaa,zeg];congr 1;funext g;rw[E6];rfl
noncomputable def plD (gs:List Int)(l:List (List Nat)):D->D
 | .int j=> .int (zd6 gs (l.getD j.toNat []):Nat)
 |_=> .none
theorem znt {α:Type}(d:α)(l:List α)(h:α->D)(g:D->D)(hg: ∀j:Nat,g (.int (j:Int))=h (l.getD j d)):((Q3 0 l.length).filter λ z=>true).map g=l.map h:=by
 rw[Q5];unfold Q3;rw[E6]
 conv=>rhs;rw[<-zfg d l]
 rw[E6];apply H6;intro j _;show g (.int (0+(j:Int)))=_;rw[U0,hg];rfl
noncomputable def prF (ws:List Nat)(gs:List Int)(l:List (List Nat)):D->D
 | .int j=> .tup [.int ((zd6 gs (l.getD j.toNat []):Nat):Int),.int ((ziv ws (l.getD j.toNat []):Nat):Int)]
 |_=> .none
noncomputable def hgD (n:Nat):D->D
 | .int k=> .int (k-2*((n:Int)))
 |_=> .none
noncomputable def nzP (fg:List Nat)(n:Nat):D->Bool
 | .int h=>fg.getD (h+2*(n:Int)).toNat 0 != 0
 |_=>false
noncomputable def egD (fg:List Nat)(n:Nat):D->D
 | .int h=> .tup [.int (if-7*h>h then-7*h else h),.int ((fg.getD (h+2*(n:Int)).toNat 0:Nat):Int)]
 |_=> .none
theorem zwn (n i:Nat):((zam n i:Nat):Int)=(if-7*((i:Int)-2*n)>(i:Int)-2*n then-7*((i:Int)-2*n) else(i:Int)-2*n):=by
 unfold zam;generalize (i:Int)-2*n=a;split<;>omega
theorem ydh (Wd f n:Nat):((((G2 (zdg Wd f n).length).map λ k:Nat=>D.int ((k:Int)-2*(n:Int)))).filter (nzP (zdg Wd f n) n)).map (egD (zdg Wd f n) n)=prD (zd7 Wd f n):=by
 unfold zd7 prD;rw[zfc,E6,E6];have:(nzP (zdg Wd f n) n∘λ k:Nat=>D.int ((k:Int)-2*(n:Int)))=λ i=>(zdg Wd f n).getD i 0 != 0:=by
  funext i;simp[nzP]
 rw[this];apply H6;intro i _;show D.tup [D.int (if-7*((i:Int)-2*(n:Int))>(i:Int)-2*(n:Int) then-7*((i:Int)-2*(n:Int)) else(i:Int)-2*(n:Int)),D.int (((zdg Wd f n).getD ((i:Int)-2*(n:Int)+2*(n:Int)).toNat 0:Nat):Int)]=D.tup [D.int ((zam n i:Nat):Int),D.int (((zdg Wd f n).getD i 0:Nat):Int)];rw[zwn,show((i:Int)-2*(n:Int)+2*(n:Int)).toNat=i from congrArg N7 (zmm (i:Int) (2*(n:Int)))]
theorem zb8 {a b:Nat}(h:a<=b):2^a<=2^b:=J1 (by decide) h
theorem zqm {Wd f s n:Nat}(h1:f<=s*2^(4*Wd))(h2:s^3<2^Wd)(hs:0<s)(hn:n<=3)(hW:0<Wd):f^n<2^(Wd*(4*n+1)):=by
 have h3:f^n<=(s*2^(4*Wd))^n:=zfm h1 n;have h4:s^n<=s^3:=J1 hs hn;rw[Nat.mul_pow,<-Nat.pow_mul] at h3;have h5:s^n*2^(4*Wd*n)<2^Wd*2^(4*Wd*n):=S1 (C2 h4 h2) (zhy (by decide))
 rw[<-P5] at h5;have:Wd+4*Wd*n=Wd*(4*n+1):=by
  rw[R6,W6,<-zbb,I7 Wd 4];omega
 rw[this] at h5;exact C2 h3 h5
theorem zti {Wd f s n:Nat}(h1:f<=s*2^(4*Wd))(h2:s^3<2^Wd)(hs:0<s)(hn:n<=3)(hW:0<Wd):(zdg Wd f n).length<=4*n+1:=by
 unfold zdg;rw[zdt];have hb:=zqm h1 h2 hs hn hW;have hi:=zbi (x:=((f^n:Nat):Int)) (n:=Wd*(4*n+1)) (by rw[K8];exact hb)
 have:(B6 ((f^n:Nat):Int)+Wd-1) / Wd<4*n+1+1:=by
  rw[O6 hW,I7,R6 Wd (4*n+1) 1,W6];exact C9 (zg8 (C9 hW (J6 ..)) Nat.one_pos) (G3 hi Wd)
 exact zdx this
theorem zs9 {l:List Nat}{k:Nat}(h:k<l.length):(zas l)[k]? =some (.int ((l.getD k 0:Nat):Int)):=by
 unfold zas;rw[B7,B3 h,C8,B3 h];rfl
theorem zmi (ws:List Nat)(gs:List Int)(n:Nat)(h:ws.length=gs.length):((zge ws gs n).map λ p=>p.2.natAbs).sum=ws.sum^n:=by
 unfold zge;rw[E6,<-zqw n gs.length h];congr 1
theorem zw1 {Wd:Nat}: ∀k x:Nat,∀d∈zhl Wd k x,d<2^Wd
 |0,x,d,h=>by unfold zhl at h;cases h
 |k+1,x,d,h=>by
  unfold zhl at h;rcases B9.mp h with e|h
  ·rw[e];exact O9 _ (zhy (by decide))
  ·exact zw1 k _ d h
theorem ztl (Wd f n:Nat)(h:(zdg Wd f n).length<=13):((zd7 Wd f n).map λ p=>p.2.natAbs).sum<=13*2^Wd:=by
 unfold zd7;rw[E6];have: ∀l:List Nat,(∀i∈l,(zdg Wd f n).getD i 0<2^Wd)->(l.map ((λ p:Nat×Int=>p.2.natAbs)∘λ i=>(zam n i,(((zdg Wd f n).getD i 0:Nat):Int)))).sum<=l.length*2^Wd:=by
  intro l
  induction l with
  |nil=>intro _;simp
  |cons a r ih=>
   intro hl;have h1:=hl a A9;have h2:=ih λ x hx=>hl x (B1 _ hx);rw[E5,H7,S7,zgg];have e:((λ p:Nat×Int=>p.2.natAbs)∘λ i=>(zam n i,(((zdg Wd f n).getD i 0:Nat):Int))) a=(zdg Wd f n).getD a 0:=rfl;rw[e,Q9];exact I5 h2 (K3 h1)
 refine A7 (this _ λ i hi=>?_) (I0 _ ?_)
 ·rw[C8]
  cases e:(zdg Wd f n)[i]? with
  |none=>exact zhy (by decide)
  |some d=>exact zw1 _ _ d (A6 e)
 ·exact A7 (zd2 _ _) (by rw[zao];exact h)
theorem zyn {n:Nat}{l:List Nat}(h: ∀d∈l,d=0):val n l=0:=by
 induction l with
 |nil=>rfl
 |cons d r ih=>
  show val n r*2^n+d=0;rw[h d A9,ih λ x hx=>h x (B1 _ hx),zea]
theorem zz4 {Wd f n:Nat}(hW:0<Wd):val Wd (zdg Wd f n)=f^n:=by
 unfold zdg;refine zsx Wd _ _ ?_;have h:=(N8 (x:=((f^n:Nat):Int)) (m:=B6 ((f^n:Nat):Int))).mp (D2 _);rw[K8] at h;exact C9 h (J1 (by decide) (zo3 hW))
theorem zv0 {Wd f n:Nat}(hW:0<Wd)(hf:0<f):zd7 Wd f n≠[]:=by
 intro e;have h0:0<f^n:=zhy hf;have h1:=zz4 (f:=f) (n:=n) hW;have h2:val Wd (zdg Wd f n)=0:=by
  refine zyn λ d hd=>?_;obtain⟨i,hi⟩:=K4.mp hd;unfold zd7 at e;rw[List.map_eq_nil_iff,List.filter_eq_nil_iff] at e;have hil:=(C7.mp hi).1;have:=e i (I8.mpr hil);rw[C8,hi] at this;simpa using this
 exact za1 h0 (h1.symm.trans h2)
theorem ztt {α:Type}(g:α->Nat): ∀l:List α,(l.map λ k=>((g k:Nat):Int)).sum=(((l.map g).sum:Nat):Int)
 |[]=>rfl
 |a::r=>by rw[E5,H7,ztt g r,E5,H7];push_cast;rfl
theorem zf1 {α:Type}(g:α->Nat)(p:α->Bool): ∀l:List α,((l.filter p).map g).sum<=(l.map g).sum
 |[]=>by simp
 |a::r=>by
  have:=zf1 g p r;rw[zcf];split<;>simp only[E5,H7]
  ·exact Q2 this _
  ·exact A7 this (J6 ..)
theorem zy1 {ws:List Nat}{gs:List Int}(h:ws.length=gs.length)(g:Int):(SgI ws gs g).natAbs<=ws.sum:=by
 unfold SgI;rw[ztt λ k=>ws.getD k 0,K8];refine A7 (zf1 _ _ _) ?_;rw[<-h,zfg 0 ws];exact D2 _
theorem znu (n M:Nat)(l:List (Nat×Int)):(∀p∈l,p.1<=M)->(zui n l).natAbs<=(l.map λ p=>p.2.natAbs).sum*2^(n*M):=by
 induction l with
 |nil=>exact λ z=>Q7 _
 |cons p r ih=>
  intro h;have ih:=ih λ q hq=>h q (B1 _ hq);have h1:2^(n*p.1)<=2^(n*M):=J1 (by decide) (G6 _ (h p A9))
  have h2:(p.2*2^(n*p.1)).natAbs=p.2.natAbs*2^(n*p.1):=by
   rw[Y7,zsr];rfl
  have h3:=zd0 (p.2*2^(n*p.1)) (zui n r);have h4:p.2.natAbs*2^(n*p.1)<=p.2.natAbs*2^(n*M):=G6 _ h1;rw[E5,H7,X8];rw[h2] at h3;exact A7 h3 (I5 h4 ih)
theorem zk0 {n i:Nat}(hn:n<=3)(hi:i<=13):zam n i<=42:=by
 have h1:(i:Int)-2*n<=13:=E1 (Int.sub_le_self _ (E9 (2*n))) (H1.mpr hi);have h2: -6<=(i:Int)-2*n:=zcg (E9 i) (H1.mpr (G6 2 hn):((2*n:Nat):Int)<=6);unfold zam;exact O4.mpr (zt4.mpr ⟨E1 h1 (by decide),by omega⟩)
theorem yed {Wd x b:Nat}(h1:1<=Wd)(h2:Wd<=162)(hb1:2^(49*Wd)-1<=b)(hb2:b<=3*(2^(49*Wd)-1))(hx:x<2^(140*Wd+3)):yd2 x b:=by
 have h49:1<=49*Wd:=A7 h1 (zu6 Wd (by decide))
 have hpp:=J5 (49*Wd);have hp:2^(49*Wd)=2*2^(49*Wd-1):=by
  rw[<-Nat.pow_succ',Nat.succ_eq_add_one,zaz h49]
 have hp1:0<2^(49*Wd-1):=J5 _;have hbu:B6 (b:Int)<=49*Wd+2:=zbi (by
  rw[K8,P5,I7];exact C2 hb2 (C9 ((Nat.mul_lt_mul_left (by decide)).mpr (zg8 hpp (by decide))) (I0 _ (by decide))))
 have hbl:49*Wd<=B6 (b:Int):=by
  rcases O3 (B6 (b:Int)) (49*Wd) with q|q
  ·have:=(N8 (x:=(b:Int)) (m:=49*Wd-1)).mp (Z9 q)
   rw[K8] at this;have h3:2^(49*Wd-1)<=2^(49*Wd)-1:=by rw[hp,Nat.two_mul];exact Z9 (ziy hp1)
   exact absurd this (D7.mpr (A7 h3 hb1))
  ·exact q
 have hxu:B6 (x:Int)<=140*Wd+3:=zbi (by rw[K8];exact hx)
 refine⟨A7 hbu (A7 (G3 (G6 49 h2) 2) (by decide)),?_,A7 hxu (A7 (G3 (G6 140 h2) 3) (by decide))⟩
 refine Nat.div_le_of_le_mul ?_;omega
noncomputable def rmV (Wd:Nat):Int:=2^(49*Wd)-1
theorem zvw (Wd:Nat):rmV Wd=((2^(49*Wd)-1:Nat):Int):=by
 have:1<=2^(49*Wd):=J5 _;unfold rmV;rw[T8 this];push_cast;rfl
theorem ycj {w:E3}{Wd n F:Nat}{dn sp q:Int}(h1:1<=Wd)(h2:Wd<=162)(hn1:1<=n)(hn3:n<=3)(hd:dn=1\/dn= -1)(hs0:0<=sp)(hs1:sp<n*rmV Wd)(hq:q.natAbs<=F)(hF:F<2^(91*Wd)):
 Fn G0 w 116 108 [.int (q*(dn*n*rmV Wd)+dn*sp),.int (dn*n*rmV Wd)] (.tup [.int q,.int (dn*sp)]):=by
 have hr:=zvw Wd;have hp:2<=2^(49*Wd):=by
  calc 2=2^1:=rfl
   _<=2^(49*Wd):=J1 (by decide) (A7 h1 (zu6 Wd (by decide)))
 generalize hR:(2^(49*Wd)-1:Nat)=R at hr;have hR1:1<=R:=hR▸Z9 hp;rw[hr] at hs1 ⊢;have hnR:(n:Int)*(R:Int)=((n*R:Nat):Int):=by push_cast;rfl
 have hnb:R<=n*R/\n*R<=3*R:=⟨by calc R=1*R:=(zba _).symm
                              _<=n*R:=I0 _ hn1,I0 _ hn3⟩
 rw[hnR] at hs1;have hb:dn*n*(R:Int)=dn*((n*R:Nat):Int):=by rw[W8,hnR]
 rw[hb];have hda:dn.natAbs=1:=by rcases hd with e|e<;>rw[e]<;>rfl
 have hba:(dn*((n*R:Nat):Int)).natAbs=n*R:=by rw[Y7,hda,zba];rfl
 have hX:(0:Int)<((n*R:Nat):Int):=X2.mpr (C9 hR1 hnb.1);refine zfz (λ e=>za1 (X2.mp hX) (hba.symm.trans (congrArg Int.natAbs e))) ?_ λ x hx=>?_
 ·rcases hd with e|e<;>rw[e]
  ·rw[W0,W0];exact .inl ⟨hX,hs0,hs1⟩
  ·rw[zq8,zq8,W0,W0];exact .inr ⟨zdd hX,Int.neg_lt_neg hs1,zhb hs0⟩
 ·rw[hba]
  refine yed h1 h2 (by rw[hR];exact hnb.1) (by rw[hR];exact hnb.2) ?_
  have e1:=zd0 (q*(dn*((n*R:Nat):Int))) (dn*sp);rw[Y7,hba] at e1;have e2:(dn*sp).natAbs<=n*R:=by rw[Y7,hda,zba];exact H1.mp (by rw[zdz hs0];exact za2 hs1)
  have e3:q.natAbs*(n*R)<=F*(3*R):=S4 hq hnb.2;have e4:F*(3*R)+3*R=(F+1)*(3*R):=by rw[X8,zba]
  have e5:(F+1)*(3*R)<=2^(91*Wd)*(3*R):=I0 _ hF;have e6:2^(91*Wd)*(3*R)<2^(91*Wd)*(2^(49*Wd+2)):=zf9 (by rw[P5,I7,<-hR];exact C9 ((Nat.mul_lt_mul_right (by decide)).mpr (zg8 (J5 _) (by decide))) (G6 _ (by decide))) (J5 _)
  have e7:2^(91*Wd)*(2^(49*Wd+2))=2^(140*Wd+2):=by rw[<-P5];congr 1;omega
  have e9:q.natAbs*(n*R)+(dn*sp).natAbs<=(F+1)*(3*R):=by rw[<-e4];exact I5 e3 (A7 e2 hnb.2)
  exact C2 (A7 hx (A7 e1 (A7 e9 e5))) (C9 e6 (by rw[e7];exact J1 (by decide) (L6 _)))
noncomputable def ygq (Wd f:Nat)(ws:List Nat)(gs:List Int)(n:Nat):D->D
 | .int k=> .int (zil Wd f k.toNat*Y5 Wd ws gs (n-k.toNat))
 |_=> .none
theorem yd9 (Wd f:Nat)(ws:List Nat)(gs:List Int)(i:Nat):((Q3 1 ((i:Int)+1+1-1).toNat).filter λ z=>true).map (ygq Wd f ws gs (i+1))=izD ((G2 (i+1)).map λ k=>zil Wd f (k+1)*Y5 Wd ws gs (i+1-(k+1))):=by
 rw[Q5,show((i:Int)+1+1-1).toNat=i+1 from congrArg N7 (zbq ((i:Int)+1) 1)]
 unfold Q3 izD;rw[E6,E6];apply H6;intro k _;show D.int (zil Wd f (1+(k:Int)).toNat*Y5 Wd ws gs (i+1-(1+(k:Int)).toNat))=D.int (zil Wd f (k+1)*Y5 Wd ws gs (i+1-(k+1)));rw[show(1+(k:Int)).toNat=k+1 from congrArg N7 (za6 1 (k:Int))]
theorem ycf {i:Nat}{c r:Int}(hi:i<3)(h0:0<=c)(h:c<r): ∃sp:Int,0<=sp/\sp<((i+1:Nat):Int)*r/\([D.int c,.int 0,.int (((i:Int)+1)*r-1-c)]:List D)[i]? =some (.int sp):=by
 refine n3 (P:=λ i=> ∃sp:Int,0<=sp/\sp<((i+1:Nat):Int)*r/\([D.int c,.int 0,.int (((i:Int)+1)*r-1-c)]:List D)[i]? =some (.int sp)) ⟨c,h0,?_,rfl⟩ ⟨0,V2 0,?_,rfl⟩ ⟨_,?_,?_,rfl⟩ hi<;>push_cast<;>omega
set_option maxHeartbeats 4000000 in
theorem ye0 {w:E3}{pieces:List Str}{ws:List Nat}{stretch:Str}{gs cells:List Int}{c3:Int}{c4 Wd f:Nat}(ok:RunOk pieces ws stretch gs cells c3 c4 Wd f):
 FnG true G0 w 118 305 [.lst (pieces.map D.str),.lst (wiD ws),.str stretch,.lst (izD gs),.lst (izD cells)] (.bool true):=by
 refine Fn.intro FRun yfx (by omega) rfl λ A env bs Ks lv hlv hh hsc E=>?_
 have hsl:H5=16777216:=by decide
 have hm2:=ok.m2;have hm3:=ok.m3;have hwl:=ok.wl;have hpl:=ok.pl;have hcl:=ok.cl;have hwb:=ok.wb;have hcb:=ok.cb;have hl: ∀n,n<=117->n<=lv+1:=λ n h=>by rw[show lv=116 from N3 (N3 hlv)];exact h
 have hg0:0<gs.length:=C9 (by decide) hm2
 have hc5:cells.length<=2^62:=by rw[hcl];decide
 have hws3:((ws.sum:Int)^3).natAbs<2^72:=by
  rw[zsr,K8];exact C2 (zfm hwb 3) (by decide)
 have hc4m:0<=((c4:Nat):Int).fmod 3/\((c4:Nat):Int).fmod 3<3:=by
  rw[R8 _ (by decide)];exact⟨zj4 _ (by decide),ybz _ (by decide)⟩
 have hq3:=o3 ((zxt hc4m.1).mpr hc4m.2);have hWd:Wd<=162/\1<=Wd:=by
  obtain⟨d,hd,h3,h4⟩: ∃d:Nat,([1,5,90]:List Int).getD (((c4:Nat):Int).fmod 3).toNat 0=d/\1<=d/\d<=90:=by
   rcases hq3 with e|e|e<;>rw[e]
   ·exact⟨1,rfl,by decide,by decide⟩
   ·exact⟨5,rfl,by decide,by decide⟩
   ·exact⟨90,rfl,by decide,by decide⟩
  have h2:=ok.wd;rw[hd] at h2;have h2:=zdy h2;exact⟨h2▸I5 (zbi hws3) h4,h2▸A7 h3 (J6 ..)⟩
 have hW0:0<Wd:=hWd.2;have hWk:Wd<=20000:=A7 hWd.1 (by decide)
 refine I9 5 (show 5<21 by decide) rfl ((G4 (Ev.bits (G4 (ze4 (hh rfl) (G7 5 rfl) (B8 (B4 1 rfl rfl) D9) Bh.sum) D5 (Bi.pow (by omega) ?_))) (O1 (X1 (B8 D5 (B8 D5 (B8 D5 D9)))).ev (G4 (O1 (B4 4 rfl rfl) D5 (T6 (d:= .int (c4:Int)) (by decide) (by rw[B7];exact congrArg (zep D.int) ok.e4) (by rw[B5];exact hc5))) D5 (zfs (by decide))) (T6 (d:= .int (([1,5,90]:List Int).getD (((c4:Nat):Int).fmod 3).toNat 0)) hc4m.1 ?_ (by simp))) zav)) ?_
 ·rw[ya0]
  have:B6 ((ws.sum:Nat):Int)<=30:=zbi (by rw[K8];omega)
  omega
 ·rcases hq3 with e|e|e<;>rw[e]<;>rfl
 rw[ya0,show(3:Int).toNat=3 from rfl,ok.wd]
 have hSg: ∀g,(SgI ws gs g).natAbs<=ws.sum:=λ g=>zy1 hwl g;have eS:((Q3 (-2) 5).filter λ z=>true).map (sgD ws gs)=zkj (gainsL.map (SgI ws gs)):=by
  rw[Q5];rfl
 have cd:=zf0 (w:=w) (n:=Wd) (B:=30) (ds:=gainsL.map (SgI ws gs)) hW0 hWk (by decide) (by simp[gainsL]) (λ d hd=>by
  obtain⟨g,_,rfl⟩:=C5.mp hd;exact C2 (A7 (hSg g) hwb) (by decide))
 refine I9 6 (show 6<21 by decide) rfl (U5 (G7 0 rfl) (B8 ((za9 (lo:=["gain"]) (kx:=[true]) (fr:=[1,3]) (λ z=>true) (sgD ws gs) (zbu (gj:=[5,6,7]) (by show zii FRun.nm FRun.kl (FRun.gn.map (·.1)) _ _ _ _ _=true;decide+kernel)) (Iv.range2 (hh rfl) (G7 6 rfl) (B8 (zk8 D5 Un.neg) (B8 D5 D9)) (by decide) (by decide) (by decide) (by decide)) rfl (by decide) ?_).ev.eq ?_) (B8 (B4 5 rfl rfl) D9)) cd (A6 (i:=3) rfl) (hl _ (by simp[gainsL])) (λ h=>by cases h)) ?_
 ·intro L b d hd Da acc fx gs'
  obtain⟨i,hi,rfl⟩:=C5.mp hd;refine⟨zc8,λ z=>?_⟩;refine(ze4 (hh rfl) (G7 0 rfl) (B8 ((za9 (lo:=["k"]) (kx:=[false]) (fr:=[1,2,0]) (yc5 gs (-2+(i:Int))) (ygm ws) (zbu (gj:=[]) (by show zii ["gain","weights","gains"] [true,true,true] ["sum","range","len"] _ _ _ _ _=true;decide+kernel)) (zbz (n:=(gs.length:Int)) (hh rfl) (G7 1 rfl) (B8 ((V0 (G7 2 rfl) (B8 (B4 2 rfl rfl) D9) (zb1 (by rw[B5];omega))).eq (by rw[B5])) D9) (by omega) (nlb _)) rfl (by simp[Q3];omega+splitNatSub) ?_).ev.eq ?_) D9) Bh.sum)
  ·intro L b d hd Da acc fx gs''
   rw[C0] at hd;obtain⟨k,hk,rfl⟩:=C5.mp hd;have hkm:k<gs.length:=I8.mp hk;have hk0:=z0 k;refine⟨Tl.one ((O5 (O1 (B4 2 rfl rfl) (B4 0 rfl rfl) (T6 (d:= .int (gs.getD k 0)) (zn k) (by rw[hk0];exact getD_some hkm) (by rw[B5];exact A7 hm3 (by decide)))) (B4 3 rfl rfl) Cm.eq).eq ?_),λ z=>O1 (B4 1 rfl rfl) (B4 0 rfl rfl) (T6 (l:=wiD ws) (zn k) (by show(wiD ws)[(0+(k:Int)).toNat]? =some (D.int ((ws.getD (0+(k:Int)).toNat 0:Nat):Int));rw[hk0];exact yd3 (ws:=ws) (k:=k) (lq hkm hwl)) (by rw[B5,B5,hwl];exact A7 hm3 (by decide)))⟩
   show decide (gs.getD k 0= -2+(i:Int))=(gs.getD (0+(k:Int)).toNat 0== -2+(i:Int));rw[hk0];rfl
  ·rw[C0,ygr]
 ·show D.lst (((Q3 (-2) 5).filter λ z=>true).map (sgD ws gs))=_
  rw[eS]
 have hfe:V4 Wd (gainsL.map (SgI ws gs))=(f:Int):=ok.fv;rw[hfe];refine Wx.own5 7 8 9 10 11 (show 7<21/\8<21/\9<21/\10<21/\11<21 by decide) rfl rfl rfl rfl rfl (AsN.cons (X1 (B8 (Z1 D9) D9)) λ z=>AsN.cons (X1 (B8 K0 D9)) λ z=>AsN.cons (X1 (B8 D5 D9)) λ z=>AsN.cons (X1 (B8 D5 D9)) λ z=>AsN.cons (X1 (B8 D5 D9)) λ z=>AsN.nil) λ a1 a2 a3 a4 a5 hoa=>?_
 refine Wx.disown (a:=a1) 7 4 rfl rfl ?_;refine Wx.disown (a:=a2) 8 3 rfl rfl ?_;refine Wx.disown (a:=a3) 9 2 rfl rfl ?_;refine zni (Iv.range2 (hh rfl) (G7 6 rfl) (B8 D5 (B8 D5 D9)) (by decide) (by decide) (by decide) (by decide))
  (λ i=>[(a5,.int 1::(G2 i).map λ k=>D.int (zil Wd f (k+1))),(a4,(G2 (i+1)).map λ k=>D.int (Y5 Wd ws gs k))])
  (λ i=>[some (.lst (pieces.map D.str)),some (.lst (wiD ws)),some (.str stretch),some (.lst (izD gs)),some (.lst (izD cells)),some (.int (Wd:Int)),some (.int (f:Int)),some (.lst ((L7 gs.length i).map zla)),some (.lst (zd9 (zgo gs gs.length i))),some (.lst (wiD ((L7 gs.length i).map (ziv ws)))),some (.ptr a4),some (.ptr a5),none,none,none,none,none,none,none,none,none]) (λ z=>True) ?_ ?_ trivial (λ k=>rfl) (λ i d hd z fx gn=>?_) λ z=>?_
 ·show _=[(a5,[D.int 1]),(a4,[D.int 1])]
  rw[show(G2 (0+1)).map (λ k=>D.int (Y5 Wd ws gs k))=[D.int 1] by simp[yda]]
  rfl
 ·show[_,_,_,_,_,_,_,some (D.lst ((L7 gs.length 0).map zla)),some (D.lst (zd9 (zgo gs gs.length 0))),some (D.lst (wiD ((L7 gs.length 0).map (ziv ws)))),_,_,_,_,_,_,_,_,_,_,_]=_
  rfl
 ·have hi:i<3/\d= .int ((i:Int)+1):=by have h:=zhi hd;exact⟨h.1,by rw[h.2];congr 1;omega⟩
  obtain⟨hi,rfl⟩:=hi;have hwn: ∀n,n<=3->(L7 gs.length n).length<=27:=λ n hn=>by
   rw[znm];have h1:gs.length^n<=3^n:=zfm hm3 n;exact A7 h1 (J1 (by decide) hn:3^n<=3^3)
  have hwne: ∀n,0<(L7 gs.length n).length:=λ n=>by rw[znm];exact zhy hg0
  have hn3:i+1<=3:=hi;have hi1:1<=i+1:=J6 1 i;have hwi:=hwn i (K3 hi);have hws:=hwn (i+1) hn3;have hrl:(zgo gs gs.length i).length=(L7 gs.length i).length:=by unfold zgo;rw[B5]
  have e0:(C1 ((gs.length:Nat):Int).toNat (zd9 (zgo gs gs.length i))).flatten=zd9 (C1 gs.length (zgo gs gs.length i)).flatten:=by
   rw[C0,zd9,zd9,List.map_flatten,yau]
  have fs:=ydb (w:=w) (rs:=(C1 gs.length (zgo gs gs.length i)).flatten) (ms:=gs.flatMap λ g=>(L7 gs.length i).map λ z=>g) (turn:=c3+((i:Int)+1)) (by
   rw[zbl (c:=(L7 gs.length i).length) _ λ g z=>by rw[B5]]
   simp[hrl]) (λ e=>by
   have h1:=congrArg zfb e;have h0:=hwne i;rw[zyb,yau,List.sum_replicate_nat,hrl] at h1;have:=Nat.mul_pos hg0 h0;simp at h1;exact absurd h1 (za1 this)) (by
   have:gs.length*(L7 gs.length i).length<=3*27:=S4 hm3 hwi;simp[hrl];omega) (λ r hr=>by
   obtain⟨l,hl,hr⟩:=List.mem_flatten.mp hr;rw[X7 hl] at hr;obtain⟨x,hx,rfl⟩:=C5.mp hr;exact⟨J6 ..,A7 (G3 (A7 (zhj ok.gb x).1 (G6 2 (by rw[(zcr hx).1];exact K3 hi))) 1) (by decide)⟩) (λ g hg=>by
   obtain⟨g',hg',h⟩:=List.mem_flatMap.mp hg;obtain⟨x,_,rfl⟩:=C5.mp h;exact⟨E1 (by decide) (ok.gb _ hg').1,E1 (ok.gb _ hg').2 (by decide)⟩)
  rw[zvs,<-e0] at fs;have hpw:(((L7 gs.length (i+1)).map zla).length:Int)=((L7 gs.length (i+1)).length:Nat):=by rw[B5]
  have ePl:((Q3 0 (L7 gs.length (i+1)).length).filter λ z=>true).map (plD gs (L7 gs.length (i+1)))=izD ((L7 gs.length (i+1)).map λ w=>((zd6 gs w:Nat):Int)):=by
   rw[znt [] (L7 gs.length (i+1)) (λ w=>D.int ((zd6 gs w:Nat):Int)) _ λ j=>rfl];unfold izD;rw[E6];rfl
  have hsp:0<ws.sum:=ok.wp;have hpwb: ∀n,n<=3->ws.sum^n<2^72:=λ n hn=>by
   have h1:ws.sum^n<=ws.sum^3:=J1 hsp hn;exact C2 (A7 h1 (zfm hwb 3)) (by decide)
  have ePr:((Q3 0 (L7 gs.length (i+1)).length).filter λ z=>true).map (prF ws gs (L7 gs.length (i+1)))=prD (zge ws gs (i+1)):=by
   rw[znt [] (L7 gs.length (i+1)) (λ w=>D.tup [.int ((zd6 gs w:Nat):Int),.int ((ziv ws w:Nat):Int)]) _ λ j=>rfl];unfold zge prD;rw[E6];rfl
  have fnN:=zqg (w:=w) (n:=Wd) (B:=72) (l:=zge ws gs (i+1)) hW0 hWk (by decide) (λ e=>by
   have h1:=congrArg zfb e;unfold zge at h1;rw[B5] at h1;have h2:=hwne (i+1);rw[h1] at h2;exact absurd h2 (by decide)) (by unfold zge;rw[B5];omega) (λ p hp=>by
   obtain⟨wd,hwd,rfl⟩:=C5.mp hp;exact A7 (zl5 ok.gb wd) (by rw[(zcr hwd).1];exact A7 (G6 30 hn3) (by decide))) (by rw[zmi ws gs (i+1) hwl];exact hpwb _ hn3)
  have hfm:(G2 (i+1)).map (λ k=>D.int (Y5 Wd ws gs k))++[D.int (zui Wd (zge ws gs (i+1)))]=(G2 (i+1+1)).map λ k=>D.int (Y5 Wd ws gs k):=by
   rw[X0 (n:=i+1),J2];rfl
  have hfl:=zti ok.fb ok.sb hsp hn3 hW0;have hfb:=zqm ok.fb ok.sb hsp hn3 hW0;have hfl13:(zdg Wd f (i+1)).length<=13:=A7 hfl (G3 (G6 4 hn3) 1);have fD:=zjm (w:=w) (a:=f^(i+1)) (n:=Wd) (k:=(B6 ((f^(i+1):Nat):Int)+Wd-1) / Wd) hW0 hWk rfl (by
   have:=hfl13;unfold zdg at this;rw[zdt] at this;omega) (zbi (by
   rw[K8];refine C9 hfb (zb8 ?_);have:Wd*(4*(i+1)+1)<=162*13:=S4 hWd.1 (G3 (G6 4 hn3) 1);omega))
  have hfbit:B6 (f:Int)<=1000:=zbi (by
   rw[K8];have h1:ws.sum*2^(4*Wd)<2^24*2^(4*Wd):=S1 (by omega) (zhy (by decide))
   have h2:(2:Nat)^24*2^(4*Wd)<=2^1000:=by rw[<-P5];exact zb8 (A7 (Q2 (G6 4 hWd.1) 24) (by decide))
   exact C2 ok.fb (C9 h1 h2))
  have hkl:(B6 ((f^(i+1):Nat):Int)+Wd-1) / Wd<=13:=by
   have:=hfl13;unfold zdg at this;rw[zdt] at this;exact this
  have hnl:((zas (zdg Wd f (i+1))).length:Int)=((zdg Wd f (i+1)).length:Nat):=by unfold zas;rw[B5]
  have hnl':(zas (zdg Wd f (i+1))).length=(zdg Wd f (i+1)).length:=by unfold zas;rw[B5]
  have hhe:((Q3 0 (((zdg Wd f (i+1)).length:Nat):Int).toNat).filter λ z=>true).map (hgD (i+1))=(G2 (zdg Wd f (i+1)).length).map λ k:Nat=>D.int ((k:Int)-2*((i+1:Nat):Int)):=by
   rw[C0,Q5];unfold Q3;rw[E6];apply H6;intro k _;show D.int ((0+(k:Int))-2*((i+1:Nat):Int))=_;rw[U0]
  have hlr:((G2 (zdg Wd f (i+1)).length).map λ k:Nat=>D.int ((k:Int)-2*((i+1:Nat):Int))).length<=H5:=by rw[B5,zao];omega
  have hes:=ztl Wd f (i+1) hfl13;have hpe42: ∀p∈zd7 Wd f (i+1),p.1<=42:=λ p hp=>by
   obtain⟨j,hj,rfl⟩:=C5.mp hp;have hj:=I8.mp (zi5.mp hj).1;exact zk0 hn3 (A7 (K3 hj) hfl13)
  have fE:=zqg (w:=w) (n:=Wd) (B:=200) (l:=zd7 Wd f (i+1)) hW0 hWk (by decide) (zv0 hW0 ok.fp) (by
   unfold zd7;rw[B5];exact A7 (zd2 _ _) (by rw[zao];omega)) (λ p hp=>by have:=hpe42 p hp;omega) (by
   have h1:(2:Nat)^Wd<=2^162:=zb8 hWd.1;exact C2 (A7 hes (G6 13 h1)) (by decide))
  have hen:D.int 1::(G2 i).map (λ k=>D.int (zil Wd f (k+1)))++[D.int (zui Wd (zd7 Wd f (i+1)))]=D.int 1::(G2 (i+1)).map λ k=>D.int (zil Wd f (k+1)):=by
   rw[X0 (n:=i),J2];rfl
  have hc4: ∀{H':Hm},True:=λ{_}=>trivial;obtain⟨dn,hdn,hdn1⟩: ∃dn:Int,1-2*(((c4:Nat):Int)+((i:Int)+1)).fmod 2=dn/\(dn=1\/dn= -1):=⟨_,rfl,m2 _⟩;obtain⟨tn,htn,htn1⟩: ∃tn:Int,1-2*((((c4:Nat):Int)+((i:Int)+1)).fdiv 2).fmod 2=tn/\(tn=1\/tn= -1):=⟨_,rfl,m2 _⟩;have hdb:B6 dn<=64:=by rcases hdn1 with e|e<;>rw[e]<;>decide
  have htb:B6 tn<=64:=by rcases htn1 with e|e<;>rw[e]<;>decide
  have hib:B6 ((i:Int)+1)<=64:=zbi (C2 hn3 (by decide):i+1<2^64)
  have hrm:=zvw Wd;have hp49:2^49<=2^(49*Wd):=zb8 (zdb 49 hW0);have hcb:=ok.cb;have hrb:B6 (rmV Wd)<=7938:=zbi (by
   rw[hrm,K8];have:(2:Nat)^(49*Wd)<=2^7938:=zb8 (G6 49 hWd.1);exact C9 (zg8 (J5 _) (by decide)) this)
  obtain⟨sp,hsp0,hsp1,hspe⟩: ∃sp:Int,0<=sp/\sp<((i+1:Nat):Int)*rmV Wd/\([D.int (c4:Int),.int 0,.int (((i:Int)+1)*rmV Wd-1-(c4:Int))]:List D)[i]? =some (.int sp):=by
   exact ycf hi (E9 _) (by rw[hrm];exact X2.mpr (C2 hcb (C9 (by decide) (zx5 hp49 1))))
  have hfb: ∀n,n<=3->(Y5 Wd ws gs n).natAbs<2^(91*Wd):=λ n hn=>by
   have h1:=znu Wd 90 (zge ws gs n) (λ p hp=>by
    obtain⟨wd,hwd,rfl⟩:=C5.mp hp;exact A7 (zl5 ok.gb wd) (by rw[(zcr hwd).1];exact G6 30 hn))
   rw[zmi ws gs n hwl] at h1;have h2:ws.sum^n<=ws.sum^3:=J1 hsp hn;have h3:=ok.sb;have h4:ws.sum^n*2^(Wd*90)<2^Wd*2^(Wd*90):=S1 (C2 h2 h3) (J5 _);rw[<-P5,show Wd+Wd*90=91*Wd by omega] at h4
   exact C2 h1 h4
  have heb: ∀n,1<=n->n<=3->(zil Wd f n).natAbs<2^(43*Wd+4):=λ n hn1 hn=>by
   have hfl':(zdg Wd f n).length<=13:=A7 (zti ok.fb ok.sb hsp hn hW0) (G3 (G6 4 hn) 1);have h1:=znu Wd 42 (zd7 Wd f n) (λ p hp=>by
    obtain⟨j,hj,rfl⟩:=C5.mp hp;have hj:=I8.mp (zi5.mp hj).1;exact zk0 hn (A7 (K3 hj) hfl'))
   have h2:=ztl Wd f n hfl';have h3:((zd7 Wd f n).map λ p=>p.2.natAbs).sum*2^(Wd*42)<=13*2^Wd*2^(Wd*42):=I0 _ h2;have h4:13*2^Wd*2^(Wd*42)=13*2^(43*Wd):=by
    rw[zbb,<-P5];congr 2;omega
   have h5:(2:Nat)^(43*Wd+4)=2^(43*Wd)*16:=by rw[P5]
   have h6:0<(2:Nat)^(43*Wd):=J5 _;exact C2 h1 (C2 h3 (by rw[h4,h5,I7];exact zf9 (by decide) h6))
  have hsm:=ok.sp (i+1) hi1 hn3;have hsum:((Q3 1 ((i:Int)+1+1-1).toNat).filter λ z=>true).map (ygq Wd f ws gs (i+1))=izD ((G2 (i+1)).map λ k=>zil Wd f (k+1)*Y5 Wd ws gs (i+1-(k+1))):=yd9 Wd f ws gs i;have hq:tn*rmV Wd*(((i+1:Nat):Int)*Y5 Wd ws gs (i+1))+dn*sp=tn*dn*Y5 Wd ws gs (i+1)*(dn*((i+1:Nat):Int)*rmV Wd)+dn*sp:=by
   have hdd:dn*dn=1:=by rcases hdn1 with e|e<;>rw[e]<;>rfl
   congr 1;generalize ((i+1:Nat):Int)=a;generalize Y5 Wd ws gs (i+1)=b;generalize rmV Wd=r
   calc tn*r*(a*b)=tn*(dn*dn)*b*a*r:=by rw[hdd];grind
    _=_:=by grind
  have hii:(i:Int)+1-1=i:=zbq _ _;have hF91:=hfb (i+1) hn3;have fdv:=ycj (w:=w) (Wd:=Wd) (n:=i+1) (F:=(Y5 Wd ws gs (i+1)).natAbs) (dn:=dn) (sp:=sp) (q:=tn*dn*Y5 Wd ws gs (i+1)) hWd.2 hWd.1 hi1 hn3 hdn1 hsp0 hsp1 (by
   rw[Y7,Y7];rcases htn1 with e|e<;>rcases hdn1 with e'|e'<;>rw[e,e']<;>simp) hF91
  rw[<-hq] at fdv;have hfml:((G2 (i+1+1)).map λ k=>D.int (Y5 Wd ws gs k))[i+1]? =some (.int (Y5 Wd ws gs (i+1))):=by
   rw[B7,N6 (S5 _)];rfl
  have htd:B6 (tn*dn)<=64:=by rcases htn1 with e|e<;>rcases hdn1 with e'|e'<;>rw[e,e']<;>decide
  have hdi:B6 (dn*((i:Int)+1))<=64:=zbi (by rw[Y7];rcases hdn1 with e|e<;>rw[e]<;>exact C2 (Q0 (zba _)) (C2 hn3 (by decide)))
  refine⟨_,zen 12 (show 12<21 by decide) rfl,?_⟩
  refine I9 8 (show 8<21 by decide) rfl (Ev.callO (G7 3 rfl) (Nl.bin (B4 8 rfl rfl) ((V0 (G7 7 rfl) (B8 (B4 3 rfl rfl) D9) (zb1 (by rw[B5];omega))).eq (d':= .int ((gs.length:Nat):Int)) (by rw[B5])) (Bn.mul (l:=zd9 (zgo gs gs.length i)) (x:=((gs.length:Nat):Int)) (by omega) (by omega+splitNatSub) ?_)) (λ a=>B8 ((Nl.comp2 (lo:=["gain","word"]) (kx:=[false,false]) (fr:=[7]) (λ d z=>d) (zbu (gj:=[]) (by show zii FRun.nm FRun.kl (FRun.gn.map (·.1)) _ _ _ _ _=true;decide+kernel)) (zgr (by exact hh rfl) (B4 3 rfl rfl) zec) rfl ?_ (λ L b d hd D acc fx gs'=>zgr (by exact hh rfl) (B4 2 rfl rfl) zec) (λ L b d1 d2 h1 h2 D acc fx gs'=>B4 0 rfl rfl)).ev.eq ?_) (B8 (G4 (O1 (B4 4 rfl rfl) D5 (T6 (d:= .int c3) (by decide) (by rw[B7];exact congrArg (zep D.int) ok.e3) (by rw[B5];exact hc5))) (B4 12 rfl rfl) zav) D9)) fs (A6 (i:=20) rfl) (hl 4 (by decide)) hh) ?_
  ·rw[B5,hrl,C0]
   have:(L7 gs.length i).length*gs.length<=27*3:=S4 hwi hm3;omega
  ·rw[B5,B5]
   have:gs.length*(L7 gs.length i).length<=3*27:=S4 hm3 hwi;omega
  ·congr 1
   rw[zzf];congr 2;funext g;rw[E6];rfl
  refine I9 7 (show 7<21 by decide) rfl ((Nl.comp2 (lo:=["k","word"]) (kx:=[false,false]) (fr:=[7]) yfp (zbu (gj:=[]) (by show zii FRun.nm FRun.kl (FRun.gn.map (·.1)) _ _ _ _ _=true;decide+kernel)) (zbz (n:=(gs.length:Int)) (by exact hh rfl) (G7 6 rfl) (B8 ((V0 (G7 7 rfl) (B8 (B4 3 rfl rfl) D9) (zb1 (by rw[B5];omega))).eq (by rw[B5])) D9) (by omega) (nlb _)) rfl ?_ (λ L b d hd D acc fx gs'=>zgr (by exact hh rfl) (B4 2 rfl rfl) zec) (λ L b d1 d2 h1 h2 D acc fx gs'=>?_)).ev.eq (d':= .lst ((L7 gs.length (i+1)).map zla)) (by rw[C0,zyl])) ?_ (zl0 hsc (by decide+kernel))
  ·rw[B5,C0]
   have:gs.length*(L7 gs.length i).length<=3*27:=S4 hm3 hwi;simp[Q3];omega
  ·obtain⟨k,hk,rfl⟩:=C5.mp h1
   obtain⟨r,hr,rfl⟩:=C5.mp h2;have:=(zcr hr).1;exact G4 (Z1 (B8 (B4 0 rfl rfl) D9)) (B4 1 rfl rfl) (Bi.addT (l:=[.int (0+(k:Int))]) (by simp;omega))
  refine I9 9 (show 9<21 by decide) rfl ((Nl.comp2 (lo:=["weight","amount"]) (kx:=[false,false]) (fr:=[9]) yhe (zbu (gj:=[]) (by show zii FRun.nm FRun.kl (FRun.gn.map (·.1)) _ _ _ _ _=true;decide+kernel)) (zgr (by exact hh rfl) (B4 1 rfl rfl) zec) rfl ?_ (λ L b d hd D acc fx gs'=>zgr (by exact hh rfl) (B4 2 rfl rfl) zec) (λ L b d1 d2 h1 h2 D acc fx gs'=>?_)).ev.eq (congrArg D.lst (ydt hwl))) ?_ (zl0 hsc (by decide+kernel))
  ·simp only[B5]
   have:ws.length*(L7 gs.length i).length<=3*27:=S4 (A7 (Q0 hwl) hm3) hwi;omega
  ·obtain⟨x,hx,rfl⟩:=C5.mp h1
   obtain⟨y,hy,rfl⟩:=C5.mp h2;refine G4 (B4 0 rfl rfl) (B4 1 rfl rfl) (zdf (N1 (zbi ?_)));obtain⟨x',hx',rfl⟩:=C5.mp hx;have:=ybf hx';rw[K8];exact C2 (A7 this hwb) (by decide)
  refine I9 13 (show 13<21 by decide) rfl ((za9 (lo:=["k"]) (kx:=[false]) (fr:=[7,8,0,3,2,4]) (λ z=>true) (plD gs (L7 gs.length (i+1))) (Sco.ofX (gj:=[]) [3] (by show zii FRun.nm FRun.kl (FRun.gn.map (·.1)) _ _ _ _ _=true;decide+kernel) (by decide+kernel)) (zbz (n:=(((L7 gs.length (i+1)).length:Nat):Int)) (by exact hh rfl) (G7 6 rfl) (B8 ((V0 (G7 7 rfl) (B8 (B4 7 rfl rfl) D9) (zb1 (by rw[B5];omega))).eq (by rw[hpw])) D9) (by omega) (nlb _)) rfl (by rw[C0];simp[Q3];omega) ?_).ev.eq (d':= .lst (izD ((L7 gs.length (i+1)).map λ w=>((zd6 gs w:Nat):Int)))) (by rw[C0,ePl])) ?_ (zl0 hsc (by decide+kernel))
  ·intro L b d hd Da acc fx gs'
   rw[C0] at hd;obtain⟨j,hj,rfl⟩:=C5.mp hd;have hjn:j<(L7 gs.length (i+1)).length:=I8.mp hj;have hj0:(0+(j:Int))=(j:Int):=by omega
   rw[hj0];obtain⟨wd,hwd⟩: ∃wd,(L7 gs.length (i+1))[j]? =some wd:=⟨_,B3 hjn⟩;have hwm:=zcr (A6 hwd);have hgw:(L7 gs.length (i+1)).getD j []=wd:=by rw[C8,hwd];rfl
   have hlb:=zhj ok.gb wd;have hw6:2*wd.length<=100:=by rw[hwm.1];exact A7 (G6 2 hn3) (by decide)
   have hm10:=A7 hm3 (by decide:3<=10)
   have rd:=ok.read (i+1) hi1 hn3 j wd hwd;have fr:=ydc (w:=w) (word:=wd) (pieces:=pieces) (gains:=gs) (stretch:=stretch) (shift:=c3.fdiv 288+18) (number:=j) (lack:=zc3 gs wd) (λ k hk=>⟨lq (hwm.2 k hk) hpl,hwm.2 k hk⟩) (A7 (Q0 hwm.1) (A7 hn3 (by decide))) (A7 (Q0 hpl) hm10) hm10 ok.pz ok.sz (A7 hlb.1 hw6) (A7 hlb.2 hw6) rd.yes rd.no
   refine⟨zc8,λ z=>(U5 (G7 0 rfl) (B8 (O1 (B4 1 rfl rfl) (B4 0 rfl rfl) (T6 (d:=zla wd) (by omega) (by rw[C0,B7,hwd];rfl) (by rw[B5];omega))) (B8 ((O1 (B4 2 rfl rfl) (B4 0 rfl rfl) (T6 (d:= .str (zd5 46 ((zc3 gs wd+1:Nat):Int))) (by omega) (by rw[C0,B7];unfold zgo;rw[B7,hwd];rfl) (by rw[B5];unfold zgo;rw[B5];omega))).eq (d':= .str (zd5 46 ((zc3 gs wd:Int)+1))) rfl) (B8 (B4 0 rfl rfl) (B8 (B4 3 rfl rfl) (B8 (B4 4 rfl rfl) (B8 (B4 5 rfl rfl) (B8 (G4 (G4 (O1 (B4 6 rfl rfl) D5 (T6 (d:= .int c3) (by decide) (by rw[B7];exact congrArg (zep D.int) ok.e3) (by rw[B5];exact hc5))) D5 (Bi.div (by decide) (P3 (by decide)))) D5 zav) D9))))))) fr (A6 (i:=21) rfl) (hl 6 (by decide)) hh).eq ?_⟩
   show D.int _=D.int (zd6 gs ((L7 gs.length (i+1)).getD ((j:Nat):Int).toNat []):Nat);rw[C0,hgw,zp7]
  refine W3 (p:=false) (O5 zaq (B4 13 rfl rfl) Cm.noneIn) (λ hq=>by cases hq) λ z=>?_
  refine Wx.mut 10 1 rfl rfl rfl (hoa a4 (by simp)) (B8 (U5 (G7 4 rfl) (B8 ((za9 (lo:=["k"]) (kx:=[false]) (fr:=[13,9]) (λ z=>true) (prF ws gs (L7 gs.length (i+1))) (zbu (gj:=[]) (by show zii FRun.nm FRun.kl (FRun.gn.map (·.1)) _ _ _ _ _=true;decide+kernel)) (zbz (n:=(((L7 gs.length (i+1)).length:Nat):Int)) (by exact hh rfl) (G7 6 rfl) (B8 ((V0 (G7 7 rfl) (B8 (B4 7 rfl rfl) D9) (zb1 (by rw[B5];omega))).eq (by rw[hpw])) D9) (by omega) (nlb _)) rfl (by rw[C0];simp[Q3];omega) ?_).ev.eq (d':= .lst (prD (zge ws gs (i+1)))) (by rw[C0,ePr])) (B8 (B4 5 rfl rfl) D9)) fnN (A6 (i:=22) rfl) (hl 110 (by decide)) hh) D9) ((zdc (by simp;omega)).eq hfm) M5 N5 ?_
  ·intro L b d hd Da acc fx gs'
   rw[C0] at hd;obtain⟨j,hj,rfl⟩:=C5.mp hd;have hjn:j<(L7 gs.length (i+1)).length:=I8.mp hj;rw[show(0+(j:Int))=(j:Int) by omega]
   obtain⟨wd,hwd⟩: ∃wd,(L7 gs.length (i+1))[j]? =some wd:=⟨_,B3 hjn⟩;have hgw:(L7 gs.length (i+1)).getD j []=wd:=by rw[C8,hwd];rfl
   refine⟨zc8,λ z=>(Z1 (B8 (O1 (B4 1 rfl rfl) (B4 0 rfl rfl) (T6 (d:= .int ((zd6 gs wd:Nat):Int)) (by omega) (by rw[C0,B7,B7,hwd];rfl) (by simp;omega))) (B8 (O1 (B4 2 rfl rfl) (B4 0 rfl rfl) (T6 (d:= .int ((ziv ws wd:Nat):Int)) (by omega) (by rw[C0,B7,B7,B7,hwd];rfl) (by simp;omega))) D9))).eq ?_⟩
   show D.tup _=D.tup [.int ((zd6 gs ((L7 gs.length (i+1)).getD ((j:Nat):Int).toNat []):Nat):Int),.int ((ziv ws ((L7 gs.length (i+1)).getD ((j:Nat):Int).toNat []):Nat):Int)];rw[C0,hgw]
  refine I9 14 (show 14<21 by decide) rfl ((U5 (G7 1 rfl) (B8 ((G4 (B4 6 rfl rfl) (B4 12 rfl rfl) (Bi.pow (show(0:Int)<=(i:Int)+1 from E9 (i+1)) ?_)).eq (d':= .int ((f^(i+1):Nat):Int)) ?_) (B8 (B4 5 rfl rfl) D9)) fD (A6 (i:=2) rfl) (hl _ (A7 (G3 hkl 5) (by decide))) (λ h=>by cases h)).eq (d':= .lst (zas (zdg Wd f (i+1)))) rfl) ?_
  ·have h1:B6 (f:Int)*(i+1)<=1000*3:=S4 hfbit (by omega)
   have h2:((B6 (f:Int)*(i+1):Nat):Int)=(B6 (f:Int):Int)*((i:Int)+1):=by push_cast;rfl
   rw[<-h2];omega
  ·rw[show((i:Int)+1).toNat=i+1 from rfl]
   congr 1
  refine Wx.asgE (lo:=["k"]) (kx:=[false]) (fr:=[12]) (λ z=>true) (hgD (i+1)) 15 (show 15<21 by decide) rfl (zbu (gj:=[]) (by show zii FRun.nm FRun.kl (FRun.gn.map (·.1)) _ _ _ _ _=true;decide+kernel)) (zbz (n:=(((zdg Wd f (i+1)).length:Nat):Int)) (by exact hh rfl) (G7 6 rfl) (B8 ((V0 (G7 7 rfl) (B8 (B4 14 rfl rfl) D9) (zb1 (by rw[hnl'];exact C2 hfl13 (by decide)))).eq (by rw[hnl])) D9) (by omega) (nlb _)) rfl (by rw[C0];simp[Q3];omega) ?_ (zhf hsc (by decide+kernel)) hhe ?_
  ·intro L b d hd Da acc fx gs'
   rw[C0] at hd;obtain⟨j,hj,rfl⟩:=C5.mp hd;refine⟨zc8,λ z=>(G4 (B4 0 rfl rfl) (G4 D5 (B4 1 rfl rfl) (zdf (N1 (by decide)))) zb0).eq ?_⟩
   show D.int _=D.int ((0+(j:Int))-2*((i+1:Nat):Int));congr 1
  refine Wx.mut 11 0 rfl rfl rfl (hoa a5 (by simp)) (B8 (U5 (G7 4 rfl) (B8 ((za9 (lo:=["h"]) (kx:=[false]) (fr:=[14,12]) (nzP (zdg Wd f (i+1)) (i+1)) (egD (zdg Wd f (i+1)) (i+1)) (Sco.ofX (gj:=[]) [1] (by show zii FRun.nm FRun.kl (FRun.gn.map (·.1)) _ _ _ _ _=true;decide+kernel) (by decide+kernel)) (zgr (by exact hh rfl) (B4 15 rfl rfl) zec) rfl hlr ?_).ev.eq (d':= .lst (prD (zd7 Wd f (i+1)))) (by rw[ydh])) (B8 (B4 5 rfl rfl) D9)) fE (A6 (i:=22) rfl) (hl 110 (by decide)) hh) D9) ((zdc (by simp;omega)).eq hen) M5 N5 ?_
  ·intro L b d hd Da acc fx gs'
   obtain⟨j,hj,rfl⟩:=C5.mp hd;have hjl:j<(zdg Wd f (i+1)).length:=I8.mp hj;have hje:((j:Int)-2*((i+1:Nat):Int)+2*((i:Int)+1))=(j:Int):=zmm (j:Int) (2*((i+1:Nat):Int));have hjt:((j:Int)-2*((i+1:Nat):Int)+2*((i+1:Nat):Int)).toNat=j:=congrArg N7 (zmm (j:Int) (2*((i+1:Nat):Int)));refine⟨Tl.one ((O5 (O1 (B4 1 rfl rfl) ((G4 (B4 0 rfl rfl) (G4 D5 (B4 2 rfl rfl) (zdf (N1 (by decide)))) zav).eq (d':= .int (j:Int)) (by rw[hje])) (T6 (l:=zas (zdg Wd f (i+1))) (E9 j) (by rw[C0];exact zs9 hjl) (by rw[hnl'];exact A7 hfl13 (by decide)))) D5 Cm.ne).eq ?_),λ z=>(Z1 (B8 (ze4 (by exact hh rfl) (G7 0 rfl) (B8 (B4 0 rfl rfl) (B8 (G4 (zk8 D5 Un.neg) (B4 0 rfl rfl) (zdf (N1 (by decide)))) D9)) Bh.max2) (B8 (O1 (B4 1 rfl rfl) ((G4 (B4 0 rfl rfl) (G4 D5 (B4 2 rfl rfl) (zdf (N1 (by decide)))) zav).eq (d':= .int (j:Int)) (by rw[hje])) (T6 (l:=zas (zdg Wd f (i+1))) (E9 j) (by rw[C0];exact zs9 hjl) (by rw[hnl'];exact A7 hfl13 (by decide)))) D9))).eq ?_⟩
   ·show _=((zdg Wd f (i+1)).getD ((j:Int)-2*((i+1:Nat):Int)+2*((i+1:Nat):Int)).toNat 0 != 0)
    rw[hjt];generalize (zdg Wd f (i+1)).getD j 0=y
    cases y<;>rfl
   ·show _=D.tup [D.int (if-7*((j:Int)-2*((i+1:Nat):Int))>(j:Int)-2*((i+1:Nat):Int) then-7*((j:Int)-2*((i+1:Nat):Int)) else(j:Int)-2*((i+1:Nat):Int)),D.int (((zdg Wd f (i+1)).getD ((j:Int)-2*((i+1:Nat):Int)+2*((i+1:Nat):Int)).toNat 0:Nat):Int)]
    rw[hjt]
  refine Wx.swap3 hsc 16 17 18 (show 16<21 by decide) rfl (show 17<21 by decide) rfl (show 18<21 by decide) rfl
   ((G4 (G4 D5 (G4 D5 (B4 5 rfl rfl) (zdf (N1 (by decide)))) (zoe (zss (by decide) (E9 Wd)) ?_)) D5 zb0).eq (d':= .int (rmV Wd)) ?_)
   ((G4 D5 (G4 D5 (G4 (G4 (O1 (B4 4 rfl rfl) D5 (T6 (d:= .int (c4:Int)) (by decide) (by rw[B7];exact congrArg (zep D.int) ok.e4) (by rw[B5];exact hc5))) (B4 12 rfl rfl) zav) D5 (zfs (by decide))) (zdf (N1 (by decide)))) zb0).eq (congrArg D.int hdn))
   ((G4 D5 (G4 D5 (G4 (G4 (G4 (O1 (B4 4 rfl rfl) D5 (T6 (d:= .int (c4:Int)) (by decide) (by rw[B7];exact congrArg (zep D.int) ok.e4) (by rw[B5];exact hc5))) (B4 12 rfl rfl) zav) D5 (Bi.div (by decide) (P3 (by decide)))) D5 (zfs (by decide))) (zdf (N1 (by decide)))) zb0).eq (congrArg D.int htn)) ?_
  ·rw[show B6 (1:Int)=1 from by decide];omega
  ·congr 1
   unfold rmV;rw[show(49*(Wd:Int)).toNat=49*Wd from rfl,W0]
  refine I9 19 (show 19<21 by decide) rfl (G4 (B4 17 rfl rfl) (O1 (X1 (B8 (O1 (B4 4 rfl rfl) D5 (T6 (d:= .int (c4:Int)) (by decide) (by rw[B7];exact congrArg (zep D.int) ok.e4) (by rw[B5];exact hc5))) (B8 D5 (B8 (G4 (G4 (G4 (B4 12 rfl rfl) (B4 16 rfl rfl) (zdf (N1 hib))) D5 zb0) (O1 (B4 4 rfl rfl) D5 (T6 (d:= .int (c4:Int)) (by decide) (by rw[B7];exact congrArg (zep D.int) ok.e4) (by rw[B5];exact hc5))) zb0) D9)))).ev (G4 (B4 12 rfl rfl) D5 zb0) (T6 (d:= .int sp) (by rw[hii];exact E9 i) (by rw[hii];exact hspe) (by simp))) (zdf (N1 hdb))) ?_
  refine I9 20 (show 20<21 by decide) rfl (G4 (G4 (B4 18 rfl rfl) (B4 16 rfl rfl) (zdf (N1 htb))) ((ze4 (by exact hh rfl) (G7 5 rfl) (B8 ((za9 (lo:=["k"]) (kx:=[false]) (fr:=[11,10,12]) (λ z=>true) (ygq Wd f ws gs (i+1)) (zbu (gj:=[]) (by show zii FRun.nm FRun.kl (FRun.gn.map (·.1)) _ _ _ _ _=true;decide+kernel)) (Iv.range2 (by exact hh rfl) (G7 6 rfl) (B8 D5 (B8 (G4 (B4 12 rfl rfl) D5 zav) D9)) (by decide) (by decide) (by omega+splitNatSub) (by omega+splitNatSub)) rfl (by simp[Q3];omega+splitNatSub) ?_).ev.eq (congrArg D.lst hsum)) D9) Bh.sum).eq (congrArg D.int hsm.symm)) (zdf ?_)) ?_
  ·intro L b d hd Da acc fx gs'
   rw[show((i:Int)+1+1-1).toNat=i+1 from congrArg N7 (zbq ((i:Int)+1) 1)] at hd
   obtain⟨j,hj,rfl⟩:=C5.mp hd;have hji:j<i+1:=I8.mp hj;have hd1:(((i:Int)+1)-(1+(j:Int))).toNat=i-j:=by rw[za6 1 (j:Int),Int.add_sub_add_right];exact zml i j
   have hj1:(1+(j:Int)).toNat=j+1:=congrArg N7 (za6 1 (j:Int));refine⟨zc8,λ z=>(G4 (zgn (O1 (zed 1 rfl rfl (B1 _ A9)) (B4 0 rfl rfl).open (T6 (d:= .int (zil Wd f (j+1))) (zcx (by decide) (E9 j)) (by rw[hj1,zhn,B7,N6 hji];rfl) (by simp;omega))) rfl) (zgn (O1 (zed 2 rfl rfl (B1 _ (B1 _ A9))) (G4 (B4 3 rfl rfl) (B4 0 rfl rfl) zb0).open (T6 (d:= .int (Y5 Wd ws gs (i-j))) (Y2 (by rw[za6 1 (j:Int)];exact W9 (H1.mpr (zdx hji)) 1)) (by rw[hd1,B7,N6 (C2 (ze6 i j) (zg9 (S5 i)))];rfl) (by simp;omega))) rfl) (zdf ?_)).eq ?_⟩
   ·refine mulOk_of_bits (m:=7000) (n:=14800) (zbi (C9 (heb (j+1) (J6 1 j) (A7 hji hn3)) (zb8 (A7 (G3 (G6 43 hWd.1) 4) (by decide))))) (zbi (C9 (hfb (i-j) (A7 (ze6 i j) (K3 hi))) (zb8 (A7 (G6 91 hWd.1) (by decide))))) (by decide)
   ·show _=D.int (zil Wd f (1+(j:Int)).toNat*Y5 Wd ws gs (i+1-(1+(j:Int)).toNat))
    rw[hj1,Nat.add_sub_add_right]
  ·have hF:=hfb (i+1) hn3
   refine mulOk_of_bits (m:=7938) (n:=14800) (zbi ?_) (zbi ?_) (by decide)
   ·have:=(N8 (x:=rmV Wd) (m:=7938)).mp hrb
    rw[Y7];rcases htn1 with e|e<;>rw[e]<;>simpa using this
   ·rw[Y7,K8]
    have h1:(2:Nat)^(91*Wd)*4=2^(91*Wd+2):=by rw[P5]
    have h2:(2:Nat)^(91*Wd+2)<=2^14800:=zb8 (A7 (G3 (G6 91 hWd.1) 2) (by decide))
    have h3:(i+1)*(Y5 Wd ws gs (i+1)).natAbs<=4*(Y5 Wd ws gs (i+1)).natAbs:=I0 _ (G5 hn3);exact C2 h3 (C9 (by rw[<-h1,I7];exact S1 hF91 (by decide)) h2)
  refine W3 (p:=false) (O5 (U5 (G7 2 rfl) (B8 (G4 (B4 20 rfl rfl) (B4 19 rfl rfl) zav) (B8 ((G4 (G4 (B4 17 rfl rfl) (B4 12 rfl rfl) (zdf (N1 hdb))) (B4 16 rfl rfl) (zdf (N1 hdi))).eq (d':= .int (dn*((i+1:Nat):Int)*rmV Wd)) (by push_cast;rfl)) D9)) fdv (A6 (i:=5) rfl) (hl 116 (by decide)) (λ h=>by cases h)) (Z1 (B8 (G4 (G4 (B4 18 rfl rfl) (B4 17 rfl rfl) (zdf (N1 htb))) (zgn (O1 (zed 10 rfl rfl (B1 _ A9)) (B4 12 rfl rfl).open (T6 (d:= .int (Y5 Wd ws gs (i+1))) (show(0:Int)<=(i:Int)+1 from E9 (i+1)) (by rw[show((i:Int)+1).toNat=i+1 from rfl];exact hfml) (by simp;omega))) rfl) (zdf (N1 htd))) (B8 (B4 19 rfl rfl) D9))) (Cm.neSelfT rfl)) (λ hq=>by cases hq) λ z=>?_
  refine zbw λ s F=>⟨trivial,?_⟩;exact F.weak (wkS (wkS (wkS (wkS (wkS (wkS (wkS (wkS (wkS (wkS (wkS (wkS (wkN (wkN (wkN (wkN (wkN (wkN (wkN (wkN (wkN wkE)))))))))))))))))))))
 ·exact za3 Ev.cbool λ v s F r=>⟨F.go,r⟩
noncomputable def Sm (m:Nat)(f:Nat->Int):Int:=((G2 m).map f).sum
theorem zok {α:Type}(f g:α->Int): ∀l:List α,(l.map λ x=>f x+g x).sum=(l.map f).sum+(l.map g).sum
 |[]=>rfl
 |a::r=>by simp only[E5,H7,zok f g r];omega
theorem zoj {α:Type}(c:Int)(f:α->Int): ∀l:List α,(l.map λ x=>c*f x).sum=c*(l.map f).sum
 |[]=>by simp
 |a::r=>by simp only[E5,H7,zoj c f r,zra]
theorem zsz {α:Type}(c:Int)(f:α->Int): ∀l:List α,(l.map λ x=>f x*c).sum=(l.map f).sum*c
 |[]=>by simp
 |a::r=>by simp only[E5,H7,zsz c f r,zh2]
theorem zpz {α:Type}(l:List α):(l.map λ z=>(0:Int)).sum=0:=List.rec rfl (λ z r ih=>by rw[E5,H7,ih];rfl) l
theorem zyw {α β:Type}(f:α->β->Int)(r:List β)(l:List α):(l.map λ a=>(r.map λ b=>f a b).sum).sum=(r.map λ b=>(l.map λ a=>f a b).sum).sum:=by
 induction l with
 |nil=>exact(zpz r).symm
 |cons a l ih=>simp only[E5,H7,ih,zok]
theorem Sm.add {m:Nat}(f g:Nat->Int):Sm m (λ x=>f x+g x)=Sm m f+Sm m g:=zok f g _
theorem Sm.swap {m:Nat}(f:Nat->Nat->Int):Sm m (λ a=>Sm m λ b=>f a b)=Sm m (λ a=>Sm m λ b=>f b a):=zyw f _ _
theorem Sm.congr {m:Nat}{f g:Nat->Int}(h: ∀a,a<m->f a=g a):Sm m f=Sm m g:=by
 unfold Sm;congr 1;exact H6 λ a ha=>h a (I8.mp ha)
theorem Sm.mulL {m:Nat}(c:Int)(f:Nat->Int):Sm m (λ x=>c*f x)=c*Sm m f:=zoj c f _
theorem Sm.mulR {m:Nat}(c:Int)(f:Nat->Int):Sm m (λ x=>f x*c)=Sm m f*c:=zsz c f _
theorem zru {α β:Type}(g:β->Int)(F:α->List β)(l:List α):((l.flatMap F).map g).sum=(l.map λ a=>((F a).map g).sum).sum:=by
 induction l with
 |nil=>rfl
 |cons a r ih=>rw[Y6,J2,zc2,ih,E5,H7]
noncomputable def Sw (m n:Nat)(g:List Nat->Int):Int:=((L7 m n).map g).sum
theorem Sw.succ (m n:Nat)(g:List Nat->Int):Sw m (n+1) g=Sm m λ k=>Sw m n λ w=>g (k::w):=by
 unfold Sw Sm;rw[show L7 m (n+1)=(G2 m).flatMap λ k=>(L7 m n).map (k:: ·) from rfl,zru]
 congr 1;apply H6;intro k _;rw[E6];rfl
open Internal.Sw renaming succ->zfk
theorem Sw.zero (m:Nat)(g:List Nat->Int):Sw m 0 g=g []:=zab _
open Internal.Sw renaming zero->znj
noncomputable def S2 (m:Nat)(f:Nat->Nat->Int):Int:=Sm m λ a=>Sm m λ b=>f a b
noncomputable def S3 (m:Nat)(f:Nat->Nat->Nat->Int):Int:=Sm m λ a=>Sm m λ b=>Sm m λ c=>f a b c
theorem S2.swap (m:Nat)(f:Nat->Nat->Int):S2 m f=S2 m λ a b=>f b a:=Sm.swap f
theorem S2.add (m:Nat)(f g:Nat->Nat->Int):S2 m (λ a b=>f a b+g a b)=S2 m f+S2 m g:=by
 unfold S2;rw[<-Sm.add];congr 1;funext a;rw[<-Sm.add]
theorem S3.swap1 (m:Nat)(f:Nat->Nat->Nat->Int):S3 m f=S3 m λ a b c=>f b a c:=Sm.swap λ a b=>Sm m λ c=>f a b c
theorem S3.swap2 (m:Nat)(f:Nat->Nat->Nat->Int):S3 m f=S3 m λ a b c=>f a c b:=by
 unfold S3;congr 1;funext a;exact Sm.swap λ b c=>f a b c
theorem S3.add (m:Nat)(f g:Nat->Nat->Nat->Int):S3 m (λ a b c=>f a b c+g a b c)=S3 m f+S3 m g:=by
 unfold S3;rw[<-Sm.add];congr 1;funext a;rw[<-Sm.add];congr 1;funext b;rw[<-Sm.add]
theorem S2.congr {m:Nat}{f g:Nat->Nat->Int}(h: ∀a b,a<m->b<m->f a b=g a b):S2 m f=S2 m g:=Sm.congr λ a ha=>Sm.congr λ b hb=>h a b ha hb
theorem S3.congr {m:Nat}{f g:Nat->Nat->Nat->Int}(h: ∀a b c,a<m->b<m->c<m->f a b c=g a b c):S3 m f=S3 m g:=Sm.congr λ a ha=>Sm.congr λ b hb=>Sm.congr λ c hc=>h a b c ha hb hc
noncomputable def sy2 (f:Nat->Nat->Int)(a b:Nat):Int:=f a b+f b a
noncomputable def sy3 (f:Nat->Nat->Nat->Int)(a b c:Nat):Int:=(f a b c+f a c b)+(f b a c+f b c a)+(f c a b+f c b a)
theorem S2.sym (m:Nat)(f:Nat->Nat->Int):S2 m (sy2 f)=2*S2 m f:=by
 have:=S2.swap m f;unfold sy2;rw[S2.add];omega
theorem S3.sym (m:Nat)(f:Nat->Nat->Nat->Int):S3 m (sy3 f)=6*S3 m f:=by
 have e1:S3 m (λ a b c=>f a c b)=S3 m f:=(S3.swap2 m f).symm;have e2:S3 m (λ a b c=>f b a c)=S3 m f:=(S3.swap1 m f).symm;have e3:S3 m (λ a b c=>f b c a)=S3 m f:=by rw[S3.swap1 m (λ a b c=>f b c a)];exact e1
 have e4:S3 m (λ a b c=>f c a b)=S3 m f:=by rw[S3.swap2 m (λ a b c=>f c a b)];exact e2
 have e5:S3 m (λ a b c=>f c b a)=S3 m f:=by rw[S3.swap1 m (λ a b c=>f c b a)];exact e4
 unfold sy3;rw[S3.add,S3.add,S3.add,S3.add,S3.add,e1,e2,e3,e4,e5];omega
noncomputable def zzo:List Int->Nat
 |[]=>0
 |g::r=>(max 0 (g+zzo r)).toNat
noncomputable def Y1 (l:List Int):Nat:=((zzo l:Int)+7*(zzo l-l.sum)).toNat
noncomputable def zmw (t:Int):Nat:=(max t (-7*t)).toNat
theorem ycx (gs:List Int)(w:List Nat):zc3 gs w=zzo (w.map λ k=>gs.getD k 0):=
 List.rec rfl (λ k r ih=>congrArg (λ x:Nat=>(max 0 (gs.getD k 0+(x:Int))).toNat) ih) w
theorem zoo (gs:List Int)(w:List Nat):zd6 gs w=Y1 (w.map λ k=>gs.getD k 0):=by
 unfold zd6 Y1 U9;rw[ycx]
noncomputable def L5:List Int:=[-2,-1,0,1,2]
theorem ybc {g:Int}(h: -2<=g/\g<=2):g∈L5:=by
 have:g= -2\/g= -1\/g=0\/g=1\/g=2:=by omega
 rcases this with e|e|e|e|e<;>subst e<;>decide
theorem zy9 {f:Nat->Int}{l r:List Nat}(h:l.Perm r):(l.map f).sum=(r.map f).sum:=by
 induction h with
 |nil=>rfl
 |cons x _ ih=>rw[E5,E5,H7,H7,ih]
 |swap x y l=>simp only[E5,H7];omega
 |trans _ _ i1 i2=>exact i1.trans i2
theorem znx {f:Nat->Int}{l r:List Nat}(h:l.isPerm r=true):(l.map f).sum=(r.map f).sum:=zy9 (List.isPerm_iff.mp h)
noncomputable def l2L (x y:Int):List Nat:=[Y1 [x,y],Y1 [y,x],Y1 [x,y],Y1 [y,x]]
noncomputable def l2R (x y:Int):List Nat:=[zmw x+Y1 [y],zmw y+Y1 [x],zmw (x+y),zmw (y+x)]
theorem yh2: ∀x∈L5,∀y∈L5,(l2L x y).isPerm (l2R x y)=true:=by decide+kernel
noncomputable def tri (x y t:Int):List Nat:=[zmw x+Y1 [y,t],zmw (x+y)+Y1 [t],zmw (x+(y+t))]
noncomputable def l3L (x y t:Int):List Nat:=
 let l:=[Y1 [x,y,t],Y1 [x,t,y],Y1 [y,x,t],Y1 [y,t,x],Y1 [t,x,y],Y1 [t,y,x]]
 l++l++l
noncomputable def l3R (x y t:Int):List Nat:=tri x y t++tri x t y++tri y x t++tri y t x++tri t x y++tri t y x
theorem yh1: ∀x∈L5,∀y∈L5,∀t∈L5,(l3L x y t).isPerm (l3R x y t)=true:=by decide+kernel
theorem yh3: ∀x∈L5,Y1 [x]=zmw x:=by decide+kernel
noncomputable def zp (Wd e:Nat):Int:=2^(Wd*e)
theorem zps (Wd a b:Nat):zp Wd (a+b)=zp Wd a*zp Wd b:=by unfold zp;rw[R6,yay]
theorem zic (Wd:Nat):zp Wd 0=1:=by unfold zp;simp
theorem zop (n:Nat): ∀l:List (Nat×Int),zui n l=(l.map λ p=>p.2*zp n p.1).sum
 |[]=>rfl
 |p::r=>by rw[E5,H7,<-zop n r];rfl
section
variable(Wd:Nat)(ws:List Nat)(gs:List Int)
noncomputable def wt (a:Nat):Int:=((ws.getD a 0:Nat):Int)
noncomputable def Fw (n:Nat):Int:=Sw gs.length n λ w=>((ziv ws w:Nat):Int)*zp Wd (zd6 gs w)
noncomputable def Ew (n:Nat):Int:=Sw gs.length n λ w=>((ziv ws w:Nat):Int)*zp Wd (zmw (U9 gs w))
theorem zor (n:Nat):Y5 Wd ws gs n=Fw Wd ws gs n:=by
 unfold Y5 zge Fw Sw;rw[zop,E6];rfl
theorem Fw0:Fw Wd ws gs 0=1:=by
 unfold Fw;rw[znj];exact(W0 _).trans (zic Wd)
noncomputable abbrev gg (a:Nat):Int:=gs.getD a 0
theorem yg4 (a:Nat):((ziv ws [a]:Nat):Int)=wt ws a:=congrArg Int.ofNat (W6 _)
theorem yg3 (a b:Nat):((ziv ws [a,b]:Nat):Int)=wt ws a*wt ws b:=by
 show((ws.getD a 0*ziv ws [b]:Nat):Int)=_;rw[zfp,yg4];rfl
theorem yhj (a b c:Nat):((ziv ws [a,b,c]:Nat):Int)=wt ws a*wt ws b*wt ws c:=by
 show((ws.getD a 0*ziv ws [b,c]:Nat):Int)=_;rw[zfp,yg3,W8];rfl
theorem yht (a:Nat):U9 gs [a]=gg gs a:=by simp[U9]
theorem yhs (a b:Nat):U9 gs [a,b]=gg gs a+gg gs b:=by simp[U9]
theorem yhr (a b c:Nat):U9 gs [a,b,c]=gg gs a+(gg gs b+gg gs c):=by simp[U9]
theorem Fw1:Fw Wd ws gs 1=Sm gs.length λ a=>wt ws a*zp Wd (Y1 [gg gs a]):=by
 unfold Fw;rw[zfk];congr 1;funext a;rw[znj,yg4,zoo];rfl
theorem Fw2:Fw Wd ws gs 2=S2 gs.length λ a b=>wt ws a*wt ws b*zp Wd (Y1 [gg gs a,gg gs b]):=by
 unfold Fw S2;rw[zfk];congr 1;funext a;rw[zfk];congr 1;funext b;rw[znj,yg3,zoo];rfl
theorem Fw3:Fw Wd ws gs 3=S3 gs.length λ a b c=>wt ws a*wt ws b*wt ws c*zp Wd (Y1 [gg gs a,gg gs b,gg gs c]):=by
 unfold Fw S3;rw[zfk];congr 1;funext a;rw[zfk];congr 1;funext b;rw[zfk];congr 1;funext c;rw[znj,yhj,zoo];rfl
theorem Ew1:Ew Wd ws gs 1=Sm gs.length λ a=>wt ws a*zp Wd (zmw (gg gs a)):=by
 unfold Ew;rw[zfk];congr 1;funext a;rw[znj,yg4,yht]
theorem Ew2:Ew Wd ws gs 2=S2 gs.length λ a b=>wt ws a*wt ws b*zp Wd (zmw (gg gs a+gg gs b)):=by
 unfold Ew S2;rw[zfk];congr 1;funext a;rw[zfk];congr 1;funext b;rw[znj,yg3,yhs]
theorem Ew3:Ew Wd ws gs 3=S3 gs.length λ a b c=>wt ws a*wt ws b*wt ws c*zp Wd (zmw (gg gs a+(gg gs b+gg gs c))):=by
 unfold Ew S3;rw[zfk];congr 1;funext a;rw[zfk];congr 1;funext b;rw[zfk];congr 1;funext c;rw[znj,yhj,yhr]
theorem yia:Ew Wd ws gs 1*Fw Wd ws gs 1=S2 gs.length λ a b=>wt ws a*wt ws b*zp Wd (zmw (gg gs a)+Y1 [gg gs b]):=by
 rw[Ew1,Fw1,<-Sm.mulR];unfold S2;congr 1;funext a;rw[<-Sm.mulL];congr 1;funext b
 dsimp only
 rw[zps];grind
theorem yh9:Ew Wd ws gs 1*Fw Wd ws gs 2=S3 gs.length λ a b c=>wt ws a*wt ws b*wt ws c*zp Wd (zmw (gg gs a)+Y1 [gg gs b,gg gs c]):=by
 rw[Ew1,Fw2,<-Sm.mulR];unfold S3 S2;congr 1;funext a;rw[<-Sm.mulL];congr 1;funext b;rw[<-Sm.mulL];congr 1;funext c
 dsimp only
 rw[zps];grind
theorem yh8:Ew Wd ws gs 2*Fw Wd ws gs 1=S3 gs.length λ a b c=>wt ws a*wt ws b*wt ws c*zp Wd (zmw (gg gs a+gg gs b)+Y1 [gg gs c]):=by
 rw[Ew2,Fw1];unfold S3 S2;rw[<-Sm.mulR];congr 1;funext a;rw[<-Sm.mulR];congr 1;funext b;rw[<-Sm.mulL];congr 1;funext c
 dsimp only
 rw[zps];grind
variable(hg: ∀a,a<gs.length->gg gs a∈L5)
include hg
theorem zy0:(1:Int)*Fw Wd ws gs 1=Ew Wd ws gs 1*Fw Wd ws gs 0:=by
 rw[Fw0,Fw1,Ew1,W0,zfq];refine Sm.congr λ a ha=>?_;rw[yh3 _ (hg a ha)]
theorem zyz:(2:Int)*Fw Wd ws gs 2=Ew Wd ws gs 1*Fw Wd ws gs 1+Ew Wd ws gs 2*Fw Wd ws gs 0:=by
 rw[Fw0,zfq,yia,Ew2,<-S2.add,Fw2];have key:S2 gs.length (sy2 λ a b=>wt ws a*wt ws b*zp Wd (Y1 [gg gs a,gg gs b])+wt ws a*wt ws b*zp Wd (Y1 [gg gs a,gg gs b]))=
  S2 gs.length (sy2 λ a b=>wt ws a*wt ws b*zp Wd (zmw (gg gs a)+Y1 [gg gs b])+wt ws a*wt ws b*zp Wd (zmw (gg gs a+gg gs b))):=by
  refine S2.congr λ a b ha hb=>?_;have h:=znx (f:=λ e=>wt ws a*wt ws b*zp Wd e) (yh2 _ (hg a ha) _ (hg b hb));unfold sy2
  dsimp only
  unfold l2L l2R at h;simp only[E5,zcm,H7,zi4] at h;rw[Y8 (wt ws b) (wt ws a)];omega
 rw[S2.sym,S2.sym] at key;rw[S2.add] at key;omega
theorem zyy:(3:Int)*Fw Wd ws gs 3=Ew Wd ws gs 1*Fw Wd ws gs 2+(Ew Wd ws gs 2*Fw Wd ws gs 1+Ew Wd ws gs 3*Fw Wd ws gs 0):=by
 rw[Fw0,zfq,yh9,yh8,Ew3,Fw3];have key:S3 gs.length (sy3 λ a b c=>(wt ws a*wt ws b*wt ws c*zp Wd (Y1 [gg gs a,gg gs b,gg gs c])+wt ws a*wt ws b*wt ws c*zp Wd (Y1 [gg gs a,gg gs b,gg gs c]))+wt ws a*wt ws b*wt ws c*zp Wd (Y1 [gg gs a,gg gs b,gg gs c]))=
  S3 gs.length (sy3 λ a b c=>wt ws a*wt ws b*wt ws c*zp Wd (zmw (gg gs a)+Y1 [gg gs b,gg gs c])+(wt ws a*wt ws b*wt ws c*zp Wd (zmw (gg gs a+gg gs b)+Y1 [gg gs c])+wt ws a*wt ws b*wt ws c*zp Wd (zmw (gg gs a+(gg gs b+gg gs c))))):=by
  refine S3.congr λ a b c ha hb hc=>?_;have h:=znx (f:=λ e=>wt ws a*wt ws b*wt ws c*zp Wd e) (yh1 _ (hg a ha) _ (hg b hb) _ (hg c hc));unfold sy3
  dsimp only
  unfold l3L l3R tri at h;simp only[J2,E5,zcm,H7,zi4,zc2] at h;have e1:wt ws a*wt ws c*wt ws b=wt ws a*wt ws b*wt ws c:=Int.mul_right_comm ..;have e2:wt ws b*wt ws a*wt ws c=wt ws a*wt ws b*wt ws c:=by rw[Y8 (wt ws b)]
  have e3:wt ws b*wt ws c*wt ws a=wt ws a*wt ws b*wt ws c:=(Y8 ..).trans (W8 ..).symm;have e4:wt ws c*wt ws a*wt ws b=wt ws a*wt ws b*wt ws c:=by rw[Y8 (wt ws c)];exact e1
  have e5:wt ws c*wt ws b*wt ws a=wt ws a*wt ws b*wt ws c:=by rw[Y8 (wt ws c)];exact e3
  rw[e1,e2,e3,e4,e5];generalize wt ws a*wt ws b*wt ws c=W at h ⊢;omega
 rw[S3.sym,S3.sym] at key;rw[S3.add,S3.add,S3.add,S3.add] at key;omega
end
theorem zkw (h:Nat->Int): ∀{K N:Nat},K<=N->(∀i,K<=i->h i=0)->((G2 K).map h).sum=((G2 N).map h).sum:=by
 intro K N hKN hz
 induction N with
 |zero=>rw[show K=0 by omega]
 |succ N ih=>
  rcases O3 K (N+1) with q|q
  ·rw[X0,J2,zc2,<-ih (by omega)]
   simp[hz N (by omega)]
  ·rw[show K=N+1 by omega]
theorem zoi (h:Nat->Int){K N:Nat}(h1: ∀i,K<=i->h i=0)(h2: ∀i,N<=i->h i=0):((G2 K).map h).sum=((G2 N).map h).sum:=by
 rcases zsq K N with q|q
 ·exact zkw h q h1
 ·exact(zkw h q h2).symm
theorem zve (Wd:Nat)(C:Nat->Nat)(N:Nat):((val Wd ((G2 N).map C):Nat):Int)=((G2 N).map λ i=>((C i:Nat):Int)*zp Wd i).sum:=by
 induction N with
 |zero=>rfl
 |succ N ih=>
  have e1:val Wd [C N]=C N:=(congrArg (· +C N) (zea _)).trans (zac _);rw[X0,J2,J2,zc2,<-ih,zlq,zlq,znn,e1,B5,zao,yat];have e2:zp Wd N=((2^(Wd*N):Nat):Int):=by unfold zp;push_cast;rfl
  rw[e2];push_cast;omega
theorem yco (x:Int)(g:Nat->Int)(j:Nat)(N:Nat):((G2 N).map λ i=>(if j==i then x else 0)*g i).sum=if j<N then x*g j else 0:=by
 induction N with
 |zero=>rfl
 |succ N ih=>
  rw[X0,J2,zc2,ih,zlq,yat];rcases Nat.lt_trichotomy j N with q|q|q
  ·rw[if_pos q,if_pos (zg9 q),if_neg (λ e=>za0 q (beq_iff_eq.mp e)),zco,zab]
  ·rw[q,if_neg (H8 N),if_pos (S5 N),if_pos (beq_self_eq_true N),U0]
  ·rw[if_neg (zj2 q),if_neg (D7.mpr q),if_neg (λ e=>za1 q (beq_iff_eq.mp e)),zco];rfl
theorem zqc {α:Type}(N:Nat)(φ:α->Nat)(a:α->Nat)(g:Nat->Int)(L:List α):(∀w∈L,φ w<N)->
 ((G2 N).map λ i=>((((L.filter λ w=>φ w==i).map a).sum:Nat):Int)*g i).sum=(L.map λ w=>((a w:Nat):Int)*g (φ w)).sum:=by
 induction L with
 |nil=>exact λ z=>(congrArg List.sum (H6 λ i z=>zco (g i))).trans (zpz _)
 |cons w L ih=>
  intro h;have ih:=ih λ x hx=>h x (B1 _ hx);have e:((G2 N).map λ i=>(((((w::L).filter λ w=>φ w==i).map a).sum:Nat):Int)*g i)=
   (G2 N).map λ i=>(if φ w==i then((a w:Nat):Int) else 0)*g i+(((((L.filter λ w=>φ w==i).map a).sum:Nat)):Int)*g i:=by
   apply H6;intro i _;rw[zcf];split
   ·rw[E5,H7];push_cast;rw[zh2]
   ·rw[zco,U0]
  rw[e,zok,ih,yco,if_pos (h w A9),E5,H7]
theorem yab {Wd:Nat}(K:Nat): ∀(l:List Nat),(∀d∈l,d<2^Wd)-> ∀i,(zhl Wd K (val Wd l)).getD i 0=if i<K then l.getD i 0 else 0:=by
 induction K with
 |zero=>exact λ l z i=>rfl
 |succ K ih=>
  intro l h i;have key: ∃d t,val Wd l % 2^Wd=d/\val Wd l / 2^Wd=val Wd t/\(∀x∈t,x<2^Wd)/\l.getD 0 0=d/\ ∀i,l.getD (i+1) 0=t.getD i 0:=by
   cases l with
   |nil=>exact⟨0,[],Nat.zero_mod _,Nat.zero_div _,fmn,rfl,λ z=>rfl⟩
   |cons d t=>
    have hd:=h d A9;refine⟨d,t,?_,?_,λ x hx=>h x (B1 _ hx),rfl,λ z=>rfl⟩
    ·show(val Wd t*2^Wd+d) % 2^Wd=d
     rw[Nat.mul_add_mod_self_right,zeq hd]
    ·show(val Wd t*2^Wd+d) / 2^Wd=_
     rw[Q9,Nat.add_mul_div_right _ _ (J5 _),zer hd,zac]
  obtain⟨d,t,e1,e2,ht,e3,e4⟩:=key;show(val Wd l % 2^Wd::zhl Wd K (val Wd l / 2^Wd)).getD i 0=_;rw[e1,e2]
  cases i with
  |zero=>rw[if_pos (zjz K),e3];rfl
  |succ i=>rw[e4,zyc,ih t ht i];simp only[Nat.succ_lt_succ_iff]
theorem yd5 (Wd:Nat)(l:List Nat): ∀(i:Nat),l.getD i 0*2^(Wd*i)<=val Wd l:=by
 induction l with
 |nil=>exact λ i=>Q0 (zea _)
 |cons d l ih=>
  intro i
  cases i with
  |zero=>exact A7 (Q0 (W6 d)) (J6 _ _)
  |succ i=>
   rw[zyc,R6,W6,P5,<-zbb];exact A7 (I0 (2^Wd) (ih i)) (J9 _ _)
theorem drop_zero (v:Nat->Int)(p:Nat->Bool)(hp: ∀i,p i=false->v i=0)(l:List Nat):((l.filter p).map v).sum=(l.map v).sum:=by
 induction l with
 |nil=>rfl
 |cons i l ih=>
  rw[zcf];split
  ·rw[E5,E5,H7,H7,ih]
  ·rename_i q
   rw[E5,H7,ih,hp i (by simpa using q),U0]
section
variable(Wd:Nat)(ws:List Nat)(gs:List Int)
noncomputable def phi (n:Nat)(w:List Nat):Nat:=(U9 gs w+2*n).toNat
noncomputable def Cf (n i:Nat):Nat:=(((L7 gs.length n).filter λ w=>phi gs n w==i).map (ziv ws)).sum
theorem zlx (hb: ∀g∈gs,-2<=g/\g<=2){n:Nat}{w:List Nat}(hw:w∈L7 gs.length n): -(2*(n:Int))<=U9 gs w/\U9 gs w<=2*n:=by
 have h:=nab (zhj hb w).2;rwa [(zcr hw).1] at h
theorem zvj {Wd:Nat}(f h:Int->Int): ∀l:List Int,V4 Wd (l.map λ g=>f g+h g)=V4 Wd (l.map f)+V4 Wd (l.map h):=by
 intro l
 induction l with
 |nil=>rfl
 |cons a l ih=>
  show V4 Wd (l.map λ g=>f g+h g)*2^Wd+(f a+h a)=(V4 Wd (l.map f)*2^Wd+f a)+(V4 Wd (l.map h)*2^Wd+h a);rw[ih,zh2];ac_rfl
theorem zvi {Wd:Nat}{g x:Int}(hg:g∈L5):V4 Wd (gainsL.map λ k=>if g==k then x else 0)=x*zp Wd (g+2).toNat:=by
 have z: ∀i,zp Wd (i+1)=zp Wd i*2^Wd:=λ i=>by rw[zps];congr 1;unfold zp;rw[W6]
 simp only[L5,B9,D6,or_false] at hg;have u0: ∀r,V4 Wd (0::r)=V4 Wd r*2^Wd:=λ r=>zab _;have u1: ∀k,V4 Wd (x::C1 k 0)=x:=λ k=>by
  have h:V4 Wd (C1 k 0)=0:=by
   induction k with
   |zero=>rfl
   |succ k ih=>exact(u0 _).trans (by rw[ih,zco])
  show V4 Wd (C1 k 0)*2^Wd+x=x;rw[h,zco,U0]
 rcases hg with rfl|rfl|rfl|rfl|rfl
 ·exact(u1 4).trans (by show x=x*zp Wd 0;rw[zic,zfq])
 ·show V4 Wd (0::x::C1 3 0)=x*zp Wd (0+1)
  rw[u0,u1,z,zic,W0]
 ·show V4 Wd (0::0::x::C1 2 0)=x*zp Wd (0+1+1)
  rw[u0,u0,u1,z,z,zic,W0,<-W8]
 ·show V4 Wd (0::0::0::x::C1 1 0)=x*zp Wd (0+1+1+1)
  rw[u0,u0,u0,u1,z,z,z,zic,W0,<-W8,<-W8]
 ·show V4 Wd (0::0::0::0::x::C1 0 0)=x*zp Wd (0+1+1+1+1)
  rw[u0,u0,u0,u0,u1,z,z,z,z,zic,W0,<-W8,<-W8,<-W8]
theorem ybi (hb: ∀g∈gs,-2<=g/\g<=2):yc9 Wd ws gs=Sm gs.length λ a=>wt ws a*zp Wd (gg gs a+2).toNat:=by
 have hg: ∀a,a<gs.length->gg gs a∈L5:=λ a ha=>by
  refine ybc (hb _ ?_);show gs.getD a 0∈gs;rw[C8,B3 ha];exact Q6 ha
 have key: ∀L:List Nat,(∀a∈L,gg gs a∈L5)->V4 Wd (gainsL.map λ g=>((L.filter λ k=>gs.getD k 0==g).map λ k=>(ws.getD k 0:Int)).sum)=(L.map λ a=>wt ws a*zp Wd (gg gs a+2).toNat).sum:=by
  intro L
  induction L with
  |nil=>intro _;exact zno Wd 5
  |cons a L ih=>
   intro h;have ih:=ih λ x hx=>h x (B1 _ hx);have ha:=h a A9;rw[E5,H7,<-ih];have e:(λ g=>(((a::L).filter λ k=>gs.getD k 0==g).map λ k=>(ws.getD k 0:Int)).sum)=λ g=>(if gs.getD a 0==g then wt ws a else 0)+((L.filter λ k=>gs.getD k 0==g).map λ k=>(ws.getD k 0:Int)).sum:=by
    funext g;rw[zcf];split
    ·rfl
    ·exact(U0 _).symm
   rw[e,zvj,zvi ha]
 exact key (G2 gs.length) λ a ha=>hg a (I8.mp ha)
theorem yef (hb: ∀g∈gs,-2<=g/\g<=2): ∀n,yc9 Wd ws gs^n=Sw gs.length n λ w=>((ziv ws w:Nat):Int)*zp Wd (phi gs n w):=by
 intro n
 induction n with
 |zero=>rw[Int.pow_zero,znj];exact((W0 _).trans (zic Wd)).symm
 |succ n ih=>
  rw[Int.pow_succ,ih,Y8,ybi Wd ws gs hb,zfk,<-Sm.mulR];refine Sm.congr λ a ha=>?_;unfold Sw;rw[<-zoj];congr 1;apply H6;intro w hw;have h1:=zlx gs hb hw;have h2: -2<=gg gs a/\gg gs a<=2:=hb _ (by
   show gs.getD a 0∈gs;rw[C8,B3 ha];exact Q6 ha)
  have e1:phi gs (n+1) (a::w)=(gg gs a+2).toNat+phi gs n w:=by
   unfold phi;rw[zfx];rw[<-Int.toNat_add (W9 h2.1 2) (by have:=W9 h1.1 (2*(n:Int));rwa [Int.add_left_neg] at this)]
   show(gg gs a+U9 gs w+2*((n+1:Nat):Int)).toNat=_;congr 1;push_cast;omega
  have e2:((ziv ws (a::w):Nat):Int)=wt ws a*((ziv ws w:Nat):Int):=by
   show((ws.getD a 0*ziv ws w:Nat):Int)=_;rw[zfp];rfl
  rw[e1,e2,zps];grind
end
section
variable{Wd:Nat}{ws:List Nat}{gs:List Int}{f:Nat}
theorem yg8 (n i:Nat)(hl:ws.length=gs.length):Cf ws gs n i<=ws.sum^n:=by
 unfold Cf;refine A7 (zf1 _ _ _) ?_;rw[zqw n gs.length hl];exact D2 _
theorem ya7 (hb: ∀g∈gs,-2<=g/\g<=2){n:Nat}{w:List Nat}(hw:w∈L7 gs.length n):phi gs n w<4*n+1:=by
 have:=zlx gs hb hw;unfold phi;omega
theorem ycl (hb: ∀g∈gs,-2<=g/\g<=2)(hf:yc9 Wd ws gs=f)(n:Nat):f^n=val Wd ((G2 (4*n+1)).map (Cf ws gs n)):=by
 have h1:=yef Wd ws gs hb n;have h2:=zve Wd (Cf ws gs n) (4*n+1);have h3:=zqc (4*n+1) (phi gs n) (ziv ws) (zp Wd) (L7 gs.length n) λ w hw=>ya7 hb hw;rw[hf] at h1;have h4:((f^n:Nat):Int)=((val Wd ((G2 (4*n+1)).map (Cf ws gs n)):Nat):Int):=by
  rw[h2,zq9,h1];exact h3.symm
 exact zdy h4
theorem ydi (hb: ∀g∈gs,-2<=g/\g<=2)(hl:ws.length=gs.length)(hf:yc9 Wd ws gs=f)(hs:0<ws.sum)(sb:ws.sum^3<2^Wd)(hW:0<Wd){n:Nat}(hn:n<=3):zil Wd f n=Ew Wd ws gs n:=by
 have hlt: ∀d∈(G2 (4*n+1)).map (Cf ws gs n),d<2^Wd:=λ d hd=>by
  obtain⟨i,_,rfl⟩:=C5.mp hd;exact C2 (A7 (yg8 (ws:=ws) (gs:=gs) n i hl) (J1 hs hn)) sb
 have hv:=ycl hb hf n;generalize hC:(G2 (4*n+1)).map (Cf ws gs n)=Cl at hlt hv;generalize hK:(B6 ((f^n:Nat):Int)+Wd-1) / Wd=K;have hfig: ∀i,(zdg Wd f n).getD i 0=if i<K then Cl.getD i 0 else 0:=λ i=>by
  unfold zdg;rw[hK,hv];exact yab K Cl hlt i
 have hlen:(zdg Wd f n).length=K:=by unfold zdg;rw[zdt,hK]
 have hlt2:val Wd Cl<2^(Wd*K):=by
  rw[<-hv];have h:=(N8 (x:=((f^n:Nat):Int)) (m:=B6 ((f^n:Nat):Int))).mp (D2 _);rw[K8] at h;refine C9 h (J1 (by decide) ?_)
  rw[<-hK];exact zo3 hW
 have hout: ∀i,K<=i->Cl.getD i 0=0:=λ i hi=>by
  have h1:=yd5 Wd Cl i;have h2:2^(Wd*K)<=2^(Wd*i):=J1 (by decide) (G6 _ hi)
  rcases zbp (Cl.getD i 0) with q|q
  ·exact q
  ·have h3:1*2^(Wd*i)<=Cl.getD i 0*2^(Wd*i):=I0 _ q
   rw[zba] at h3;exact absurd (A7 h2 (A7 h3 h1)) (Nat.not_le.mpr hlt2)
 have hin: ∀i,4*n+1<=i->Cl.getD i 0=0:=λ i hi=>by
  rw[C8,H9 (by rw[<-hC];simpa using hi)];rfl
 unfold zil zd7;rw[zop,E6,hlen];have e1:((λ p:Nat×Int=>p.2*zp Wd p.1)∘λ i=>(zam n i,(((zdg Wd f n).getD i 0:Nat):Int)))=λ i=>(((zdg Wd f n).getD i 0:Nat):Int)*zp Wd (zam n i):=rfl;rw[e1,drop_zero (λ i=>(((zdg Wd f n).getD i 0:Nat):Int)*zp Wd (zam n i)) (λ i=>(zdg Wd f n).getD i 0 != 0) (λ i h=>by
  have:(zdg Wd f n).getD i 0=0:=by simpa using h
  rw[this];simp)]
 have e2:((G2 K).map λ i=>(((zdg Wd f n).getD i 0:Nat):Int)*zp Wd (zam n i))=(G2 K).map λ i=>((Cl.getD i 0:Nat):Int)*zp Wd (zam n i):=by
  apply H6;intro i hi;rw[hfig,if_pos (I8.mp hi)]
 rw[e2,zoi (λ i=>((Cl.getD i 0:Nat):Int)*zp Wd (zam n i)) (N:=4*n+1) (λ i hi=>by
  have:=hout i hi;simp only[this];simp) (λ i hi=>by
  have:=hin i hi;simp only[this];simp)]
 have e3:((G2 (4*n+1)).map λ i=>((Cl.getD i 0:Nat):Int)*zp Wd (zam n i))=(G2 (4*n+1)).map λ i=>(((((L7 gs.length n).filter λ w=>phi gs n w==i).map (ziv ws)).sum:Nat):Int)*zp Wd (zam n i):=by
  apply H6;intro i hi;have hi:=I8.mp hi;have:Cl.getD i 0=Cf ws gs n i:=by
   rw[<-hC,C8,B7,N6 hi];rfl
  rw[this];rfl
 rw[e3,zqc (4*n+1) (phi gs n) (ziv ws) (λ i=>zp Wd (zam n i)) (L7 gs.length n) λ w hw=>ya7 hb hw];unfold Ew Sw;congr 1;apply H6;intro w hw;have h1:=zlx gs hb hw;have:zam n (phi gs n w)=zmw (U9 gs w):=by
  unfold zam phi zmw;rw[show(((U9 gs w+2*(n:Int)).toNat:Nat):Int)-2*n=U9 gs w by omega]
 rw[this]
theorem yec (hb: ∀g∈gs,-2<=g/\g<=2)(hl:ws.length=gs.length)(hf:yc9 Wd ws gs=f)(hs:0<ws.sum)(sb:ws.sum^3<2^Wd)(hW:0<Wd):
 ∀n:Nat,1<=n->n<=3->(n:Int)*Y5 Wd ws gs n=((G2 n).map λ k=>zil Wd f (k+1)*Y5 Wd ws gs (n-(k+1))).sum:=by
 intro n h1 h3;have hg: ∀a,a<gs.length->gg gs a∈L5:=λ a ha=>by
  refine ybc (hb _ ?_);show gs.getD a 0∈gs;rw[C8,B3 ha];exact Q6 ha
 have E:=λ k (hk:k<=3)=>ydi hb hl hf hs sb hW hk;have e1:=E 1 (by decide)
 have e2:=E 2 (by decide)
 have e3:=E 3 (by decide)
 have:n=1\/n=2\/n=3:=by omega
 rcases this with rfl|rfl|rfl
 ·have:=zy0 Wd ws gs hg
  simp only[X0,zpp,I2,E5,zcm,H7,zi4,N9,J2,zor,e1];simp only[zac,e1,Nat.sub_self];push_cast;omega
 ·have:=zyz Wd ws gs hg
  simp only[X0,zpp,I2,E5,zcm,H7,zi4,N9,J2,zor,e1];simp only[zac,e1,e2,Nat.reduceAdd,Nat.reduceSub];push_cast;omega
 ·have:=zyy Wd ws gs hg
  simp only[X0,zpp,I2,E5,zcm,H7,zi4,N9,J2,zor,e1];simp only[zac,e1,e2,e3,Nat.reduceAdd,Nat.reduceSub];push_cast;omega
theorem zul (hb: ∀g∈gs,-2<=g/\g<=2)(hl:ws.length=gs.length)(hs:0<ws.sum): ∃f:Nat,yc9 Wd ws gs=f/\0<f/\f<=ws.sum*2^(4*Wd):=by
 have hw:(G2 gs.length).map (λ a=>ws.getD a 0)=ws:=by rw[<-hl];exact zfg 0 ws
 have key: ∀L:List Nat,(∀a∈L,(gg gs a+2).toNat<=4)-> ∃f:Nat,(L.map λ a=>wt ws a*zp Wd (gg gs a+2).toNat).sum=f/\(L.map λ a=>ws.getD a 0).sum<=f/\f<=(L.map λ a=>ws.getD a 0).sum*2^(4*Wd):=by
  intro L
  induction L with
  |nil=>intro _;exact⟨0,rfl,by simp,by simp⟩
  |cons a L ih=>
   intro h;obtain⟨f,h1,h2,h3⟩:=ih λ x hx=>h x (B1 _ hx);have ha:=h a A9;have hp:2^(Wd*(gg gs a+2).toNat)<=2^(4*Wd):=J1 (by decide) (by rw[I7 4];exact G6 _ ha)
   have hp1:1<=2^(Wd*(gg gs a+2).toNat):=J5 _;refine⟨ws.getD a 0*2^(Wd*(gg gs a+2).toNat)+f,?_,?_,?_⟩
   ·rw[E5,H7,h1]
    unfold wt zp;push_cast;rfl
   ·rw[E5,H7]
    exact I5 (zdb _ hp1) h2
   ·rw[E5,H7,X8]
    exact I5 (G6 (ws.getD a 0) hp) h3
 obtain⟨f,h1,h2,h3⟩:=key (G2 gs.length) λ a ha=>by
  have: -2<=gg gs a/\gg gs a<=2:=hb _ (by
   show gs.getD a 0∈gs;rw[C8,B3 (I8.mp ha)];exact Q6 (I8.mp ha))
  exact O4.mpr (W9 this.2 2)
 rw[hw] at h2 h3;exact⟨f,by rw[ybi Wd ws gs hb];exact h1,C9 hs h2,h3⟩
end
noncomputable def ycw:List Stmt:=match fdLaw.body with| .stmts b=>b|_=>[]
noncomputable def yen:List Str:=["script","cells","edges","gains","told","x","kept","texts","left"]
noncomputable def lwGn:List (Str×Value):=[("_law_cells",.ref 280),("int_divmod",.ref 108),("ZeroDivisionError",.type "ZeroDivisionError"),("len",.builtin "len"),("_law_table",.ref 285),("_pre_parse_validation",.ref 66),("_law_run",.ref 305)]
noncomputable abbrev lwC (A:H2)(env:Env)(b:A8)(lv:Nat):Cx:={A:=A,env:=env,b:=b,K:=[],nm:=yen,ns:=9,gn:=lwGn,lv:=lv,kl:=[false,false,false,false,false,false,false,false,false],wr:=[],dk:=[]}
structure LawOk (sc:List Int)(c0 c1 c2:Int)(c3 c4:Nat)(gs:List Int)(ps:List Str)(ws:List Nat)(Wd f:Nat):Prop where
 cs:ztr sc=[c0,c1,c2,c3,c4]
 sz:sc.length<=1000
 c4b:1<c4/\c4<=1000000000
 c3b:c3<10^15
 gsE:gs=([c0,c1,c2].take (if 3<sc.length then 3 else 2)).map λ c=>c.fmod 5-2
 psE:ps=gs.map λ g=>zbn ")" g++zbn "(" (-g)
 wsE:([c0,c1,c2].take (if 3<sc.length then 3 else 2)).map (λ c=>c.fdiv 5)=ws.map λ w:Nat=>(w:Int)
 ok:PsOk ps (ws.map λ w:Nat=>(w:Int))
 x:(xV c3).length<=60
 pre:[("(":Str)++xV c3++ ")",")"++xV c3++ "(",("(":Str)++xV c3++ ")"++ "\")",xV c3++ "(\"\""].map zr1=[("(":Str)++xV c3++ ")","('', '')","('', '')","('', '')"]
 run:RunOk ps ws (xV c3) gs [c0,c1,c2,c3,c4] c3 c4 Wd f
noncomputable def gnD:D->D
 | .int c=> .int (c.fmod 5-2)
 |_=> .none
noncomputable def pcD:D->D
 | .int g=> .str (zbn ")" g++zbn "(" (-g))
 |_=> .none
noncomputable def wtD:D->D
 | .int c=> .int (c.fdiv 5)
 |_=> .none
theorem zwg {l:List Int}(f:D->D)(g:Int->Int)(h: ∀i,f (.int i)= .int (g i)):((izD l).filter λ z=>true).map f=izD (l.map g):=by
 rw[Q5];unfold izD;rw[E6,E6];exact H6 λ i z=>h i
theorem ztn {x b:Nat}(hx:x<=1)(hb:b<=1000000000)(h1:1<b):yd2 x b:=by
 have h2:B6 (b:Int)<=30:=zbi (show b<2^30 from C2 hb (by decide))
 have h3:B6 (x:Int)<=1:=zbi (show x<2^1 from zha hx)
 refine⟨A7 h2 (by decide),?_,A7 h3 (by decide)⟩
 exact A7 (zq4 _ _) (A7 (ze6 ..) (A7 (I5 h3 h2) (by decide)))
theorem zxa {w:E3}{c:Cx}{H:Hm}{V:List (Option D)}{args:List Expr}{ps p:Pos}{x:Str}{f:Addr}{ds:List D}{fd:K9}{s:A8}{Q E:Value->A8->Prop}(hf:Nv G0 w c (.Name x p) (.ref f))(ha:As G0 w c H V true args ds)(hfd:(f,fd)∈G0.ftab)(F:FrS G0 c H V s)
 (k: ∀vs s1,FrS G0 c H V s1->Go s s1->RpL (hid (hk c H true) s1.heap) ds vs->D0 (D1 pw w) c.A (call (.ref f) vs) Q E s1):D0 (D1 pw w) c.A (M3 (.Call (.Name x p) args [] ps) c.env) Q E s:=by
 refine L0 (hf.h H V s F _ _ ?_);refine R3 (o:={cls:= .type "function",data:= .func fd}) (fd:=fd) (N2 (ha.ns _) (ha.h _ s F _ _ λ vs s1 g1 r1=>⟨⟨(F.onto g1).gnd.fn _ hfd,rfl⟩,?_⟩));rw[I2];exact k vs s1 (F.onto g1) g1 r1
section
variable{w:E3}
theorem zzl {A:H2}{env:Env}{b:A8}{lv:Nat}{sc:List Int}{c0 c1 c2:Int}{c3 c4:Nat}{gs:List Int}{ps:List Str}{ws:List Nat}{Wd f:Nat}(hh:A.handled=none)(hsc:env.scope=fdLaw.scope)(hfr:A.frames=some [env])(hef:env.frame=some env.locals)(hlv:130<=lv)(O:LawOk sc c0 c1 c2 c3 c4 gs ps ws Wd f){P:Flow->A8->Prop}{E:Value->A8->Prop}
 (hP: ∀s,GoW [] b s->P (.ret (.bool true)) s):Wx G0 w (lwC A env b lv) h0 [some (.lst (izD sc)),none,none,none,none,none,none,none,none] ycw P E:=by
 have hsl:H5=16777216:=by decide
 obtain⟨cb1,cb2⟩:=O.c4b;have g4: ∀{c:Cx},Gi G0 w (.lst (izD [c0,c1,c2,c3,c4])) (.int 4) (.int (c4:Int)):=λ{c}=>T6 (by decide) rfl (by show 5<=2^62;decide)
 have na:(c4:Int).natAbs=c4:=rfl;have c0':(0:Int)<c4:=X2.mpr (zgi (by decide) cb1)
 have e1:Fn G0 w 116 108 [.int 0,.int (-(c4:Int))] (.tup [.int 0,.int 0]):=by
  have:=zfz (w:=w) (b:= -(c4:Int)) (q:=0) (r:=0) (Int.ne_of_lt (zdd c0')) (.inr ⟨zdd c0',zdd c0',V2 0⟩) (λ x hx=>by
   rw[zcw,na];exact ztn (by simp at hx;omega) cb2 cb1)
  rwa [show(0:Int)* -(c4:Int)+0=0 by simp] at this
 have e2:Fn G0 w 116 108 [.int (-1),.int (c4:Int)] (.tup [.int (-1),.int ((c4:Int)-1)]):=by
  have hm:(-1:Int)*(c4:Int)+((c4:Int)-1)= -1:=by omega
  have:=zfz (w:=w) (b:=(c4:Int)) (q:= -1) (r:=(c4:Int)-1) (zxv c0') (.inl ⟨c0',zap c0',zq6 _ (by decide)⟩) (λ x hx=>by
   rw[hm] at hx;rw[na];exact ztn (by simpa using hx) cb2 cb1)
  rwa [hm] at this
 have hn2:(if 3<sc.length then(3:Nat) else 2)<=3:=by split<;>omega
 generalize hN:(if 3<sc.length then(3:Nat) else 2)=N at hn2;have hgsE:=O.gsE;have hwsE:=O.wsE;rw[hN] at hgsE hwsE;have hN2:2<=N:=by rw[<-hN];split<;>omega
 have hgl:gs.length=N:=by rw[hgsE,B5,U1];simp;omega
 have hscz:(izD sc).length=sc.length:=B5 ..;have hsz:=O.sz;have tk: ∀n:Nat,(izD [c0,c1,c2,(c3:Int),(c4:Int)]).take n=izD ([c0,c1,c2,(c3:Int),(c4:Int)].take n):=λ n=>by unfold izD;rw[zt1]
 have tk3:[c0,c1,c2,(c3:Int),(c4:Int)].take N=[c0,c1,c2].take N:=by
  have:N=2\/N=3:=by omega
  rcases this with q|q<;>(rw[q];rfl)
 have ls: ∀n:Nat,n<=5->(izD ([c0,c1,c2,(c3:Int),(c4:Int)].take n)).length<=H5:=λ n z=>by
  unfold izD;rw[B5,U1];have:[c0,c1,c2,(c3:Int),(c4:Int)].length=5:=rfl;omega
 have eg:((izD ([c0,c1,c2,(c3:Int),(c4:Int)].take N)).filter λ z=>true).map gnD=izD gs:=by
  rw[zwg gnD (λ c=>c.fmod 5-2) λ i=>rfl,tk3,<-hgsE]
 have hgz:(izD gs).length=N:=by unfold izD;rw[B5,hgl]
 have hgb:=O.run.gb;have ep:((izD gs).filter λ z=>true).map pcD=ps.map D.str:=by
  rw[Q5,O.psE];unfold izD;rw[E6,E6];rfl
 have ew:((izD ([c0,c1,c2,(c3:Int),(c4:Int)].take N)).filter λ z=>true).map wtD=izD (ws.map λ w:Nat=>(w:Int)):=by
  rw[zwg wtD (λ c=>c.fdiv 5) λ i=>rfl,tk3,hwsE]
 have k1: ∀{P0:Flow->A8->Prop} {E0:Value->A8->Prop} {rest0:List Stmt} {e0:Expr} {p0 ps0:Pos},(∀s,FrS G0 (lwC A env b lv) h0 [some (.lst (izD sc)),some (.lst (izD [c0,c1,c2,(c3:Int),(c4:Int)])),some (.lst [.tup [.int 0,.int 0],.tup [.int (-1),.int ((c4:Int)-1)]]),some (.lst (izD gs)),none,none,none,none,none] s-> ∀Q:Value->A8->Prop,(∀v s',FrS G0 (lwC A env b lv) h0 [some (.lst (izD sc)),some (.lst (izD [c0,c1,c2,(c3:Int),(c4:Int)])),some (.lst [.tup [.int 0,.int 0],.tup [.int (-1),.int ((c4:Int)-1)]]),some (.lst (izD gs)),none,none,none,none,none] s'->Rp (hid (hk (lwC A env b lv) h0 true) s'.heap) (.tup [.lst (ps.map D.str),.lst (izD (ws.map λ w:Nat=>(w:Int))),.str (xV c3)]) v->Q v s')->D0 (D1 pw w) A (M3 e0 env) Q E0 s)->
  Wx G0 w (lwC A env b lv) h0 [some (.lst (izD sc)),some (.lst (izD [c0,c1,c2,(c3:Int),(c4:Int)])),some (.lst [.tup [.int 0,.int 0],.tup [.int (-1),.int ((c4:Int)-1)]]),some (.lst (izD gs)),some (.tup [.lst (ps.map D.str),.lst (izD (ws.map λ w:Nat=>(w:Int))),.str (xV c3)]),none,none,none,none] rest0 P0 E0->U6 e0 (some (.Name "told" p0)) ps0.line env=pure false->
  Wx G0 w (lwC A env b lv) h0 [some (.lst (izD sc)),some (.lst (izD [c0,c1,c2,(c3:Int),(c4:Int)])),some (.lst [.tup [.int 0,.int 0],.tup [.int (-1),.int ((c4:Int)-1)]]),some (.lst (izD gs)),none,none,none,none,none] (.Assign [.Name "told" p0] e0 ps0::rest0) P0 E0:=λ h1 h2 h3=>
  ⟨λ s F=>E8 (V3 (h1 s F _ λ v s' F' r'=>F'.store 4 (show 4<9 by decide) rfl r' λ s2 F2 z=>h2.h s2 F2) h3)⟩
 have hxz:=O.x;have xz0:1+(xV c3).length<=61:=Q2 hxz 1;have xz1:1+(xV c3).length+1<=62:=G3 xz0 1;have xz2:1+(xV c3).length+1+2<=64:=G3 xz1 2;have xz3:(xV c3).length+3<=63:=G3 hxz 3;have pz: ∀x∈[("(":Str)++xV c3++ ")",")"++xV c3++ "(",("(":Str)++xV c3++ ")"++ "\")",xV c3++ "(\"\""],x.length<=1000:=by
  intro x hx;simp only[B9,D6,or_false] at hx;rcases hx with rfl|rfl|rfl|rfl
  ·rw[M2,M2];exact A7 xz1 (by decide:62<=1000)
  ·rw[M2,M2];exact A7 xz1 (by decide:62<=1000)
  ·rw[M2,M2,M2];exact A7 xz2 (by decide:64<=1000)
  ·rw[M2];exact A7 xz3 (by decide:63<=1000)
 have g2:Gi G0 w (.tup [.lst (ps.map D.str),.lst (izD (ws.map λ w:Nat=>(w:Int))),.str (xV c3)]) (.int 2) (.str (xV c3)):=Gi.tup (by decide) rfl (by simp)
 have g0:Gi G0 w (.tup [.lst (ps.map D.str),.lst (izD (ws.map λ w:Nat=>(w:Int))),.str (xV c3)]) (.int 0) (.lst (ps.map D.str)):=Gi.tup (by decide) rfl (by simp)
 have g1:Gi G0 w (.tup [.lst (ps.map D.str),.lst (izD (ws.map λ w:Nat=>(w:Int))),.str (xV c3)]) (.int 1) (.lst (izD (ws.map λ w:Nat=>(w:Int)))):=Gi.tup (by decide) rfl (by simp)
 have epre:=O.pre;refine I9 1 (show 1<9 by decide) rfl ((U5 (G7 0 rfl) (B8 (B4 0 rfl rfl) D9) (zz0 O.sz) (A6 (i:=18) rfl) (A7 (by decide:2<=130) (G5 hlv)) (λ z=>hh)).eq (congrArg (λ l=>D.lst (izD l)) O.cs)) ?_
 refine Wx.tryN (cls:= "ZeroDivisionError") (outer:=[]) (V':=[some (.lst (izD sc)),some (.lst (izD [c0,c1,c2,c3,c4])),some (.lst [.tup [.int 0,.int 0],.tup [.int (-1),.int ((c4:Int)-1)]]),none,none,none,none,none,none]) hh hfr hef (by first|rfl|kernel_rfl) (by first|rfl|kernel_rfl) zsu (by decide) (λ p hp=>nomatch hp) (λ z=>G7 2 rfl) (λ s F=>?_) (λ e=>?_) ?_
 ·refine E8 (zgc (zxa (ds:=[.int (c4:Int),.int 0]) (G7 1 rfl) (B8 (O1 (B4 1 rfl rfl) D5 (g4 (c:=lwC A env b lv))) (B8 D5 D9)) (A6 (i:=5) rfl) F λ vs s1 F1 g1 r1=>?_) (by unfold zc4;rw[F.ok.fn];rfl) rfl)
  obtain⟨m,hm⟩:=F1.ns;have ff:FF s1.heap [env]:=FF.cons F1.ok.fn hef hm (λ en h=>nomatch h)
  refine zwk hh (F1.ok.rm.le (A7 (by decide:2<=130) (G5 hlv))) (F1.okS true) r1 hfr ff λ e a0 S r s' g2 T hS=>?_
  have nb: ∀a,b.heap.objs.size<=a->b.heap.get? a=none:=λ a ha=>by
   cases q:b.heap.get? a with
   |none=>rfl
   |some o'=>exact absurd (C6 q) (D7.mpr ha)
  refine⟨e,a0,none,S,r,rfl,F1.onto g2,T,(λ x hx=>by cases hx),λ a ha=>nb a ?_,λ p hp=>nomatch hp⟩
  rcases hS a ha with q|q
  ·rw[zd8 hef] at q
   have:a=env.locals:=by simpa using q
   rw[this];exact F1.ok.lo
  ·exact A7 F1.go.size q
 ·refine I9 (d:= .lst [.tup [.int 0,.int 0],.tup [.int (-1),.int ((c4:Int)-1)]]) 2 (show 2<9 by decide) rfl (X1 (B8 (U5 (G7 1 rfl) (B8 D5 (B8 (zk8 (O1 (B4 1 rfl rfl) D5 (g4 (c:=lwC A env b lv))) Un.neg) D9)) e1 (A6 (i:=5) rfl) (A7 (by decide:116<=130) (G5 hlv)) (λ h=>by cases h))
   (B8 (U5 (G7 1 rfl) (B8 (zk8 D5 Un.neg) (B8 (O1 (B4 1 rfl rfl) D5 (g4 (c:=lwC A env b lv))) D9)) e2 (A6 (i:=5) rfl) (A7 (by decide:116<=130) (G5 hlv)) (λ h=>by cases h)) D9))).ev ?_
  exact zbw λ s F=>⟨rfl,F⟩
 refine Wx.asgE (lo:=["cell"]) (kx:=[false]) (fr:=[]) (l:=izD ([c0,c1,c2,(c3:Int),(c4:Int)].take N)) (λ z=>true) gnD 3 (show 3<9 by decide) rfl (zbu (gj:=[]) (by show zii yen [false,false,false,false,false,false,false,false,false] (lwGn.map (·.1)) _ _ _ _ _=true;decide+kernel))
  (zgr hh ((zmk (lo:=none) (hi:=some (N:Int)) (B4 1 rfl rfl) Pt.none (Pt.some ((Ev.ite (p:=decide (3<sc.length)) (d:= .int (N:Int)) ((O5 (V0 (G7 3 rfl) (B8 (B4 0 rfl rfl) D9) (zb1 (by rw[hscz];omega))) D5 Cm.gt).eq (by rw[hscz];simp;omega)) (λ q=>?_) λ q=>?_))) (by show 5<=_;decide+kernel) ⟨(λ a h=>by cases h),(λ a h=>by cases h;omega),.inl rfl⟩).ev.eq (by rw[<-tk];rfl)) zec) rfl (ls N (by omega)) ?_ (zhf hsc (by decide+kernel)) eg ?_
 ·refine Ev.cint.eq ?_
  rw[<-hN,if_pos (by simpa using q)];rfl
 ·refine Ev.cint.eq ?_
  rw[<-hN,if_neg (by simpa using q)];rfl
 ·intro L' b' d hd Da acc fx gs'
  obtain⟨i,hi,rfl⟩:=C5.mp hd;exact⟨zc8,λ z=>G4 (G4 (B4 0 rfl rfl) D5 (zfs (by decide))) D5 zb0⟩
 refine k1 (λ s F Q k=>?_) ?_ rfl
 ·refine zxa (ds:=[.lst (ps.map D.str),.lst (izD (ws.map λ w:Nat=>(w:Int))),.int (c3:Int)]) (G7 4 rfl) (B8 ((za9 (lo:=["gain"]) (kx:=[false]) (fr:=[]) (λ z=>true) pcD (zbu (gj:=[]) (by show zii yen [false,false,false,false,false,false,false,false,false] (lwGn.map (·.1)) _ _ _ _ _=true;decide+kernel)) (zgr hh (B4 3 rfl rfl) zec) rfl (by rw[hgz];omega) ?_).ev.eq (by rw[ep]))
   (B8 ((za9 (lo:=["cell"]) (kx:=[false]) (fr:=[]) (l:=izD ([c0,c1,c2,(c3:Int),(c4:Int)].take N)) (λ z=>true) wtD (zbu (gj:=[]) (by show zii yen [false,false,false,false,false,false,false,false,false] (lwGn.map (·.1)) _ _ _ _ _=true;decide+kernel))
     (zgr hh ((zmk (lo:=none) (hi:=some (N:Int)) (B4 1 rfl rfl) Pt.none (Pt.some ((V0 (G7 3 rfl) (B8 (B4 3 rfl rfl) D9) (zb1 (by rw[hgz];omega))).eq (by rw[hgz]))) (by show 5<=_;decide+kernel) ⟨(λ a h=>by cases h),(λ a h=>by cases h;omega),.inl rfl⟩).ev.eq (by rw[<-tk];rfl)) zec) rfl (ls N (by omega)) ?_).ev.eq (by rw[ew]))
   (B8 (O1 (B4 1 rfl rfl) D5 (T6 (by decide) rfl (by show 5<=2^62;decide))) D9))) (A6 (i:=19) rfl) F λ vs s1 F1 g1 r1=>?_
  ·intro L' b' d hd Da acc fx gs'
   obtain⟨i,hi,rfl⟩:=C5.mp hd;obtain⟨b1,b2⟩:=hgb i hi;refine⟨zc8,λ z=>G4 (G4 K0 (B4 0 rfl rfl) (Bi.mulS (zv7 (c:=41) (by decide+kernel) (by omega) (by omega)))) (G4 K0 (zk8 (B4 0 rfl rfl) Un.neg) (Bi.mulS (zv7 (c:=40) (by decide+kernel) (by omega) (by omega)))) (zau ?_)⟩
   have:i= -2\/i= -1\/i=0\/i=1\/i=2:=by omega
   rcases this with q|q|q|q|q<;>(rw[q];decide+kernel)
  ·intro L' b' d hd Da acc fx gs'
   obtain⟨i,hi,rfl⟩:=C5.mp hd;exact⟨zc8,λ z=>G4 (B4 0 rfl rfl) D5 (Bi.div (by decide) (P3 (by decide)))⟩
  ·exact zyv F1 hh hfr hef rfl rfl (A7 (by decide:12<=130) (G5 hlv)) O.ok O.c3b r1 k
 refine W3 (p:=false) (Ts.bo (Al.or (p:=false) (O5 (B4 4 rfl rfl) zaq (znk (by simp))) λ z=>Al.or (p:=false) (O5 (B4 2 rfl rfl) (X1 (B8 (Z1 (B8 D5 (B8 D5 D9))) (B8 (Z1 (B8 (zk8 D5 Un.neg) (B8 (G4 (O1 (B4 1 rfl rfl) D5 (g4 (c:=lwC A env b lv))) D5 zb0) D9))) D9))).ev (zkf rfl)) λ z=>zmt)) (λ q=>by cases q) λ z=>?_
 refine Wx.swap2 (nb:=true) (λ z=>hh) hsc 5 6 (show 5<9 by decide) rfl (show 6<9 by decide) rfl (O1 (B4 4 rfl rfl) D5 g2) (G4 (G4 K0 (O1 (B4 4 rfl rfl) D5 g2) (zau (A7 xz0 (by decide+kernel:61<=H5)))) K0 (zau (by rw[M2];exact A7 xz1 (by decide+kernel:62<=H5)))) ?_
 refine I9 (d:= .lst ([("(":Str)++xV c3++ ")",")"++xV c3++ "(",("(":Str)++xV c3++ ")"++ "\")",xV c3++ "(\"\""].map D.str)) 7 (show 7<9 by decide) rfl (X1 (B8 (B4 6 rfl rfl) (B8 (G4 (G4 K0 (B4 5 rfl rfl) (zau (A7 xz0 (by decide+kernel:61<=H5)))) K0 (zau (by rw[M2];exact A7 xz1 (by decide+kernel:62<=H5))))
  (B8 (G4 (B4 6 rfl rfl) K0 (zau (by rw[M2,M2];exact A7 xz2 (by decide+kernel:64<=H5)))) (B8 (G4 (B4 5 rfl rfl) K0 (zau (A7 xz3 (by decide+kernel:63<=H5)))) D9))))).ev ?_
 refine I9 8 (show 8<9 by decide) rfl (zmk (lo:=none) (hi:=none) (B4 7 rfl rfl) Pt.none Pt.none (by show 4<=_;decide+kernel) ⟨(λ a h=>by cases h),(λ a h=>by cases h),.inl rfl⟩).ev ?_
 refine W3 (p:=false) (Ts.bo (Al.or (p:=false) (O5 (U5 (G7 5 rfl) (B8 (B4 7 rfl rfl) D9) (ye1 pz (by show 4<=1000;omega)) (A6 (i:=9) rfl) (A7 (by decide:6<=130) (G5 hlv)) (λ z=>hh))
  ((Nl.bin (X1 (B8 (B4 6 rfl rfl) D9)).ev (Nl.bin (X1 (B8 K0 D9)).ev D5 (Bn.mul (by decide) (by decide) (by decide))).ev (Bn.add (by show 1+3<=_;omega))).ev.eq (by rw[epre];rfl)) (zkf (by rw[epre];rfl))) λ z=>Al.or (p:=false) (O5 (B4 7 rfl rfl) (B4 8 rfl rfl) (zkf rfl)) λ z=>zmt)) (λ q=>by cases q) λ z=>?_
 refine za3 (d:= .bool true) (Ev.open (U5 (G7 6 rfl) (B8 (O1 (B4 4 rfl rfl) D5 g0) (B8 (O1 (B4 4 rfl rfl) D5 g1) (B8 (B4 5 rfl rfl) (B8 (B4 3 rfl rfl) (B8 (B4 1 rfl rfl) D9))))) (ye0 O.run) (A6 (i:=23) rfl) (A7 (by decide:118<=130) (G5 hlv)) (λ z=>hh))) λ v s F r=>?_
 rw[r.bool_inv];exact hP s F.go
end
noncomputable def upN:Nat->Nat->Nat
 |0,_=>0
 |k+1,i=>upN k i+(if k % 5=i then 1 else 0)+(if(k+3) % 5=i then 1 else 0)
theorem yd7: ∀k∈G2 61,∀i∈G2 5,upN k i<=24:=by decide+kernel
noncomputable abbrev cB (i:Nat):Int:=([19,11,5,60,40008]:List Int).getD i 0
theorem zxc {cs:List Int}(hl:cs.length=5)(k:Nat)(v:Int){i:Nat}(hi:i<5):
 (zsk cs (k,v)).getD i 0=cs.getD i 0+(if k % 5=i then v.fmod 1000000 else 0)+(if(k+3) % 5=i then(v.fdiv 1000000).fmod 1000000 else 0):=by
 have h1:k % 5<5:=O9 _ (by decide)
 have h2:(k+3) % 5<5:=O9 _ (by decide)
 have h3:k % 5≠(k+3) % 5:=by omega
 unfold zsk;simp only[C8,zfo,zpq,hl,h1,h2,if_true,h3];by_cases a:k % 5=i
 ·subst a
  rw[if_neg (U8 h3),if_pos rfl,if_pos rfl,if_neg (U8 h3)];simp
 ·by_cases b:(k+3) % 5=i
  ·subst b
   rw[if_pos rfl,if_neg h3,if_pos rfl];simp
  ·rw[if_neg b,if_neg a,if_neg a,if_neg b];simp
theorem sel {p:Prop}[Decidable p]{v:Int}(h0:0<=v)(h1:v<1000000):0<=(if p then v else 0)/\(if p then v else 0)<=999999*((if p then 1 else 0:Nat):Int):=by
 split
 ·exact⟨h0,zap h1⟩
 ·exact⟨V2 0,V2 0⟩
theorem yah {sc:List Int}(k:Nat):k<=sc.length-> ∀i,i<5->cB i<=(zdk sc k).getD i 0/\(zdk sc k).getD i 0<=cB i+999999*upN k i:=by
 induction k with
 |zero=>
  intro _ i hi;rw[show zdk sc 0=[19,11,5,60,40008] from rfl];exact⟨V2 _,Int.le_of_eq (zab _).symm⟩
 |succ k ih=>
  intro hk i hi;have ih:=ih (K3 hk) i hi;have hkl:k<sc.length:=hk;rw[zmc (B3 hkl),zxc (zkn sc k) k _ hi];have e1:=sel (p:=k % 5=i) (zdm (sc[k]'hkl) (b:=1000000) (by decide)) (zgm _ (by decide))
  have e2:=sel (p:=(k+3) % 5=i) (zdm ((sc[k]'hkl).fdiv 1000000) (b:=1000000) (by decide)) (zgm _ (by decide))
  rw[show upN (k+1) i=upN k i+(if k % 5=i then 1 else 0)+(if(k+3) % 5=i then 1 else 0) from rfl,X3,X3,zra,zra,<-zbd,<-zbd]
  exact⟨E1 ih.1 (E1 (zga e1.1) (zga e2.1)),zk6 (zk6 ih.2 e1.2) e2.2⟩
theorem zut (sc:List Int): ∃c0 c1 c2:Int,∃c3 c4:Nat,ztr sc=[c0,c1,c2,(c3:Int),(c4:Int)]/\(19<=c0/\c0<=23999995)/\(11<=c1/\c1<=23999987)/\(5<=c2/\c2<=23999981)/\(60<=c3/\c3<=24000036)/\(40008<=c4/\c4<=24039984):=by
 have hl:=zkn sc (min 60 sc.length);have hb:=yah (sc:=sc) (min 60 sc.length) (Nat.min_le_right _ _);have hu:=λ i hi=>yd7 (min 60 sc.length) (I8.mpr (by omega)) i (I8.mpr hi)
 unfold ztr;generalize zdk sc (min 60 sc.length)=cs at hl hb;generalize min 60 sc.length=n at hb hu;have bd: ∀i,i<5->cB i<=cs.getD i 0/\cs.getD i 0<=cB i+23999976:=λ i hi=>⟨(hb i hi).1,E1 (hb i hi).2 (zbc (zpf (H1.mpr (hu i hi)) (by decide)) _)⟩
 obtain⟨c0,c1,c2,c3,c4,e⟩:=ygj (P:=λ l=> ∃c0 c1 c2 c3 c4,l=[c0,c1,c2,c3,c4]) (λ a b c d e=>⟨a,b,c,d,e,rfl⟩) cs hl;rw[e] at bd ⊢;have h3:60<=c3/\c3<=24000036:=bd 3 (by decide)
 have h4:40008<=c4/\c4<=24039984:=bd 4 (by decide)
 exact⟨c0,c1,c2,c3.toNat,c4.toNat,by rw[L8 (E1 (by decide) h3.1),L8 (E1 (by decide) h4.1)],bd 0 (by decide),bd 1 (by decide),bd 2 (by decide),⟨ybx h3.1,O4.mpr h3.2⟩,⟨ybx h4.1,O4.mpr h4.2⟩⟩
noncomputable def zg2:Bool->List Nat->Bool
 |b,[]=>b
 |true,_::r=>zg2 false r
 |false,c::r=>zg2 (c==92) r
theorem ztk (l:List Nat): ∀(i:Nat) (b:Bool) (r:List Nat),zg2 b l=false->zej i b (l++r)=zej i b l++zej (i+l.length) false r:=by
 induction l with
 |nil=>intro i b r h;obtain rfl:b=false:=h;rfl
 |cons c l ih=>
  intro i b r h;rw[show i+(c::l).length=i+1+l.length from zae i l.length 1]
  cases b with
  |true=>exact congrArg (_:: ·) (ih (i+1) false r h)
  |false=>
   have h:zg2 (c==92) l=false:=h;rw[N9,zk2,zk2];by_cases q:c=92
   ·rw[show(c==92)=true from decide_eq_true q] at h
    rw[if_pos q,if_pos q];exact ih (i+1) true r h
   ·rw[show(c==92)=false from decide_eq_false q] at h
    rw[if_neg q,if_neg q];exact congrArg (_:: ·) (ih (i+1) false r h)
theorem zvx:("\"":Str)=⟨#[34]⟩:=by decide+kernel
theorem ya8:("(":Str)=⟨#[40]⟩:=by decide+kernel
theorem ybq:(")":Str)=⟨#[41]⟩:=by decide+kernel
theorem one_eq {a b:Nat}:((⟨#[a]⟩:Str)=⟨#[b]⟩)↔a=b:=by
 constructor
 ·intro h;have:=congrArg (λ x:Str=>x.cps.toList) h;simpa using this
 ·rintro rfl;rfl
theorem zvk {a b c:Nat}: ¬((⟨#[a,b]⟩:Str)=⟨#[c]⟩):=λ h=>by
 have:=congrArg (λ x:Str=>x.cps.toList.length) h;simp at this
theorem zos (x:Str)(cs:List Nat): ∀(i:Nat) (b:Bool) (s:Sq3),34∉cs->(zej i b cs).foldl (zaj x) s=s:=by
 induction cs with
 |nil=>
  intro i b s _;cases b
  ·rfl
  ·exact(show zaj x s ((i:Int)-1,⟨#[92]⟩)=s from if_neg (show ¬((⟨#[92]⟩:Str)= "\"") by decide+kernel))
 |cons c r ih=>
  intro i b s h;have hr:34∉r:=λ q=>h (B1 _ q);have k: ∀y:Str,y≠ "\""->(((i:Int),y)::zej (i+1) false r).foldl (zaj x) s=s:=λ y hy=>by
   rw[zpr,show zaj x s ((i:Int),y)=s from if_neg hy];exact ih _ _ s hr
  cases b with
  |true=>exact k _ (by rw[zvx];exact zvk)
  |false=>
   rw[zk2];split
   ·exact ih _ _ s hr
   ·exact k _ (by rw[zvx];exact λ e=>h (one_eq.mp e▸A9))
noncomputable def cat (ps:List Str):List Nat:=(L9 "" ps).cps.toList
theorem ybn:("":Str)=⟨#[]⟩:=by decide+kernel
theorem zmd:cat []=[]:=rfl
theorem zjv (a:Str)(ps:List Str):cat (a::ps)=a.cps.toList++cat ps:=by
 unfold cat
 cases ps with
 |nil=>simp[L9,zfl]
 |cons b r=>
  rw[show L9 "" (a::b::r)=a++ ""++L9 "" (b::r) from rfl,zk3,zk3,ybn];simp
theorem zw9 (a b:List Str):cat (a++b)=cat a++cat b:=by
 induction a with
 |nil=>rfl
 |cons x r ih=>rw[N9,zjv,zjv,ih,J3]
theorem zju (ps:List Str)(a:Str):cat (ps++[a])=cat ps++a.cps.toList:=by
 rw[zw9,zjv,zmd,S0]
theorem ya4 {x:Str}{i j:Int}(h:0<=i/\i<=j/\j<=x.cps.toList.length):(T9 x (some i) (some j)).cps.toList=(x.cps.toList.drop i.toNat).take (j-i).toNat:=by
 have:T9 x (some i) (some j)=zld x (some i) (some j):=rfl;rw[this,StrLaws.sliceText_plain h]
theorem zvq {x:Str}{i:Int}(h:0<=i/\i<=x.cps.toList.length):(T9 x (some i) none).cps.toList=x.cps.toList.drop i.toNat:=by
 have:T9 x (some i) none=zld x (some i) none:=rfl;rw[this,StrLaws.sliceText_from h];show zx8 _ _=_;rw[S6];simp;obtain⟨k,rfl⟩:=K2 h.1;rw[zml];exact Nat.le_add_of_sub_le (D2 _)
section
variable{x y:Str}{P X S:List Nat}
structure Rel (P:List Nat)(i:Nat)(s s':Sq3):Prop where
 op:(s.op=none/\s'.op=none)\/ ∃o:Int,s.op=some o/\s'.op=some ((P.length:Int)+o)/\s.st<=o/\o<=i
 st:0<=s.st/\s.st<=i
 ps:(s.st=0/\s'.st=0/\s.ps=[]/\s'.ps=[])\/(0<s.st/\s'.st=(P.length:Int)+s.st/\cat s'.ps=P++cat s.ps)
theorem Rel.mono {i j:Nat}{s s':Sq3}(h:Rel P i s s')(hij:i<=j):Rel P j s s' where
 op:=h.op.imp id λ⟨o,h1,h2,h3,h4⟩=>⟨o,h1,h2,h3,E1 h4 (H1.mpr hij)⟩
 st:=⟨h.st.1,E1 h.st.2 (H1.mpr hij)⟩
 ps:=h.ps
theorem Rel.tok {i:Nat}{s s':Sq3}{t:Str}(hx:x.cps.toList=P++X++S)(hy:y.cps.toList=X)(hi:i<X.length)(h:Rel P i s s'):
 Rel P (i+1) (zaj y s ((i:Int),t)) (zaj x s' (((P.length+i:Nat):Int),t)):=by
 by_cases q:t= "\""
 ·subst q
  rcases h.op with⟨h1,h2⟩|⟨o,h1,h2,h3,h4⟩
  ·have e1:zaj y s ((i:Int),"\"")={s with op:=some (i:Int)}:=by unfold zaj;rw[if_pos rfl,h1]
   have e2:zaj x s' (((P.length+i:Nat):Int),"\"")={s' with op:=some ((P.length+i:Nat):Int)}:=by unfold zaj;rw[if_pos rfl,h2]
   rw[e1,e2];exact⟨.inr ⟨i,rfl,by push_cast;rfl,h.st.2,H1.mpr (L6 i)⟩,(h.mono (L6 i)).st,h.ps⟩
  ·have e1:zaj y s ((i:Int),"\"")={st:=(i:Int)+1,op:=none,ps:=if s.st≠o then s.ps++[T9 y (some s.st) (some o)] else s.ps}:=by unfold zaj;rw[if_pos rfl,h1]
   have e2:zaj x s' (((P.length+i:Nat):Int),"\"")={st:=((P.length+i:Nat):Int)+1,op:=none,ps:=if s'.st≠(P.length:Int)+o then s'.ps++[T9 x (some s'.st) (some ((P.length:Int)+o))] else s'.ps}:=by unfold zaj;rw[if_pos rfl,h2]
   rw[e1,e2];obtain⟨t1,t2⟩:=h.st;have ly:y.cps.toList.length=X.length:=by rw[hy]
   have lx:x.cps.toList.length=P.length+X.length+S.length:=by rw[hx];simp only[K1]
   have hiX:(i:Int)<=X.length:=H1.mpr (K3 hi);refine⟨.inl ⟨rfl,rfl⟩,⟨E9 (i+1),V2 _⟩,.inr ⟨X2.mpr (zjz i),by show((P.length+i:Nat):Int)+1=(P.length:Int)+((i:Int)+1);rw[X3,zbd],?_⟩⟩
   show cat (if s'.st≠(P.length:Int)+o then _ else _)=P++cat (if s.st≠o then _ else _);have hs1:cat (if s.st≠o then s.ps++[T9 y (some s.st) (some o)] else s.ps)=cat s.ps++(X.drop s.st.toNat).take (o-s.st).toNat:=by
    split
    ·rw[zju,ya4 ⟨t1,h3,by rw[ly];exact E1 h4 hiX⟩,hy]
    ·rename_i hne
     have:s.st=o:=by simpa using hne
     rw[this];simp
   have hs2:0<=s'.st->s'.st<=(P.length:Int)+o->cat (if s'.st≠(P.length:Int)+o then s'.ps++[T9 x (some s'.st) (some ((P.length:Int)+o))] else s'.ps)=cat s'.ps++((P++X++S).drop s'.st.toNat).take ((P.length:Int)+o-s'.st).toNat:=λ a b=>by
    split
    ·rw[zju,ya4 ⟨a,b,by rw[lx,W7,X3];exact zbc (E1 h4 (H1.mpr (A7 (K3 hi) (J9 ..)))) _⟩,hx]
    ·rename_i hne
     have:s'.st=(P.length:Int)+o:=by simpa using hne
     rw[this];simp
   obtain⟨o,rfl⟩:=K2 (E1 t1 h3);have hoX:=H1.mp (E1 h4 hiX);rw[hs1];rcases h.ps with⟨p1,p2,p3,p4⟩|⟨p1,p2,p3⟩
   ·rw[hs2 (by rw[p2];exact V2 0) (by rw[p2];exact E9 (P.length+o)),p1,p2,p3,p4,zmd]
    simp only[Int.toNat_zero,zia,I2,zxu];rw[show((P.length:Int)+(o:Int)).toNat=P.length+o from rfl,show((o:Int)).toNat=o from rfl,J3,List.take_append]
    rw[S6 (J9 ..),zh0,zef hoX]
   ·rw[hs2 (by rw[p2];exact zcx (E9 _) t1) (by rw[p2];exact zbc h3 _),p2,p3]
    obtain⟨t,ht⟩:=K2 t1;rw[ht] at h3 t2 ⊢;rw[show((P.length:Int)+(t:Int)).toNat=P.length+t from rfl,show((P.length:Int)+(o:Int)-((P.length:Int)+(t:Int))).toNat=o-t from(zml (P.length+o) (P.length+t)).trans (Nat.add_sub_add_left ..),show((t:Int)).toNat=t from rfl,zml]
    rw[J3 P X S,<-zag,zrm,zoa (H1.mp (E1 t2 hiX)),zef (by rw[zeh];exact zx5 hoX t),J3]
 ·have e1:zaj y s ((i:Int),t)=s:=by unfold zaj;rw[if_neg q]
  have e2:zaj x s' (((P.length+i:Nat):Int),t)=s':=by unfold zaj;rw[if_neg q]
  rw[e1,e2];exact h.mono (L6 i)
theorem Rel.fold (hx:x.cps.toList=P++X++S)(hy:y.cps.toList=X)(cs:List Nat): ∀(i:Nat) (b:Bool) (s s':Sq3),i+cs.length=X.length->zg2 b cs=false->Rel P i s s'->
 Rel P X.length ((zej i b cs).foldl (zaj y) s) ((zej (P.length+i) b cs).foldl (zaj x) s'):=by
 induction cs with
 |nil=>intro i b s s' hl he h;obtain rfl:b=false:=he;rw[<-hl];exact h
 |cons c r ih=>
  intro i b s s' hl he h;have hl:i+1+r.length=X.length:=(zae i 1 r.length).trans hl;have hi:i<X.length:=C9 (S5 i) (hl▸J9 _ _)
  cases b with
  |true=>exact ih (i+1) false _ _ hl he (h.tok hx hy hi)
  |false=>
   have he:zg2 (c==92) r=false:=he;rw[zk2,zk2];by_cases q:c=92
   ·rw[show(c==92)=true from decide_eq_true q] at he
    rw[if_pos q,if_pos q];exact ih (i+1) true _ _ hl he (h.mono (L6 i))
   ·rw[show(c==92)=false from decide_eq_false q] at he
    rw[if_neg q,if_neg q];exact ih (i+1) false _ _ hl he (h.tok hx hy hi)
theorem zp0 (x:Str):(zfd x).cps.toList=cat (zs6 x ((zgf x).foldl (zaj x) ⟨0,none,[]⟩)):=by
 unfold zfd;split
 ·rename_i h
  rw[zvx,empty_one] at h;have h34:34∉x.cps.toList:=by simpa using h
  rw[show(zgf x)=zej 0 false x.cps.toList from rfl,zos x _ _ _ _ h34]
  unfold zs6;show _=cat (if(0:Int)<x.length then[]++[T9 x (some 0) none] else[]);split
  ·rw[zju,zvq ⟨V2 0,by omega⟩,zmd];simp
  ·rename_i hn
   have:x.cps.toList.length=0:=by
    have e:x.length=x.cps.toList.length:=by simp[zg6]
    omega
   rw[W5 this,zmd]
 ·rfl
theorem zwy {l:List Nat}(h:92∉l):zg2 false l=false:=by
 induction l with
 |nil=>rfl
 |cons c r ih=>
  show zg2 (c==92) r=false;rw[show(c==92)=false from decide_eq_false λ q=>h (by rw[q];exact A9)]
  exact ih λ q=>h (B1 _ q)
theorem zvo (hx:x.cps.toList=P++X++S)(hy:y.cps.toList=X)(hP:34∉P/\92∉P)(hS:34∉S/\92∉S)(hX:zg2 false X=false):
 (zfd x).cps.toList=P++(zfd y).cps.toList++S:=by
 rw[zp0,zp0];have e1:zgf x=zej 0 false P++(zej P.length false X++zej (P.length+X.length) false S):=by
  show zej 0 false x.cps.toList=_;rw[hx,J3,ztk P 0 false _ (zwy hP.2),ztk X _ false _ hX];simp
 have e2:zgf y=zej 0 false X:=by show zej 0 false y.cps.toList=_;rw[hy]
 rw[e1,e2,zb3,zb3,zos x P _ _ _ hP.1,zos x S _ _ _ hS.1];have R:=Rel.fold (P:=P) hx hy X 0 false ⟨0,none,[]⟩ ⟨0,none,[]⟩ (by simp) hX ⟨.inl ⟨rfl,rfl⟩,⟨V2 0,by simp⟩,.inl ⟨rfl,rfl,rfl,rfl⟩⟩
 rw[show P.length+0=P.length from rfl] at R
 generalize (zej 0 false X).foldl (zaj y) ⟨0,none,[]⟩=s at R;generalize (zej P.length false X).foldl (zaj x) ⟨0,none,[]⟩=s' at R;have lx:x.length=P.length+X.length+S.length:=by
  have:x.length=x.cps.toList.length:=by simp[zg6]
  rw[this,hx];simp only[K1]
 have ly:y.length=X.length:=by
  have:y.length=y.cps.toList.length:=by simp[zg6]
  rw[this,hy]
 have lx':x.cps.toList.length=x.length:=by simp[zg6]
 have ly':y.cps.toList.length=y.length:=by simp[zg6]
 obtain⟨t1,t2⟩:=R.st;have h1:cat (zs6 y s)=cat s.ps++X.drop s.st.toNat:=by
  unfold zs6;split
  ·rw[zju,zvq ⟨t1,by rw[hy];exact t2⟩,hy]
  ·next h=>rw[zu0 ((Int.le_toNat t1).mpr (by rw[<-ly];exact R7.mp h))];simp
 have h2:0<=s'.st->s'.st<=x.length->cat (zs6 x s')=cat s'.ps++(P++X++S).drop s'.st.toNat:=λ a b=>by
  unfold zs6;split
  ·rw[zju,zvq ⟨a,by rw[lx'];exact b⟩,hx]
  ·next h=>rw[zu0 (by simp only[K1];exact(Int.le_toNat a).mpr (by rw[<-lx];exact R7.mp h))];simp
 rw[h1];rcases R.ps with⟨p1,p2,p3,p4⟩|⟨p1,p2,p3⟩
 ·rw[h2 (by rw[p2];exact V2 0) (by rw[p2];exact E9 _),p1,p2,p3,p4];simp[zmd]
 ·rw[h2 (by rw[p2];exact zcx (E9 _) t1) (by rw[p2,lx,W7,X3];exact zbc (E1 t2 (H1.mpr (J9 ..))) _),p2,p3]
  obtain⟨t,ht⟩:=K2 t1;rw[ht] at t2 ⊢;rw[show((P.length:Int)+(t:Int)).toNat=P.length+t from rfl,show((t:Int)).toNat=t from rfl,J3 P X S,<-zag,zrm,zoa (H1.mp t2)]
  simp only[J3]
end
noncomputable def zpl:Int->Bool->List Nat->Bool
 |o,_,[]=>o==0
 |o,true,_::r=>zpl o false r
 |o,false,c::r=>if c=92 then zpl o true r else if c=40 then zpl (o+1) false r else if c=41 then(if o-1<0 then false else zpl (o-1) false r) else zpl o false r
theorem yfr (o:Int)(c:Nat)(r:List Nat):zpl o true (c::r)=zpl o false r:=rfl
theorem ztq (o:Int)(c:Nat)(r:List Nat):zpl o false (c::r)=if c=92 then zpl o true r else if c=40 then zpl (o+1) false r else if c=41 then(if o-1<0 then false else zpl (o-1) false r) else zpl o false r:=rfl
theorem ydo (cs:List Nat): ∀(o:Int) (i:Nat) (b:Bool),zht o (zej i b cs)=zpl o b cs:=by
 induction cs with
 |nil=>
  intro o i b;cases b
  ·rfl
  ·rw[show zej i true []=[((i:Int)-1,⟨#[92]⟩)] from rfl,zir,if_neg (show ¬((⟨#[92]⟩:Str)= "(") by decide+kernel),if_neg (show ¬((⟨#[92]⟩:Str)= ")") by decide+kernel)];rfl
 |cons c r ih=>
  intro o i b
  cases b with
  |true=>
   rw[yfm,yfr,zir,if_neg (by rw[ya8];exact zvk),if_neg (by rw[ybq];exact zvk)]
   exact ih o _ _
  |false=>
   rw[zk2,ztq];by_cases q:c=92
   ·rw[if_pos q,if_pos q];exact ih o _ _
   ·rw[if_neg q,if_neg q,zir]
    simp only[ya8,ybq,one_eq,ih]
theorem yg1 (x:Str):zrd x=zpl 0 false (zfd x).cps.toList:=ydo _ _ _ _
noncomputable def nE:Bool->List Nat->Option Bool
 |b,[]=>some b
 |true,_::r=>nE false r
 |false,c::r=>if c=92 then nE true r else if c=40\/c=41 then none else nE false r
theorem zw5 (cs:List Nat): ∀(o:Int) (b b':Bool) (r:List Nat),nE b cs=some b'->zpl o b (cs++r)=zpl o b' r:=by
 induction cs with
 |nil=>intro o b b' r h;rw[<-Q8 h];rfl
 |cons c l ih=>
  intro o b b' r h
  cases b with
  |true=>exact ih o false b' r h
  |false=>
   rw[N9,ztq];have h:(if c=92 then nE true l else if c=40\/c=41 then none else nE false l)=some b':=h;by_cases q:c=92
   ·rw[if_pos q] at h ⊢
    exact ih o true b' r h
   ·rw[if_neg q] at h ⊢
    by_cases q1:c=40\/c=41
    ·rw[if_pos q1] at h;cases h
    ·rw[if_neg q1] at h
     rw[if_neg λ e=>q1 (.inl e),if_neg λ e=>q1 (.inr e)];exact ih o false b' r h
noncomputable def zlp:Int->List Nat->Bool
 |o,[]=>o==0
 |o,c::r=>if c=40 then zlp (o+1) r else if c=41 then(if o-1<0 then false else zlp (o-1) r) else zlp o r
theorem zjs (o:Int)(c:Nat)(r:List Nat):zlp o (c::r)=if c=40 then zlp (o+1) r else if c=41 then(if o-1<0 then false else zlp (o-1) r) else zlp o r:=rfl
noncomputable def Brk (l:List Nat):Prop:= ∀c∈l,c=40\/c=41
theorem Brk.no {l:List Nat}(h:Brk l):34∉l/\92∉l:=⟨λ q=>by have:=h _ q;omega,λ q=>by have:=h _ q;omega⟩
theorem Brk.app {a b:List Nat}(h1:Brk a)(h2:Brk b):Brk (a++b):=λ c hc=>(G1.mp hc).elim (h1 c) (h2 c)
theorem Brk.n92 {c:Nat}{l:List Nat}(h:Brk (c::l)):c≠92:=λ e=>(h c A9).elim (λ q=>absurd (e.symm.trans q) (by decide)) λ q=>absurd (e.symm.trans q) (by decide)
theorem yag (S:List Nat): ∀(o:Int),Brk S->zpl o false S=zlp o S:=by
 induction S with
 |nil=>exact λ o z=>rfl
 |cons c r ih=>
  intro o h;have ih:=λ o'=>ih o' λ c hc=>h c (B1 _ hc);rw[ztq,zjs,if_neg h.n92];simp only[ih]
theorem yaf {Y S:List Nat}(hS:Brk S)(hY:nE false Y=some false)(P:List Nat): ∀(o:Int),Brk P->zpl o false (P++Y++S)=zlp o (P++S):=by
 induction P with
 |nil=>intro o _;exact(zw5 Y o false false S hY).trans (yag S o hS)
 |cons c r ih=>
  intro o h;have ih:=λ o'=>ih o' λ c hc=>h c (B1 _ hc);rw[N9,N9,N9,ztq,zjs,if_neg h.n92];simp only[ih]
structure Mute (y:Str):Prop where
 e:zg2 false y.cps.toList=false
 n:nE false (zfd y).cps.toList=some false
theorem ydn {x y:Str}{P S:List Nat}(hx:x.cps.toList=P++y.cps.toList++S)(hP:Brk P)(hS:Brk S)(m:Mute y):zrd x=zlp 0 (P++S):=by
 rw[yg1,zvo hx rfl hP.no hS.no m.e];exact yaf hS m.n P 0 hP
theorem zzd:Mute "":=⟨by decide+kernel,by decide+kernel⟩
theorem zqt (n:Nat): ∀(o:Int) (r:List Nat),zlp o (C1 n 40++r)=zlp (o+n) r:=by
 induction n with
 |zero=>intro o r;rw[show o+((0:Nat):Int)=o from zab o];rfl
 |succ n ih=>intro o r;rw[Q1,N9,zjs,if_pos rfl,ih,zbd,za6 1];rfl
theorem zn2 (n:Nat): ∀(o:Int) (r:List Nat),0<=o->zlp o (C1 n 41++r)=if o<n then false else zlp (o-n) r:=by
 induction n with
 |zero=>intro o r h;show zlp o r=if o<0 then false else zlp (o-0) r;rw[if_neg (R7.mpr h),zxu]
 |succ n ih=>
  intro o r h;rw[Q1,N9,zjs,if_neg (by decide),if_pos rfl]
  split
  ·next q=>rw[if_pos (show o<((n+1:Nat):Int) from zde (zrn q) (W9 (E9 n) 1))]
  ·next q=>
   rw[ih (o-1) r (R7.mp q)];split
   ·next p=>rw[if_pos (show o<((n+1:Nat):Int) from zrn p)]
   ·next p=>rw[if_neg (show ¬o<((n+1:Nat):Int) from λ h=>p (Int.sub_right_lt_of_lt_add h)),yaw,za6 1];rfl
noncomputable def zjd (g:Int):List Nat:=C1 g.toNat 41++C1 (-g).toNat 40
theorem zvz (g:Int):Brk (zjd g):=λ c hc=>by
 rcases G1.mp hc with h|h
 ·exact .inr (X7 h)
 ·exact .inl (X7 h)
theorem zus (g o:Int)(r:List Nat)(h:0<=o):zlp o (zjd g++r)=if o<g then false else zlp (o-g) r:=by
 unfold zjd;rw[J3];rcases zlf g 0 with q|q
 ·rw[zei q,zx9,I2,zqt,if_neg (R7.mpr (E1 q h)),L8 (zt3 q)];rfl
 ·rw[zei (zhb q),zx9,I2,zn2 _ _ _ h,L8 q]
noncomputable def ze0 (gs:List Int):List Nat->List Nat
 |[]=>[]
 |k::r=>zjd (gs.getD k 0)++ze0 gs r
theorem zvc (gs:List Int)(a b:List Nat):ze0 gs (a++b)=ze0 gs a++ze0 gs b:=by
 induction a with
 |nil=>rfl
 |cons k r ih=>
  show zjd (gs.getD k 0)++ze0 gs (r++b)=zjd (gs.getD k 0)++ze0 gs r++ze0 gs b;rw[ih,J3]
theorem zsv (gs:List Int)(w:List Nat):Brk (ze0 gs w):=List.rec (λ c h=>nomatch h) (λ k r ih=>(zvz _).app ih) w
theorem zw6 (gs:List Int)(w:List Nat): ∀(o:Int) (r:List Nat),0<=o->zlp o (ze0 gs w++r)=if o<zc3 gs w then false else zlp (o-U9 gs w) r:=by
 induction w with
 |nil=>intro o r h;show zlp o r=if o<0 then false else zlp (o-0) r;rw[if_neg (R7.mpr h),zxu]
 |cons k w ih=>
  intro o r h;show zlp o (zjd (gs.getD k 0)++ze0 gs w++r)=if o<((max 0 (gs.getD k 0+(zc3 gs w:Int))).toNat:Int) then false else _;rw[J3,zus _ _ _ h,zfx];rw[L8 (Int.le_max_left ..)];split
  ·next q=>rw[if_pos (zde q (E1 (zga (E9 _)) (zpg ..)))]
  ·next q=>
   rw[ih _ r (Y2 (R7.mp q))];split
   ·next p=>rw[if_pos (zde (Int.lt_add_of_sub_left_lt p) (zpg ..))]
   ·next p=>rw[if_neg (R7.mpr (zt4.mpr ⟨h,Int.add_le_of_le_sub_left (R7.mp p)⟩)),yaw]
theorem zxd {n c:Nat}(h:c=40\/c=41):Brk (C1 n c):=λ x hx=>by rw[X7 hx];exact h
theorem zym (gs:List Int)(w:List Nat)(L:Int)(hL:0<=L)(M:Int)(hM:M=L-U9 gs w):zlp 0 (C1 L.toNat 40++ze0 gs w++C1 M.toNat 41)=if L<zc3 gs w then false else true:=by
 rw[J3,zqt,U0,L8 hL,zw6 gs w L _ hL];split
 ·rfl
 ·next q=>
  have h:=Y2 (E1 (zsy gs w) (R7.mp q));rw[<-S0 (C1 M.toNat 41),zn2 _ _ _ h,hM,L8 h,if_neg (Int.lt_irrefl _),Int.sub_self];rfl
structure PsL (ps:List Str)(gs:List Int):Prop where
 h: ∀k,k<gs.length->(ps.getD k "").cps.toList=zjd (gs.getD k 0)
theorem zo5 {ps:List Str}{gs:List Int}(h:PsL ps gs)(w:List Nat):(∀k∈w,k<gs.length)->cat (w.map λ k=>ps.getD k "")=ze0 gs w:=by
 induction w with
 |nil=>exact λ z=>rfl
 |cons k r ih=>
  intro hk;rw[E5,zjv,h.h k (hk k A9),ih λ j hj=>hk j (B1 _ hj)];rfl
theorem zyr {ps:List Str}{gs:List Int}(h:PsL ps gs){w:List Nat}(hw: ∀k∈w,k<gs.length)(a:Nat)(x:Str):
 ∃w1 w2 y,w1++w2=w/\(y=x\/y= "")/\(zpx ps w a x).cps.toList=ze0 gs w1++y.cps.toList++ze0 gs w2:=by
 show ∃w1 w2 y,_/\_/\cat (zgd ps w a x)=_;unfold zgd;split
 ·refine⟨w.take a,w.drop a,x,zi3 a w,.inl rfl,?_⟩
  rw[<-zt1,<-List.map_drop,zw9,zjv,zo5 h _ λ k hk=>hw k (zes hk),zo5 h _ λ k hk=>hw k (zkc hk),J3]
 ·refine⟨w,[],"",S0 w,.inr rfl,?_⟩
  rw[zo5 h w hw,ybn];exact(show ze0 gs w=ze0 gs w++[]++[] by rw[S0,S0])
theorem zp4 (c:Nat)(n:Int):(zd5 c n).cps.toList=C1 n.toNat c:=by unfold zd5;simp
theorem ya5 {ps:List Str}{gs:List Int}(h:PsL ps gs){w:List Nat}(hw: ∀k∈w,k<gs.length)(a:Nat){x:Str}(m:Mute x)(L:Int)(hL:0<=L):
 zrd (zd5 40 L++zpx ps w a x++zd5 41 (L-U9 gs w))=if L<zc3 gs w then false else true:=by
 obtain⟨w1,w2,y,e1,e2,e3⟩:=zyr h hw a x;have my:Mute y:=by
  rcases e2 with rfl|rfl
  ·exact m
  ·exact zzd
 rw[<-zym gs w L hL _ rfl];rw[ydn (y:=y) (P:=C1 L.toNat 40++ze0 gs w1) (S:=ze0 gs w2++C1 (L-U9 gs w).toNat 41) ?_ ((zxd (.inl rfl)).app (zsv _ _)) ((zsv _ _).app (zxd (.inr rfl))) my]
 ·rw[zk3,zk3,zch,zch,zp4,zp4,e3];simp only[J3]
 ·have e4:ze0 gs w=ze0 gs w1++ze0 gs w2:=by rw[<-e1,zvc]
  rw[e4];simp only[J3]
theorem yck {ps:List Str}{gs:List Int}(h:PsL ps gs){x:Str}(m:Mute x)(sh:Int)(j:Nat){w:List Nat}(hw: ∀k∈w,k<gs.length):RdOk ps gs x sh j w where
 yes:=by rw[ya5 h hw _ m _ (E9 _),if_neg (Int.lt_irrefl _)]
 no:=λ⟨h1,_⟩=>by rw[ya5 h hw _ m _ (zap (V8 (Int.le_max_left ..) h1)),if_pos (zq6 _ (by decide))]
theorem yb8: ∀h∈hidL,∀a∈ahL,(zg2 false (zee h a).cps.toList=false/\nE false (zfd (zee h a)).cps.toList=some false)/\(zee h a).length<=60:=by decide+kernel
theorem yd4: ∀h∈hidL,∀a∈ahL,Mute (zee h a)/\(zee h a).length<=60:=λ h hh a ha=>let ⟨⟨h1,h2⟩,h3⟩:=yb8 h hh a ha;⟨⟨h1,h2⟩,h3⟩
theorem yb7: ∀h∈hidL,∀a∈ahL,zrd (("(":Str)++zee h a++ ")")=true/\zrd (")"++zee h a++ "(")=false/\zrd (("(":Str)++zee h a++ ")"++ "\")")=false/\zrd (zee h a++ "(\"\"")=false:=by decide+kernel
theorem ygl (c:Nat): ∃h∈hidL,∃a∈ahL,xV c=zee h a:=by
 unfold xV;have h1:c % 6<hidL.length:=O9 _ (by decide)
 have h2:c / 6 % 4<ahL.length:=O9 _ (by decide)
 rw[B3 h1,B3 h2];exact⟨_,Q6 h1,_,Q6 h2,rfl⟩
noncomputable def gnL:List Int:=[-2,-1,0,1,2]
theorem zs7: ∀g∈gnL,(zbn ")" g++zbn "(" (-g)).cps.toList=zjd g/\(zbn ")" g++zbn "(" (-g))∈(["((","(","",")","))"]:List Str)/\(zbn ")" g++zbn "(" (-g)).length<=10:=by decide+kernel
theorem ybh {g:Int}(h: -2<=g/\g<=2):g∈gnL:=by
 have:g= -2\/g= -1\/g=0\/g=1\/g=2:=by omega
 rcases this with rfl|rfl|rfl|rfl|rfl<;>decide
theorem yeo {sc:List Int}(hs:sc.length<=63): ∃c0 c1 c2:Int,∃c3 c4:Nat,∃gs ps ws Wd f,LawOk sc c0 c1 c2 c3 c4 gs ps ws Wd f:=by
 obtain⟨c0,c1,c2,c3,c4,hc,b0,b1,b2,b3,b4⟩:=zut sc
 let N:Nat:=if 3<sc.length then 3 else 2
 have hN:N=2\/N=3:=by show(if _ then _ else _)=_\/(if _ then _ else _)=_;split<;>simp
 have hN3:N<=3:=by rcases hN with e|e<;>rw[e]<;>decide
 let cl:List Int:=[c0,c1,c2].take N
 have hcl:cl.length=N:=by show([c0,c1,c2].take N).length=N;rw[U1];exact zfn hN3
 have hmem: ∀c∈cl,5<=c/\c<=23999995:=λ c hc=>by
  have:=zes hc;simp only[B9,D6,or_false] at this;rcases this with e|e|e<;>rw[e]
  ·exact⟨E1 (by decide) b0.1,b0.2⟩
  ·exact⟨E1 (by decide) b1.1,E1 b1.2 (by decide)⟩
  ·exact⟨b2.1,E1 b2.2 (by decide)⟩
 let gs:List Int:=cl.map λ c=>c.fmod 5-2
 let ps:List Str:=gs.map λ g=>zbn ")" g++zbn "(" (-g)
 let ws:List Nat:=cl.map λ c=>(c.fdiv 5).toNat
 have hgl:gs.length=N:=by show(cl.map _).length=N;rw[B5,hcl]
 have hpl:ps.length=gs.length:=B5 ..;have hwl:ws.length=gs.length:=by show(cl.map _).length=(cl.map _).length;rw[B5,B5]
 have hgb: ∀g∈gs,-2<=g/\g<=2:=λ g hg=>by
  obtain⟨c,_,rfl⟩:=C5.mp hg;have h1:=zdm c (b:=5) (by decide)
  have h2:=zgm c (b:=5) (by decide)
  exact⟨zey h1 2,zey (zap h2) 2⟩
 have fd5: ∀c:Int,5<=c->c<=23999995->1<=c.fdiv 5/\c.fdiv 5<=4799999:=λ c h1 h2=>by
  rw[V6 c (by decide)];exact⟨Int.le_ediv_of_mul_le (by decide) h1,Int.ediv_le_of_le_mul (by decide) h2⟩
 have hws: ∀w∈ws,1<=w/\w<=4799999:=λ w hw=>by
  obtain⟨c,hc,rfl⟩:=C5.mp hw;have h1:=hmem c hc;have:=fd5 c h1.1 h1.2;exact⟨zoc.mpr (zde (by decide) this.1),O4.mpr this.2⟩
 have hwsE:cl.map (λ c=>c.fdiv 5)=ws.map λ w:Nat=>(w:Int):=by
  show _=(cl.map λ c=>(c.fdiv 5).toNat).map _;rw[E6];refine H6 λ c hc=>?_;have h1:=hmem c hc;have:=fd5 c h1.1 h1.2;exact(L8 (E1 (by decide) this.1)).symm
 have hsum: ∀l:List Nat,(∀w∈l,1<=w/\w<=4799999)->l.length<=l.sum/\l.sum<=4799999*l.length:=by
  intro l
  induction l with
  |nil=>intro _;simp
  |cons a r ih=>
   intro h;have h1:=h a A9;have h2:=ih λ w hw=>h w (B1 _ hw);simp only[S7,H7];rw[Q9 a,R6];exact⟨I5 h2.1 h1.1,I5 h2.2 h1.2⟩
 have hS:=hsum ws hws;have hm2:2<=gs.length:=by rw[hgl];rcases hN with e|e<;>rw[e]<;>decide
 have hm3:gs.length<=3:=A7 (Q0 hgl) hN3;have hwp:0<ws.sum:=C9 (C9 (by decide) hm2) (A7 (Q0 hwl.symm) hS.1)
 have hwb:ws.sum<=14400000:=A7 hS.2 (A7 (G6 _ (A7 (Q0 hwl) hm3)) (by decide))
 have hpm: ∀p∈ps,p∈(["((","(","",")","))"]:List Str)/\p.length<=10:=λ p hp=>by
  obtain⟨g,hg,rfl⟩:=C5.mp hp;exact(zs7 g (ybh (hgb g hg))).2
 have hPL:PsL ps gs:=⟨λ k hk=>by
  have e1:ps.getD k ""=zbn ")" gs[k]++zbn "(" (-gs[k]):=by
   rw[show ps=gs.map λ g=>zbn ")" g++zbn "(" (-g) from rfl,C8,B7,B3 hk];rfl
  have e2:gs.getD k 0=gs[k]:=by rw[C8,B3 hk];rfl
  rw[e1,e2];exact(zs7 _ (ybh (hgb _ (Q6 hk)))).1⟩
 obtain⟨h,hh,a,ha,hx⟩:=ygl c3;have hv:=yd4 h hh a ha;have hp:=yb7 h hh a ha
 let e:Int:=([1,5,90]:List Int).getD (((c4:Nat):Int).fmod 3).toNat 0
 have he:1<=e:=by
  have h1:=zdm (c4:Int) (b:=3) (by decide)
  have h2:=zgm (c4:Int) (b:=3) (by decide)
  have:=o3 ((zxt h1).mpr h2);show 1<=([1,5,90]:List Int).getD (((c4:Nat):Int).fmod 3).toNat 0;rcases this with q|q|q<;>(rw[q];decide)
 let Wd:Nat:=B6 ((ws.sum:Int)^3)+e.toNat
 have hsb:ws.sum^3<2^Wd:=by
  have h1:=(N8 (x:=(ws.sum:Int)^3) (m:=B6 ((ws.sum:Int)^3))).mp (D2 _);rw[<-zq9,K8] at h1;refine C9 h1 (J1 (by decide) ?_)
  show _<=B6 ((ws.sum:Int)^3)+e.toNat;rw[zq9];exact J9 ..
 have hWd:0<Wd:=C9 (zoc.mpr (zde (by decide) he)) (J6 ..)
 obtain⟨f,f1,f2,f3⟩:=zul (Wd:=Wd) hgb hwl hwp;refine⟨c0,c1,c2,c3,c4,gs,ps,ws,Wd,f,?_⟩;refine{cs:=hc,sz:=by omega,c4b:=⟨C9 (by decide) b4.1,A7 b4.2 (by decide)⟩,c3b:=by omega,gsE:=rfl,psE:=rfl,wsE:=hwsE,ok:=⟨by rw[hpl,hgl];exact hN,by rw[B5];exact hwl.trans hpl.symm,λ p hp=>(hpm p hp).1,λ w hw=>?_⟩,x:=by rw[hx];exact hv.2,pre:=?_,run:=?_}
 ·obtain⟨k,hk,rfl⟩:=C5.mp hw
  have:=hws k hk;exact⟨E9 k,V8 (H1.mpr this.2) (by decide)⟩
 ·rw[hx]
  simp only[E5,zcm,zr1,hp.1,hp.2.1,hp.2.2.1,hp.2.2.2,if_true,V7,if_false]
 ·exact{
   m2:=hm2
   m3:=hm3
   pl:=hpl
   wl:=hwl
   pz:=λ p hp=>(hpm p hp).2
   sz:=by rw[hx];exact hv.2
   gb:=hgb
   wb:=hwb
   wp:=hwp
   cl:=rfl
   e3:=rfl
   e4:=rfl
   cb:=by omega
   wd:=by show _+e=((B6 ((ws.sum:Int)^3)+e.toNat:Nat):Int);rw[X3,L8 (E1 (by decide) he)]
   fv:=f1
   fb:=f3
   fp:=f2
   sb:=hsb
   read:=λ n h1 h3 j w hj=>yck hPL (by rw[hx];exact hv.1) _ j (zcr (A6 hj)).2
   sp:=yec hgb hwl f1 hwp hsb hWd}
set_option maxHeartbeats 4000000
theorem zg1 {α β:Type}{f g:α->β}{l:List α}(h:l.map f=l.map g): ∀p∈l,f p=g p:=List.map_inj_left.mp h
theorem zv1 {K:Frag}{h:P9}{N:Addr}{mg:Str->Option Value}{n:Str}{v:Value}(X:K.In h)(G:h.Ns N mg)(e:nsIn K N n=some (some v)):mg n=some v:=by
 obtain⟨o,es,ep,ho,hd,_,hf⟩:=G
 delta nsIn at e
 cases q:K.lookup N with
 |none=>rw[q] at e;cases e
 |some o'=>
  obtain rfl:o=o':=Q8 (ho.symm.trans (X _ _ q));obtain⟨c,d,dt,sl⟩:=o;obtain rfl:dt=_:=hd;rw[q] at e
  cases he:es.toList.find? (λ x=>x.key.isStr n) with
  |some en=>
   have e':(match es.toList.find? (λ x=>x.key.isStr n) with|some e=>some (some e.val)|none=>if es.toList.any (λ x=>x.refKey) then none else some none)=some (some v):=e
   rw[he] at e';rw[<-hf,<-Q8 (Q8 e')];unfold nsFind findBy;rw[<-Array.find?_toList,he];rfl
  |none=>
   have e':(match es.toList.find? (λ x=>x.key.isStr n) with|some e=>some (some e.val)|none=>if es.toList.any (λ x=>x.refKey) then none else some none)=some (some v):=e
   rw[he] at e';have e2:(if es.toList.any (λ x=>x.refKey)=true then none else some none)=some (some v):=e';split at e2<;>cases e2
theorem ybb:(∀p∈G0.ctab,p.1≠82/\p.1≠89)/\(∀p∈G0.otab,p.1≠82/\p.1≠89):=by decide+kernel
structure SeenP (K:Frag):Prop where
 g: ∀p∈(("law":Str),N0 310)::G0.gtab,nsIn K 3 p.1=some (some p.2)
 b: ∀x∈G0.bnames,nsIn K 3 x=some none
 m: ∀p∈mNs,nsIn K 268 p.1=some (some p.2)
 n: ∀x∈nNs,nsIn K 268 x=some none
 c1:codeHdIn K 86 82=true
 c2:codeHdIn K 93 89=true
 o:nsOkIn K 268=true
 c: ∀p∈G0.ctab,codeIn K (.ref p.1) p.2=true
theorem zkg {K:Frag}(e:ych K=yci):SeenP K:=by
 have e1:=congrArg (λ x=>x.1) e;have e2:=congrArg (λ x=>x.2.1) e;have e3:=congrArg (λ x=>x.2.2) e;have a1:=List.append_inj e1 (by simp)
 have a2:=List.append_inj e2 (by simp)
 have b1:=zj3 e3;have b2:=zj3 b1.2;have b3:=zj3 b2.2;exact⟨zg1 a1.1,zg1 a1.2,zg1 a2.1,zg1 a2.2,b1.1,b2.1,b3.1,zg1 b3.2⟩
theorem zkh {p:Addr×Obj}(h:p∈(G0.ftab.map λ p=>(p.1,({cls:= .type "function",data:= .func p.2}:Obj)))\/p∈G0.otab\/p∈[(269,zw3),(82,zx2 #[]),(89,zx2 #[])]):p∈hdObs:=by
 unfold hdObs;rw[G1,G1];exact h
theorem yet {w:E3}{h:P9}{mg mb:Str->Option Value}(Y:yP w h)(g:h.Ns mainGlobals mg)(b:h.Ns zqu mb)(nl:h.NoLimit)(nd: ∃mc,h.Ns cStatics mc/\mc "sys.int_max_str_digits"=none)
 (bi: ∀x:Str,x≠ "__name__"->mb x=bootBuiltins x)
 (bmn: ∃bm ob,mg "__builtins__"=some (.ref bm)/\bm≠zqu/\h.get? bm=some ob/\ob.cls= .type "module"/\ob.dict=some zqu/\ob.data= .plain):Gnd0 G0 h:=by
 obtain⟨⟨K,X,e⟩,ob⟩:=Y;have S:=zkg e;have gm: ∀p∈G0.gtab,mg p.1=some p.2:=λ p hp=>zv1 X g (S.g p (B1 _ hp));exact{
  xt:=by
   intro p hp;simp only[xtr,B9,D6,or_false] at hp;rcases hp with rfl|rfl|rfl|rfl|rfl|rfl|rfl
   ·exact .inr ⟨A6 (i:=8) rfl,A6 (i:=8) rfl⟩
   ·exact .inr ⟨A6 (i:=7) rfl,A6 (i:=7) rfl⟩
   ·exact .inr ⟨A6 (i:=11) rfl,A6 (i:=11) rfl⟩
   ·exact .inl (A6 (i:=24) rfl)
   ·exact .inr ⟨A6 (i:=9) rfl,A6 (i:=9) rfl⟩
   ·exact .inr ⟨A6 (i:=10) rfl,A6 (i:=10) rfl⟩
   ·exact .inr ⟨A6 (i:=1) rfl,A6 (i:=1) rfl⟩
  nl:=nl
  nd:=nd
  mg:=⟨mg,g,gm,λ x hx=>ns_none_of X g (S.b x hx)⟩
  mb:=⟨mb,b,λ p hp=>by
   have hne: ∀p∈G0.btab,p.1≠ "__name__":=by decide+kernel
   rw[bi p.1 (hne p hp)];exact zg1 (l:=G0.btab) (f:=λ p=>bootBuiltins p.1) (g:=λ p=>some p.2) (by kernel_rfl) p hp⟩
  fn:=λ p hp=>ob _ (zkh (.inl (I4 (f:=λ p:Addr×K9=>(p.1,({cls:= .type "function",data:= .func p.2}:Obj))) hp)))
  cr:=λ p hp=>⟨codeRec_of X (S.c p hp),ybb.1 p hp⟩
  ob:=λ p hp=>by
   have h1:=ob p (zkh (.inr (.inl hp)));have h2:=ybb.2 p hp;have h3:G0.otab.map (λ p=>p.2.cls== .type "list")=G0.otab.map λ z=>false:=by kernel_rfl
   have h4:=zg1 h3 p hp;exact⟨h1,h2.1,h2.2,λ e=>by rw[e] at h4;simp at h4⟩
  bm:=λ hm=>by
   obtain⟨bm,ob,h1,_,h2,h3,h4,h5⟩:=bmn;have h6:=gm _ hm;rw[h6] at h1;cases h1;exact⟨ob,h2,h3,h4,h5⟩
  cl:=by
   intro p hp;have hp:p∈[((269:Addr),(268:Addr),mNs,nNs)]:=hp;rw[B2] at hp;subst hp;have nsO:h.Ns 268 (h.nsMap 268):= .of_isNs (isNs_of_in X S.o);exact⟨h.nsMap 268,⟨⟨_,_,_,_,_,_,_,_,_,_,_,_,ob (269,zw3) (zkh (.inr (.inr A9)))⟩,nsO⟩,λ q hq=>zv1 X nsO (S.m q hq),λ x hx=>ns_none_of X nsO (S.n x hx)⟩}
theorem zrt {w:E3}{h:P9}(Y:yP w h): ∀Q∈[89,82],h.get? Q=some (zx2 #[]):=λ Q hQ=>by
 rcases B9.mp hQ with rfl|hQ
 ·exact Y.2 (89,zx2 #[]) (zkh (.inr (.inr (B1 _ (B1 _ A9)))))
 ·rw[B2] at hQ
  subst hQ;exact Y.2 (82,zx2 #[]) (zkh (.inr (.inr (B1 _ A9))))
theorem ygp {w:E3}{h:P9}(Y:yP w h):Tb h:=by
 have t1:=zrt Y 82 (by simp)
 have t2:=zrt Y 89 (by simp)
 obtain⟨⟨K,X,e⟩,ob⟩:=Y;have S:=zkg e;have h310:=ob (310,_) (zkh (.inl (A6 (i:=24) rfl)));have c1:=codeHd_of_K X S.c1;have c2:=codeHd_of_K X S.c2;exact⟨C6 h310,⟨#[],c1.code t1 trivial,c1.tab t1,.inl rfl⟩,⟨#[],c2.code t2 trivial,c2.tab t2,.inl rfl⟩⟩
theorem yek {s s':A8}(go:Go s s')(tb:Tb s.heap)(t: ∀Q∈[89,82],s.heap.get? Q=some (zx2 #[])):OldK s.heap s'.heap:=by
 have tb':=go.tab tb;have t1:=t 82 (by simp)
 have t2:=t 89 (by simp)
 obtain⟨p1,_,q1,_⟩:=tb'.2.1;obtain⟨p2,_,q2,_⟩:=tb'.2.2;obtain⟨_,_,o1,_⟩:=tb.2.1;obtain⟨_,_,o2,_⟩:=tb.2.2;refine⟨λ b o e=>?_,λ b o e=>?_⟩
 ·by_cases e1:b=82
  ·subst e1
   rw[t1] at e;cases e;exact .inr (.inl ⟨o1.isCodeTable,rfl,#[],p1,rfl,by rw[q1.2];simp⟩)
  ·by_cases e2:b=89
   ·subst e2
    rw[t2] at e;cases e;exact .inr (.inl ⟨o2.isCodeTable,rfl,#[],p2,rfl,by rw[q2.2];simp⟩)
   ·exact .inl (go.keep b o e1 e2 e)
 ·by_cases e1:b=82
  ·subst e1;exact⟨_,q1.2⟩
  ·by_cases e2:b=89
   ·subst e2;exact⟨_,q2.2⟩
   ·exact⟨o,go.keep b o e1 e2 e⟩
theorem yds {s s':A8}(go:Go s s')(h:s.gens= #[]):AllBare s'.gens:=λ y hy=>by
 obtain⟨i,hi,rfl⟩:=Array.mem_iff_getElem.mp hy;rcases go.bare i _ (W1 hi) with q|q
 ·rw[h] at q;simp at q
 ·exact q
theorem yb6 {P:Params}{h:P9}(sc:List Int): ∀(vs:List Value),WellAll P h vs (ofPys (sc.map PyData.int))-> ∀g,RpL g (izD sc) vs:=by
 induction sc with
 |nil=>intro vs x g;cases x;exact Z8
 |cons i r ih=>
  intro vs x g
  cases x with
  |cons x1 x2=>
   cases x1;exact U4 ⟨_,rfl⟩ (ih _ x2 g)
noncomputable def yg7:Fd where
 f:=310
 c:=309
 fd:=fdLaw
 ps:=["script"]
 nm:=yen
 kl:=[false,false,false,false,false,false,false,false,false]
 gn:=lwGn
noncomputable def yg6:Fd:={yg7 with gn:=[("_law_cells",.ref 280),("int_divmod",.ref 108),("_law_table",.ref 285),("_pre_parse_validation",.ref 66),("_law_run",.ref 305),("ZeroDivisionError",.type "ZeroDivisionError"),("len",.builtin "len")]}
theorem FokLaw1:FokB G0 yg6:=zkt (gi:=[21,7,22,11,26]) (bj:=[3,1]) rfl (by decide+kernel) (A6 (i:=24) rfl) (A6 (i:=24) rfl) rfl rfl ⟨rfl,rfl,rfl,rfl,rfl,rfl⟩
theorem yf2:FokB G0 yg7:={FokLaw1 with gns:=λ p hp=>FokLaw1.gns p (by
 have hp:p∈lwGn:=hp;show p∈[(("_law_cells":Str),N0 280),("int_divmod",.ref 108),("_law_table",.ref 285),("_pre_parse_validation",.ref 66),("_law_run",.ref 305),("ZeroDivisionError",.type "ZeroDivisionError"),("len",.builtin "len")];simp only[lwGn,B9,D6,or_false] at hp ⊢;rcases hp with h|h|h|h|h|h|h<;>simp[h])}
theorem zzn {w:E3}{s:A8}{sc:List Int}{vs:List Value}{la:Addr}{Q E:Value->A8->Prop}(hs:sc.length<=63)(gnd:Gnd0 G0 s.heap)(tb:Tb s.heap)
 (hl:s.heap.get? la=some (M8 vs 0))(hv: ∀g,RpL g (izD sc) vs)(k: ∀s',Go s s'->Q (.bool true) s'):D0 (D1 pw w) callerA (call (.ref 310) [.ref la]) Q E s:=by
 obtain⟨c0,c1,c2,c3,c4,gs,ps,ws,Wd,f,O⟩:=yeo hs;refine Fn.enterX (X:=Unit) yg7 yf2 (l:=132) (K:=[]) (wr:=[]) (b:=s) (ow:=[]) (fx:=λ z=>[]) (V:=λ z=>[some (.lst (izD sc)),none,none,none,none,none,none,none,none]) (dk:=[])
  (by decide) ⟨by decide,by decide⟩ gnd tb (HdA.none rfl) gnd tb (zj5 s) (λ a h=>nomatch h) (λ a h=>nomatch h) (λ p h=>nomatch h) (λ p h=>nomatch h) ⟨(λ a ds h=>nomatch h),U7⟩ (λ z p h=>nomatch h) ?_ ?_
 ·intro A E' Q' hk
  refine zbe (a:=[(("script":Str),N0 la)]) rfl ?_;refine hk () s _ (M4 s) (λ p h=>nomatch h) ⟨by simp,λ x hx=>?_,λ i x d hx hd=>?_⟩
  ·rw[B2] at hx;subst hx;exact A6 (i:=0) rfl
  ·have hi:i=0:=by
    rcases i with _|i
    ·rfl
    ·exfalso
     have:([none,none,none,none,none,none,none,none]:List (Option D))[i]? =some (some d):=hd;rw[show([none,none,none,none,none,none,none,none]:List (Option D))=C1 8 none from rfl,zgl] at this
     split at this<;>cases this
   subst hi;have hd:some (some (D.lst (izD sc)))=some (some d):=hd;cases hd;have hx:some ("script":Str)=some x:=hx;cases hx;refine⟨.ref la,A9,?_⟩;exact⟨la,M8 vs 0,vs,rfl,hid_some.mpr ⟨by simp,hl⟩,zho vs 0,hv _⟩
 ·intro _ L s2 F g hk
  exact(zzl (w:=w) (lv:=130) rfl rfl rfl rfl (D2 _) O λ s' g'=>k s' g'.nil).h s2 F
noncomputable def yh0:DefRec:=match stN 33 with
 | .FunctionDef n a b _ _ _ sc _ _ p=>⟨n,a,b,sc,p⟩
 |_=>⟨"",fdLaw.params,[],fdLaw.scope,⟨0,0,0,0⟩⟩
theorem zzm:zcu.wellSaid=true:=by
 delta OpenLaw.wellSaid OpenRow.wellSaid OpenRow.partSaid looksOpen
 repeat' with_reducible refine look_both ?_ ?_
 all_goals decide+kernel
set_option tactic.hygienic true in
theorem fin:zcu.Holds:=by
 refine holds_law zzm λ said=>holds_open (r:=rowL) (q:=qv) (loose:=ybd) (Xt:=λ s=>recOk (RowW.records rowL.toRowW) s) (XP:=λ z z=>True) (Yf:=yF) (Ya:=yA) (YP:=yP) (d:=yh0) (kwd:=[]) (N:=3700) zyp (λ w s e=> ?hY) (λ w h h' y k=> ?hK) (λ z z=>trivial) (λ z z z z z=>trivial) (by kernel_rfl) (by kernel_rfl) (by kernel_rfl) (λ s e=>recFacts_of e) (by kernel_rfl) said (by decide+kernel) ⟨rfl,rfl,rfl,rfl,rfl,by decide+kernel⟩ ?hw ?hc
 case hY=>exact⟨⟨_,zl9 s.heap yhg,congrArg (λ x=>x.1) e⟩,zg1 (congrArg (λ x=>x.2) e)⟩
 case hK=>exact let ⟨⟨K,X,e⟩,o⟩:=y;⟨⟨K,λ a o q=>k _ _ (X a o q),e⟩,λ p hp=>k _ _ (o p hp)⟩
 case hw=>w_witness2
 case hc=>
  intro w s₀ s₁ mg mb G Y fa o pm cd doc dV kV ho hdd hcd hD hmg hg args vals as hpre hlay hrd hwl hlo;have T:=G.T;have gnd:=yet Y T.g T.b T.nolimit T.nodigits T.builtins T.bmain;have tb:=ygp Y;have t8:=zrt Y;have hfa:fa=310:=by
   obtain⟨⟨K,X,e⟩,ob⟩:=Y;have h6:mg "law"=some (.ref 310):=zv1 X T.g ((zkg e).g _ A9);have h7:mg "law"=some (.ref fa):=hmg;rw[h6] at h7
   cases h7;rfl
  clear hmg ho hdd hcd hD Y;subst hfa
  wrow_args hpre hlay hrd hwl hlo
  all_goals (rename_i sc hs hlay0 hL1 hr1 hl2 b4 b3 la vs0 b0 hL ra w1 r0 hI hrr hc1 hc2)
  all_goals (
   have w2:Well w.params s₁.heap (.ref la) (.list (ofPys (sc.map PyData.int))):=w1;clear w1;cases w2;rename_i vs hla hws;refine zzn (by omega) gnd tb hla (yb6 sc vs hws) λ s' g=>⟨.inl ⟨_,_,[],rfl,(λ z=>rfl),ReadsW.bool true,?_,λ z=>⟨U7,λ z hm=>nomatch hm⟩⟩,yek g tb t8,g.os,yds g hg⟩)
  all_goals wrow_post
end Mine.Internal
theorem PySem.Challenge.cw_ta0103_01_holds : PySem.Challenge.rw_ta0103_01.Holds :=
 Mine.Internal.fin
