import PyProof.Rows.All
import Wide.All
import OpenK.AllK
import Wide.FinOn
import PyProof.Rows.CellsNews
import KE.KNest
import KE.KLam
import KE.KSuper
import KE.KPar
import KE.KSortKey
import KE.KSortTup
import PyProof.ExcFactsAll.ValueError
import PyProof.FString4
import KE.BitLaws
import Open.FastT9
import Open.FastLooks
import Lean
import PySem.Challenge.RW_ai0016_01
set_option Elab.async false
set_option linter.all false
set_option genSizeOf false
set_option genInjectivity false
set_option maxRecDepth 1000000
set_option maxHeartbeats 0
set_option backward.match.sparseCases false
set_option tactic.hygienic false
set_option compiler.extract_closed false
set_option bootstrap.genMatcherCode false
open Array renaming empty_append->qI,ext_getElem?->SK,forIn_toList->qR,getD_eq_getD_getElem?->IA,getElem?_eq_getElem->NG,getElem?_eq_none->PI,getElem?_eq_some_iff->Yu,getElem?_setIfInBounds->Lq,size->AK,size_pop->Ys,size_push->zZ,size_setIfInBounds->Di,toList->dR,toList_append->nJ
open Bool renaming and_eq_true->A4,and_eq_true_iff->IZ,and_false->ACd,and_true->dG,eq_false_iff->KW,eq_iff_iff->Ck,false->AB,false_and->ACb,false_eq_true->DW,false_ne_true->CD,false_or->OC,noConfusion->Iv,not_eq_true'->CR,not_true->ADU,or_assoc->dJ,or_eq_true->Pg,or_eq_true_iff->MC,or_false->dI,or_true->AFU,true->J,true_and->dE
open Classical renaming byContradiction->AKC
open Decidable renaming decide->Bx
open Eq renaming symm->nB,trans->AE5
open Except renaming error->ib,ok->zr
open Exists renaming elim->An
open False renaming elim->AFy
open ForIn renaming forIn->tQ
open ForInStep renaming yield->JG
open Inhabited renaming default->BN
open Int renaming add_assoc->dP,add_comm->iw,add_sub_cancel->Tw,add_zero->Pa,fdiv_eq_ediv_of_nonneg->Im,fmod_eq_emod_of_nonneg->bE,fmod_lt_of_pos->DC,fmod_nonneg_of_pos->Br,le_of_lt->I5,le_refl->pz,le_trans->ix,lt_add_one_of_le->qK,lt_of_le_of_lt->Tv,mul_one->RP,mul_zero->AFl,natCast_nonneg->Av,natCast_pow->Yw,ne_of_gt->jM,neg_mul->pq,neg_zero->AFn,not_le->AIW,not_lt->Tu,ofNat_inj->G7,ofNat_le->Iz,ofNat_lt->Kd,one_mul->RO,pow_pos->Ra,sub_nonneg_of_le->Lm,toNat->Bp,toNat_lt->AFo,toNat_natCast->Fj,toNat_of_nonneg->Mc,zero_add->PZ,zero_mul->AFm
open Int.ofNat renaming inj->AKV
open LawfulBEq renaming eq_of_beq->F7
open LawfulMonad renaming pure_bind->Uy
open List renaming all_cons->N9,all_eq_true->Cu,any_append->zx,any_cons->G5,any_eq_false->Uz,any_eq_true->Ow,any_toArray->Vf,append_assoc->DN,append_nil->Fi,append_toArray->qE,cons_append->Iw,cons_ne_nil->C2,drop_append_of_le_length->WM,drop_eq_getElem_cons->E9,drop_left->ZY,drop_length->zT,drop_of_length_le->F8,drop_zero->Q5,filterMap_cons->HF,filter_congr->IE,filter_cons->Bb,find?_cons->zw,flatten->AF,flatten_append->Fv,flatten_cons->EI,foldl_cons->AAA,forIn_cons->Gu,forIn_nil->Mw,forall_mem_cons->Eh,getD_eq_getElem?_getD->Al,getElem?_cons_succ->dZ,getElem?_eq_getElem->AR,getElem?_eq_none->Ky,getElem?_map->Bv,getElem?_toArray->FA,getElem?_zip_eq_some->NW,getElem_mem->Ox,isEmpty_iff->Ou,isEmpty_nil->zU,length->U,length_append->Ad,length_cons->Ac,length_drop->Eg,length_filter_le->QY,length_map->Ai,length_nil->BL,length_range->uR,length_set->AAC,length_singleton->jX,length_take->GK,length_zip->Hy,lookup->AFw,lookup_cons->CE,map->nE,map_append->Cv,map_congr_left->qG,map_cons->B4,map_drop->ADY,map_eq_nil_iff->SA,map_fst_zip->FJ,map_id->V9,map_map->iZ,map_nil->ig,map_set->AFP,map_take->ADX,mem_append->L5,mem_append_left->Q7,mem_cons->CV,mem_cons_of_mem->my,mem_cons_self->Hh,mem_eraseDups->tX,mem_filter->Hv,mem_filterMap->tW,mem_map->iW,mem_map_of_mem->ME,mem_of_getElem?->BJ,mem_of_mem_drop->nK,mem_range->Mv,mem_singleton->Tn,mem_toArray->zS,ne_of_not_mem_cons->dQ,nil_append->Hx,nodup_append->EH,nodup_cons->Cj,nodup_nil->ACl,not_mem_nil->Au,not_mem_of_not_mem_cons->YW,of_mem_zip->Df,pairwise_append->nH,pairwise_cons->tP,push_toArray->NY,range->DL,range'->HY,range'_succ->Ov,range_eq_range'->RB,reverse_cons->uI,setIfInBounds_toArray->Mx,size_toArray->Ab,sublist_nil->Vm,takeWhile_cons->R9,take_of_length_le->Hi,toArray->AU,zip->Hw,zipIdx_cons->Vj,zip_cons_cons->DU,zip_nil_right->tO
open List.Mem renaming head->B0,tail->Cb
open List.Pairwise renaming nil->PE
open List.cons renaming inj->HW,injEq->AKN
open Nat renaming add_comm->Pb,add_le_add_left->F0,add_le_add_right->RT,add_right_comm->uA,add_sub_cancel_left->il,and_one_is_mod->uQ,beq->C8,ble->EV,blt->jR,div_add_mod->Yv,div_le_self->QX,eq_of_beq_eq_true->DJ,eq_of_testBit_eq->qS,le_add_left->BM,le_add_right->Ci,le_antisymm->Ye,le_of_ble_eq_true->Be,le_of_eq->B8,le_of_lt->C7,le_of_lt_succ->VH,le_of_succ_le_succ->Ph,le_refl->BO,le_succ->Ej,le_succ_of_le->IQ,le_total->AFx,le_trans->AO,le_zero->qJ,lt_add_of_pos_right->PH,lt_irrefl->B7,lt_min->uN,lt_of_le_of_lt->Bj,lt_of_le_of_ne->uM,lt_of_lt_of_eq->FN,lt_of_lt_of_le->Dz,lt_of_succ_lt->zY,lt_of_succ_lt_succ->Hn,lt_or_ge->jQ,lt_succ_self->PC,lt_trans->jP,min_eq_left->Jl,min_eq_right->AAB,min_le_left->MD,min_le_right->PD,min_self->VJ,mod_two_eq_zero_or_one->bD,mul_le_mul_left->Me,mul_le_mul_right->qN,ne_of_beq_eq_false->jD,ne_of_gt->AFv,ne_of_lt->I7,not_lt->G6,not_lt_zero->H4,pow_le_pow_right->Rf,sub_add_cancel->T9,sub_le->LJ,sub_le_of_le_add->RY,sub_self->AF4,sub_zero->jO,succ_le_succ->Dk,succ_min_succ->zQ,succ_ne_self->WE,succ_ne_zero->WD,succ_pos->Ml,testBit->AG,testBit_and->H6,testBit_lt_two_pow->jW,testBit_or->Rc,testBit_xor->Fk,zero_add->Mm,zero_le->D1,zero_testBit->WN
open Nat.succ renaming inj->OB
open Ne renaming symm->Gk
open Option renaming elim->VK,getD_some->tV,isSome->zi,isSome_none->nC,map->nM,none->AQ,some->D,some_ne_none->Q4
open Option.some renaming inj->AE
open Or renaming inl->Ax,inr->BC
open Prod renaming fst->CZ,snd->Ot
open Prod.mk renaming inj->FL,injEq->zP
open Pure renaming pure->Ce
open PyProof.Rows renaming AllBare->ID,Assign_Tuple_swapped->zv,Attribute_name->jK,IntsAre->AFE,IsTup->zp,UnaryOp_->AHu,add_int->AHe,and_int->AHi,assign_Tuple->uH,bindName_->AFu,call_function_any->AFQ,cellsFrom_names->R6,entry_list_sort->AH2,evalArgs_nil3->Pd,floordiv_int->AHh,getItem_tuple->AHv,gt_int->AHo,len_list->AHw,listItems_at->AKT,listUpdate_at->Vl,lshift_int_small->AHm,lt_int->Yh,mod_int->AHg,or_int->AHj,pow_int_small->AHn,rshift_int->AHl,slot_list_sort->AH1,sub_int->AHf,truthy_int->AHp,unpackItems_tuple->AE9,xor_int->AHk
open PyProof.Rows.IsTup renaming new->uE
open PySem renaming Addr->Az,Arguments->AFq,Around->Hk,Data->Yg,DictEntry->az,Env->Pc,ExceptHandler->Vk,Expr->A2,Fin->qH,FuncData->T1,GenState->zj,Heap->Dw,InCallC->Yq,IsZip->AFI,Keyword->Mh,Model->jA,NameKind->Et,Obj->NU,Operator->jB,Paired->Ds,PlainL->FK,Pos->LH,Program->AE2,Scope->R4,Shared->Bq,Stmt->Ct,Str->Bt,Thread->NA,TriplesOk->AFz,Value->Am,World->dB,allTrue->Ym,argsOk->Pe,arm_eval_Call->AJh,assign->uG,assignEach->jG,assignInOrder->AJi,backTo->Gc,backToKw->AIf,behindInMarks->Vd,binaryOp->AIa,bindArgs->CG,bindC->jE,bindL->AE6,bootBuiltins->uB,builtinLookup_eq_fast->L7,builtinType_eq_fast->ACf,builtinsNs->FZ,cLine->tM,cStatics->iz,call->RV,callEnvC->zt,callSpecial?->uJ,callWith->T3,cameBackBy->ADd,cellOf->ADR,cellsFrom->B3,clipAt->MF,clipAt_nat->Kg,closureFor->OF,codeAmong->Qv,codeAny->Mf,codeAny_builtin->da,codeAny_call_function->Dt,codeAny_func->Jh,compEnvC->LN,denote->af,entryFor->Yp,entryFor_of_tree->Jg,eval->IC,eval_Subscript->jI,execs->Ve,fenceModules?->qA,foldedSetIterable->AFD,getMethod->ak,getMethod_builtin->HE,getitemInPython_of_ne->SH,holding->RU,importedModules->NB,interactive->PU,isCodeTable->zm,isSubtype_stop->AIo,isSubtype_type->JP,isTrue->uD,keywordEach->zu,ks_wpAt_execs_cons->ADc,leaving->AFT,letOwnedTupleGo->ND,letTemporaryGo->jJ,list_append_plainL->WA,lookup_relabel_local->T7,mainGlobals->Bg,makeFunction->uL,mem_of_lookup->BW,methodCallForm->AIe,methodCallPos->Vg,model->Gi,newFunctionEnv->LM,newList->uF,newObj->ADa,newTuple->AIb,noteFrame->aw,notedBy->Yn,nsPutIn->uO,plainId_quiet->KH,plainObj_wpAny_Assign_Attribute->ZW,pushCells->OA,pushCells_keeps->AHy,pyIter->jH,pyNext->T8,rawInt->Jo,recursionLimit->AIZ,reprText->jV,seg_execs_cons->jT,seg_wrap->Mq,setFlight->AF1,signature?_of->Vh,sizeLine->AY,sizeLine_eq->Ak,sliceBounds->PX,slicePick->tR,slot_gen_next->AJm,slot_list_append->aq,slot_list_getitem->Yo,spliced->PS,standAt->AE3,starEach->C5,start->iy,storeName->Ic,subscripted->dF,swappedStores->KG,swapsWith->HC,table->AFF,theTreesLotGoes->dU,treeTable->N7,typeLookup_type->R8,typeOf->AIg,type_list_append->au,unpackItems->T5,valueAt->Jf,wpAny->Ao,wpAny_Assign_Name->HD,wpAny_Call_NameR->Fb,wpAny_Constant_none->ACY,wpAny_Constant_str->Ke,wpAny_Expr->jF,wpAny_If->AIc,wpAny_Try_except->AF2,wpAny_assign_Name->PW,wpAny_attempt->Pf,wpAny_bind->AD,wpAny_call->F9,wpAny_callSpecial?_slot->Qw,wpAny_call_entry->Gl,wpAny_execs_cons->DQ,wpAny_execs_nil->KV,wpAny_field->HG,wpAny_getItem_list->ADT,wpAny_holding->BV,wpAny_isInstance->Ji,wpAny_ite_false->B2,wpAny_ite_true->C0,wpAny_landsW->AKU,wpAny_layCells->AIk,wpAny_letGo->zy,wpAny_letTemporaryGo->T6,wpAny_loadName_free->ACa,wpAny_loadName_local->zq,wpAny_loadPart->AIq,wpAny_mkBytes->AJj,wpAny_mkText->AKM,wpAny_mono->DF,wpAny_newObj_type->ET,wpAny_newTuple->AIn,wpAny_of_eq->CW,wpAny_onRaise->qM,wpAny_operating->dT,wpAny_pure->AP,wpAny_pyIter_list->AFB,wpAny_rule->MG,wpAny_seqItems->CA,wpAny_setField_rec->Kh,wpAny_specialOf->R7,wpAny_standAt->Dq,wpAny_storeName_cell->T4,wpAny_storeName_local->L6,wpAny_truthy_bool->LL,wpAny_typeOf->Yk,wpAny_updateSeq->dS,wpAt->AF0,wpAt_of_wpAny->qO
open PySem.Around renaming under_plainId->QZ
open PySem.Builtin renaming bitAnd->Ag,bitNot->A5,bitOr->BG,bitXor->B1,divisionGoesByPylong->LK
open PySem.Builtin.Bytes renaming buffer?->ACg,find?->jL,joinLetGo->WH,joined->dX,lines->CT,order->AFN,takeBufferQuiet?->dW,tooLong->ACj
open PySem.Builtin.Bytes.Kind renaming bytes->ij,same->AJk
open PySem.Builtin.Generator renaming genWake->RA
open PySem.Builtin.Int renaming intBits->AIi
open PySem.Builtin.List renaming listExtendWith->SF,listItems->AHs,listSameRef->AHr,listTooLong->Ux
open PySem.Builtin.Range renaming rangeSize->AFt
open PySem.Builtin.SmallTypes renaming ownedTupleHandOut->zW,ownedTupleIsFree->NH
open PySem.Calls renaming Name_function_global->Mo,evalArgs_plain->Hm,loadGlobal_builtin->WC,loadGlobal_global->AFA,spliced_cons->Yt
open PySem.Challenge renaming pw_ai0016_01->Qs,rw_ai0016_01->Jp
open PySem.CmpOp renaming Eq->To,In->Yi,NotEq->H8,NotIn->AH3
open PySem.Code renaming builtin->Iy,call->qB,forLoop->Hj,func->JH
open PySem.Const renaming str->ACZ
open PySem.Data renaming cell->mu,cls->YS,dict->Gr,fields->BF,freed->ACm,func->IB,noConfusion->HH,plain->tN,seq->Gz
open PySem.Data.func renaming elim->AKG,inj->AKH
open PySem.Data.seq renaming inj->zR
open PySem.DictEntry renaming refKey->AKP
open PySem.Expr renaming Attribute->CO,Call->El,Constant->Gj,FormattedValue->RZ,JoinedStr->ACn,List->VI,ListComp->Kf,Name->Bu,Slice->AHt,Starred->zN,Subscript->H9,Tuple->KU,UnaryOp->AHq
open PySem.Expr.Attribute renaming elim->EW
open PySem.Expr.BinOp renaming elim->jN
open PySem.Expr.Call renaming elim->Dr
open PySem.Expr.Compare renaming elim->Lp
open PySem.Expr.Constant renaming elim->DK
open PySem.Expr.Dict renaming elim->AKR
open PySem.Expr.FormattedValue renaming elim->Qx
open PySem.Expr.JoinedStr renaming elim->WK
open PySem.Expr.Lambda renaming elim->Mp
open PySem.Expr.List renaming elim->Ln
open PySem.Expr.ListComp renaming elim->G2
open PySem.Expr.Name renaming elim->H5
open PySem.Expr.Slice renaming elim->Tp
open PySem.Expr.Subscript renaming elim->Dv
open PySem.Expr.Tuple renaming elim->Il
open PySem.Expr.Yield renaming elim->jS
open PySem.F renaming args_zip_next_1->ACk,entry_zip_next->ADb,plainAttrs_list->Kx,slot_dict_get->AFG,slot_list_extend->Yj,slot_tuple_lt->AFO,slot_zip_next->Q8,sub_list_list->AFR
open PySem.Fin renaming again->Lr,done->ax
open PySem.Flow renaming next->HK,ret->N8
open PySem.FuncBody renaming stmts->KS
open PySem.GenState renaming finished->qQ,fresh->AH0,running->OD
open PySem.Heap renaming ExtBut->Q9,FlyingW->AFS,HeldW->ZX,MadeExc->iq,SameBut->Hg,get?->AA,get?_push_of_some->AX,get?_push_size->A1,get?_update_other->ip,get?_update_self->Dm,lt_size->BS,nsMap->AIJ,size_push->EM
open PySem.Heap.FlyingW renaming there->AH4
open PySem.Heap.IsSliceOf renaming new->AFC
open PySem.Heap.SameBut renaming update->Dy
open PySem.IsRange renaming new->ACc
open PySem.Keeper renaming boundFrame->ADP,frame->AE4,machine->YV
open PySem.NameKind renaming cell->BX,free->Bm,globalExplicit->AFs,globalImplicit->IP
open PySem.Obj renaming cls_mapSeq->RX,data->ADW,data_mapFields->uP,data_mapSeq->Jk,isFreed_of_seq->Hp,mapSeq->FO,putName->qP
open PySem.Operator renaming Add->iY
open PySem.Paired renaming cons->QW,length->NV,nil->QV,snoc->ADZ
open PySem.ScopeKind renaming function->BY
open PySem.Sem renaming bind_eq_wrap->AAD,bind_eq_wrap'->EK,pure->av,wrap_wrap->GN
open PySem.Sem.pure renaming elim->YX
open PySem.SeqAt renaming notIn_listAt->AIr
open PySem.SeqAt.EqAt renaming int_int->AE7,same->AId
open PySem.SeqRoads2 renaming in_meets->ADV
open PySem.Stmt renaming Assign->Fg,Expr->NC,Pass->AHd
open PySem.Stmt.Assign renaming elim->Gs
open PySem.Stmt.ClassDef renaming elim->AFp
open PySem.Stmt.Continue renaming elim->AF3
open PySem.Stmt.Expr renaming elim->PF
open PySem.Stmt.For renaming elim->Qu
open PySem.Stmt.FunctionDef renaming elim->G4
open PySem.Stmt.If renaming elim->SJ
open PySem.Stmt.Raise renaming elim->jU
open PySem.Stmt.Return renaming elim->dY
open PySem.Stmt.Try renaming elim->YZ
open PySem.Stmt.While renaming elim->Ts
open PySem.Str renaming empty->WL,ofString->S
open PySem.Thread renaming atExitBegin->R3
open PySem.Value renaming bool->FH,builtin->AS,bytes->D0,ellipsis->AFJ,int->EF,noConfusion->Ff,none->AN,ref->AH,str->Bz,type->Ae
open PySem.Value.ref renaming inj->Mn
open PySem.Value.type renaming elim->Tq,inj->Uw
open PySem.W renaming CodeHd->WI,SharedT->Md,absHeap->iX,bytesKind->ah,bytesKind_is->Yl,callWith_of->Ku,dictOf->Hl,findIn->Hq,get_value->bA,instObj->AFM,looks_findIn->Yr,openEnds->AIY,opening->RQ,readsAllW_cons_inv->ADe,readsAllW_nil_inv->AFV,stepOk->AIX,stepT->tL,takerIn->AFL,typeIn->WJ,typeIs_bytes->Ek
open PySem.W.FB renaming owner_bytes->dH,plainAttrs_bytes->uK,slot_bytes_getitem->Q6
open PySem.W.Fast renaming te10156331382660048174->AIA,te11892475500146522536->AIB,te14289696077712309145->AIE,te1435165496053646825->AIH,te14364793385576792824->AIC,te17119622794617984870->IS,te3805553451399329143->AID,te4187177175401517315->AII,te6613529449190102663->AIF,te8326940854005059898->Ie,tw10156331382660048174->PJ,tw11892475500146522536->PK,tw14289696077712309145->AH6,tw1435165496053646825->AH8,tw14364793385576792824->PL,tw3805553451399329143->AH5,tw4187177175401517315->AH9,tw6613529449190102663->AH7
open PySem.W.KBy renaming add_bytes->AIh,buffer_eq->YY,look_buffer->Vi,own_buffer->WG,own_release->AIm,picked->AIl,special_eq->NF
open PySem.W.Looks renaming ld->jC,now->qC,of_pure->R5
open PySem.W.WData renaming list->AFW
open PySem.W.X renaming tableObj->T2
open Std.Legacy.Range renaming forIn_eq_forIn_range'->ACh,size->ACi
open UInt8 renaming lt_irrefl->zX
open _root_ renaming Array->Ef,Bool->Ba,False->Yd,ForInStep->tU,Int->Aa,List->I,Nat->Aj,Option->AW,String->Tx,UInt8->BB,absurd->Ay,beq_eq_false_iff_ne->ACe,beq_iff_eq->Bh,beq_self_eq_true->Cz,bne_self_eq_false->AFH,congrArg->BI,decide_eq_false->Bc,decide_eq_true->CI,decide_eq_true_eq->CX,eq_comm->AFK,funext->uC,if_false->Ho,if_neg->CQ,if_pos->Dh,if_true->EU,not_or->ADS,of_decide_eq_false->ADQ,of_decide_eq_true->E8,or_false->JQ,rfl->B,trivial->AI
open PySem PySem.W PySem.W.X PyProof.Rows PySem.Calls PySem.Spec
local macro_rules
|`(⋯)=>`(by kernel_rfl!)
namespace Mine
inductive La where
 |n (k:Aj)
 |v (i:Aj)
 |a (x y:La)
 |m (k:Aj) (x:La)
noncomputable def ADf:I Aj->Aj->Aj
 |[],_=>0
 |x::_,0=>x
 |_::l,i+1=>ADf l i
noncomputable def La.d(r:I Aj):La->Aj
 |.n k=>k
 |.v i=>ADf r i
 |.a x y=>x.d r+y.d r
 |.m k x=>k*x.d r
noncomputable def jY:I Aa->I Aa->I Aa
 |[],q=>q
 |p,[] =>p
 |a::p,b::q=>(a+b)::jY p q
noncomputable def qT(k:Aa):I Aa->I Aa
 |[] =>[]
 |a::p=>(k*a)::qT k p
noncomputable def de:Aj->I Aa
 |0=>[1]
 |i+1=>0::de i
noncomputable def atL(r:I Aj):Aj->Aj
 |0=>1
 |i+1=>ADf r i
noncomputable def ZZ(f:Aj->Aj):I Aa->Aj->Aa
 |[],_=>0
 |a::p,i=>a*f i+ZZ f p (i+1)
noncomputable def La.c:La->I Aa
 |.n k=>[(k:Aa)]
 |.v i=>0::de i
 |.a x y=>jY x.c y.c
 |.m k x=>qT k x.c
section
variable(f:Nat->Nat)
theorem V8(p:I Aa):∀q i,ZZ f (jY p q) i=ZZ f p i+ZZ f q i:=by
 induction p with
 |nil=>intro q i;cases q<;>exact(PZ _).symm
 |cons a p d=>
  intro q i;cases q with
  |nil=>exact(Pa _).symm
  |cons b q=>
   show(a+b)*f i+ZZ f (jY p q) (i+1)=_;rw[d,Int.add_mul];rw[dP,Int.add_left_comm<|b*f i];exact(dP ..).symm
theorem cw(k:Aa)(p:I Aa):∀i,ZZ f (qT k p) i=k*ZZ f p i:=by
 induction p with
 |nil=>exactλ_=>(AFl k).symm
 |cons a p d=>
  intro i;show k*a*f i+ZZ f (qT k p) (i+1)=k*(a*f i+ZZ f p (i+1));rw[d,Int.mul_add,Int.mul_assoc]
theorem zF(j:Aj):∀i,ZZ f (de j) i=f (i+j):=by
 induction j with
 |zero=>exactλi=>(Pa _).trans<|RO _
 |succ j a=>
  intro i;show 0*_+ZZ f (de j) (i+1)=_;rw[AFm,PZ,a,uA];rfl
end
theorem La.AHW(r:I Aj)(t:La):ZZ (atL r) t.c 0=t.d r:=by
 induction t with
 |n k=>exact(Pa _).trans<|RP _
 |v i=>
  show 0*_+ZZ (atL r) (de i) 1=_;rw[AFm,PZ,zF,Pb];rfl
 |a x y h j=>exact(V8 ..).trans<|h▸j▸B
 |m k x h=>exact(cw ..).trans<|h▸B
inductive Lh where
 |e (x y:La)
 |l (x y:La)
 |t (x y:La)
 |q (x y:La)
 |r (x y:La)
def Lh.d(r:I Aj):Lh->Prop
 |.e x y=>x.d r=y.d r
 |.l x y=>x.d r<=y.d r
 |.t x y=>x.d r<y.d r
 |.q x y=> ¬x.d r<y.d r
 |.r x y=> ¬x.d r<=y.d r
noncomputable def WO(x y:La)(k:Aa):I Int:=jY [-k]<|jY y.c<|qT (-1) x.c
noncomputable def Lh.p:Lh->I Aa
 |.e x y=>WO x y 0
 |.l x y=>WO x y 0
 |.t x y=>WO x y 1
 |.q x y=>WO y x 0
 |.r x y=>WO y x 1
noncomputable def Lh.isE:Lh->Ba
 |.e _ _=>J
 |_=>AB
theorem Qa(r:I Aj)(x y:La)(k:Aa):ZZ (atL r) (WO x y k) 0= -k+(y.d r+ -1*x.d r):=by unfold WO;rw[V8,V8,cw,La.AHW,La.AHW];exact BI (· +_)<|(Pa _).trans<|RP _
theorem bF{a b:Aj}(h:a<=b):(0:Aa)<= -0+(b+ -1*a):=by rw[AFn,PZ,pq,RO];exact Lm<|Iz.mpr h
theorem nN{a b:Aj}(h:a<b):(0:Aa)<= -1+(b+ -1*a):=by rw[iw,pq,RO];exact Lm<|Int.le_sub_left_of_add_le<|Iz.mpr h
theorem Lh.le(r:I Aj){h:Lh}(w:h.d r):0<=ZZ (atL r) h.p 0:=by
 cases h with
 |e x y=>exact Qa r x y 0▸bF (B8 w)
 |l x y=>exact Qa r x y 0▸bF w
 |t x y=>exact Qa r x y 1▸nN w
 |q x y=>exact Qa r y x 0▸bF (Nat.le_of_not_lt w)
 |r x y=>exact Qa r y x 1▸nN (Nat.lt_of_not_le w)
theorem Lh.eq(r:I Aj){h:Lh}(e:h.isE=J)(w:h.d r):ZZ (atL r) h.p 0=0:=by
 cases h with
 |e x y=>
  refine(Qa r x y 0).trans ?_;rw[show x.d r=y.d r from w,AFn,PZ,pq,RO];exact Int.add_right_neg _
 |l x y=>cases e
 |t x y=>cases e
 |q x y=>cases e
 |r x y=>cases e
def WQ(r:I Aj):I Lh->Prop->Prop
 |[],P=>P
 |h::hs,P=>h.d r->WQ r hs P
noncomputable def jZ:I Aa->Ba
 |[] =>J
 |a::p=>Bx (a<=0)&&jZ p
noncomputable def AF5:I Aa->Ba
 |[] =>AB
 |a::p=>Bx (a<0)&&jZ p
noncomputable def ja:I Lh->I Aa->I Aa->Ba
 |[],_,acc=>AF5 acc
 |h::hs,m::a,acc=>(h.isE||Bx (0<=m))&&ja hs a (jY acc (qT m h.p))
 |_::_,[],_=>AB
theorem qU(f:Aj->Aj)(p:I Aa):∀i,jZ p=J->ZZ f p i<=0:=by
 induction p with
 |nil=>exactλ_ _=>pz _
 |cons a p d=>
  intro i h;have h:=IZ.mp h;exact Int.add_nonpos (Int.mul_nonpos_of_nonpos_of_nonneg (E8 h.1)<|Av _)<|d _ h.2
theorem AAE(h:AF5 p=J)(w:0<=ZZ (atL r) p 0):False:=by
 cases p with
 |nil=>cases h
 |cons a p=>
  have h:=IZ.mp h;have w:0<=a*1+ZZ (atL r) p 1:=w;rw[RP]at w;exact Tu.mpr w<|Int.add_neg_of_neg_of_nonpos (E8 h.1)<|qU _ p 1 h.2
theorem bH(r:I Aj)(hs:I Lh):∀a acc,ja hs a acc=J->0<=ZZ (atL r) acc 0->WQ r hs False:=by
 induction hs with
 |nil=>exactλa acc h w=>AAE h w
 |cons h hs g=>
  intro a acc k w;cases a with
  |nil=>cases k
  |cons m a=>
   have k:=IZ.mp k;intro d;refine g a _ k.2 ?_;rw[V8,cw];rcases MC.mp k.1 with e|e
   ·rw[Lh.eq r e d,AFl,Pa];exact w
   ·exact Int.add_nonneg w<|Int.mul_nonneg (E8 e)<|Lh.le r d
theorem nO(r:I Aj)(hs:I Lh):∀ {P:Prop},(¬P->WQ r hs Yd)->WQ r hs P:=by
 induction hs with
 |nil=>intro P h;exact AKC h
 |cons h hs a=>intro P k w;exact a λq=>k q w
theorem uS(r:I Aj)(hs:I Lh)(f:P->Q->R):WQ r hs P->WQ r hs Q->WQ r hs R:=by
 induction hs with
 |nil=>exact f
 |cons h hs d=>intro a b w;exact d (a w)<|b w
theorem lnF(r:I Aj)(hs:I Lh)(a:I Aa)(k:ja hs a [] =J):WQ r hs False:=bH r hs a [] k<|pz _
theorem DT(r:I Aj)(hs:I Lh)(x y:La)(a:I Aa)(k:ja hs a (WO y x 1)=J):WQ r hs (x.d r<=y.d r):=
 nO r hs λq=>bH r hs a _ k<|Lh.le r (h:=.r x y) q
theorem Pj(r:I Aj)(hs:I Lh)(x y:La)(a:I Aa)(k:ja hs a (WO y x 0)=J):WQ r hs (x.d r<y.d r):=
 nO r hs λq=>bH r hs a _ k<|Lh.le r (h:=.q x y) q
theorem Yb(r:I Aj)(hs:I Lh)(x y:La)(a ns:I Aa)(k:ja hs a (WO y x 1)=J)(l:ja hs ns (WO x y 1)=J):WQ r hs (x.d r=y.d r):=
 uS r hs (P:=x.d r<=y.d r) (Q:=y.d r<=x.d r) Ye (DT r hs x y a k) (DT r hs y x ns l)
noncomputable abbrev A9:=La.v 0
noncomputable abbrev BQ:=La.v 1
noncomputable abbrev B5:=La.v 2
noncomputable abbrev Jj:=La.v 3
noncomputable abbrev df:=La.v 4
noncomputable abbrev la5:=La.v 5
noncomputable abbrev Mr:=La.n 0
noncomputable abbrev DB:=La.n 1
abbrev UC:=Md->NA->AW (Md×NA)
noncomputable def qV(st:UC)(a:NA->AW (I Am)):Aj->Md->NA->AW Md
 |0,_,_=>AQ
 |n+1,s,t=>match a t with
  |some [] =>D s
  |some (_::_)=>AQ
  |none=>match st s t with
   |some (s',d)=>qV st a n s' d
   |none=>AQ
theorem AAK{st:UC}{a:NA->AW (I Am)} :qV st a (n+1) s t=(match a t with
  |some [] =>D s
  |some (_::_)=>AQ
  |none=>match st s t with
   |some (s',d)=>qV st a n s' d
   |none=>AQ):=B
theorem AAL{d:Tx->AW Builtin}{p:AE2}{w:dB} :∀ {n:Aj} {s s':Md} {t:NA},qV (tL (af d) p w) R3 n s t=D s'->importEnds d p w n s.abs t=D s'.abs:=by
 intro n;induction n with
 |zero=>
  exact @λ_ _ _ h=>by cases h
 |succ n j=>
  exact @λs s' t h=>by
   rw[AAK]at h;unfold importEnds;cases i:t.atExitBegin with
   |some l=>
    rw[i]at h;cases l with
    |nil=>cases h;rfl
    |cons a r=>cases h
   |none=>
    rw[i]at h;cases hs:tL (af d) p w s t with
    |none=>rw[hs]at h;cases h
    |some r=>
     obtain⟨g,e⟩:=r;rw[hs]at h
     dsimp only
     rw[stepT_spec hs];exact j h
noncomputable def qW(st:UC)(a:NA->Ba):Aj->Md->NA->AW Md
 |0,_,_=>AQ
 |n+1,s,t=>match through t with
  |true=>D s
  |false=>match a t with
   |false=>AQ
   |true=>match st s t with
    |some (s',d)=>qW st a n s' d
    |none=>AQ
theorem AAM{st:UC}{a:NA->Ba} :qW st a (n+1) s t=(match through t with
  |true=>D s
  |false=>match a t with
   |false=>AQ
   |true=>match st s t with
    |some (s',d)=>qW st a n s' d
    |none=>AQ):=B
theorem AAN{e:Tx->AW Builtin}{p:AE2}{w:dB}{a:Aj}{d:AW Am} :∀ {n:Aj} {s s':Md} {t:NA},qW (tL (af e) p w) (AIX a d) n s t=D s'->topRun e p w a d n s.abs t=D s'.abs:=by
 intro n;induction n with
 |zero=>
  exact @λ_ _ _ h=>by cases h
 |succ n q=>
  exact @λs s' t h=>by
   rw[AAM]at h;unfold topRun;cases j:through t with
   |true=>rw[j]at h;cases h;rfl
   |false=>
    rw[j]at h;cases l:AIX a d t with
    |false=>rw[l]at h;cases h
    |true=>
     rw[l]at h;cases hs:tL (af e) p w s t with
     |none=>rw[hs]at h;cases h
     |some r=>
      obtain⟨i,g⟩:=r;rw[hs]at h
      dsimp only
      rw[stepT_spec hs];exact q h
noncomputable def UD:Aj->BT->I NU->AW BT
 |_,t,[] =>D t
 |n,t,o::r=>match((t.ins n o).get n).isSome with
  |true=>UD (n+1) (t.ins n o) r
  |false=>AQ
theorem qX:UD n t (o::r)=(match((t.ins n o).get n).isSome with
  |true=>UD (n+1) (t.ins n o) r
  |false=>AQ):=B
theorem je(a:Life):∀(os:I NU) (n:Aj) (t d:BT),UD n t os=D d->iX d (n+U os) a=⟨(iX t n a).objs++AU os,a⟩:=by
 intro os;induction os with
 |nil=>
  exactλn t d h=>by cases h;simp[iX]
 |cons o r e=>
  exactλn t d h=>by
   rw[qX]at h;cases g:((t.ins n o).get n).isSome with
   |false=>rw[g]at h;cases h
   |true=>
    rw[g]at h;have z:=e (n+1) (t.ins n o) d h;rw[absHeap_ins g]at z;rw[Ac,show n+(U r+1)=n+1+U r from uA n (U r) 1,z];skip
    congr 1
    show((iX t n a).objs.push o)++AU r=_;simp
noncomputable def ofS(s:Bq):AW SharedT:=match UD 0 .nil s.heap.objs.toList with
 |some t=>D ⟨t,U s.heap.objs.toList,s.heap.life,s.gens,s.drawn,s.toks,s.os⟩
 |none=>AQ
theorem AAO{s:Bq}{t:Md}(h:ofS s=D t):t.abs=s:=by
 unfold ofS at h;cases e:UD 0 .nil s.heap.objs.toList with
 |none=>rw[e]at h;cases h
 |some T=>
  rw[e]at h;cases h;have z:=je s.heap.life _ 0 .nil T e;rw[Mm]at z;obtain⟨⟨objs,a⟩,g,d,k,i⟩:=s;show Shared.mk (iX T (U objs.toList) a) g d k i=_
  dsimp only at z
  rw[z];simp[iX,BT.list]
noncomputable def ADh(l:UC)(i:NA->AW (I Am))(a:Bq->AW Bq)(j:UC)(r:Aj->AW Am->NA->Ba)(q:Bq->AW Am)(g:Bq->Ba)(h:Bq->Bq->Ba)(d:NA)(N:Aj)(s:Md)(t:NA):AW Shared:=
 match qV l i N s t with
 |none=>AQ
 |some e=>match a e.abs with
  |none=>AQ
  |some s₀=>match g s₀ with
   |false=>AQ
   |true=>match ofS s₀ with
    |none=>AQ
    |some c=>match qW j (r (AK s₀.heap.objs)<|q s₀) N c d with
     |none=>AQ
     |some s₁=>match h s₀ s₁.abs with
      |true=>D s₁.abs
      |false=>AQ
noncomputable def nV(p:AE2)(s₀ s₁:Bq):Bool:=staticsOk (NB p.main.body) s₀.heap s₁.heap&&namesBound p s₁.heap&&gensDone s₁&&laidKept s₀.heap s₁.heap
theorem AAP{p:AE2}{w:dB}{N:Aj}{s:Bq}{sT:Md}(hs:sT.abs=(iy (RQ p)).1)
  (h:ADh (tL (af N7) (RQ p) w) R3 (qA p) (tL (af N7) p w) AIX (λs₀=>s₀.heap.nsMap Bg "__annotations__") (λs₀=>s₀.heap.isNs Bg&&AK s₀.gens==0) (nV p) (topStub p) N sT (iy (RQ p)).2=D s):
  AIY N7 p w N=D s:=by
 unfold ADh at h;cases i:qV (tL (af N7) (RQ p) w) R3 N sT (iy<|RQ p).2 with
 |none=>rw[i]at h;cases h
 |some e=>
  rw[i]at h;have l:=AAL i;rw[hs]at l
  dsimp only at h
  cases g:qA p e.abs with
  |none=>rw[g]at h;cases h
  |some s₀=>
   rw[g]at h
   dsimp only at h
   unfold AIY fencedOpening;rw[l];show((qA p e.abs).bind<|topFrom N7 p w N)=D s;rw[g];show topFrom N7 p w N s₀=D s;unfold topFrom;cases q:(s₀.heap.isNs Bg&&AK s₀.gens==0)with
   |false=>rw[q]at h;cases h
   |true=>
    rw[q]at h
    dsimp only at h⊢
    cases d:ofS s₀ with
    |none=>rw[d]at h;cases h
    |some c=>
     rw[d]at h
     dsimp only at h
     cases a:qW (tL (af N7) p w) (AIX (AK s₀.heap.objs)<|s₀.heap.nsMap Bg "__annotations__") N c (topStub p)with
     |none=>rw[a]at h;cases h
     |some s₁=>
      rw[a]at h;have j:=AAN a;rw[AAO d]at j;rw[j]
      dsimp only at h
      show(match staticsOk (NB p.main.body) s₀.heap s₁.abs.heap&&namesBound p s₁.abs.heap&&gensDone s₁.abs&&laidKept s₀.heap s₁.abs.heap with|true=>D s₁.abs|false=>AQ)=D s;exact h
section
set_option backward.match.sparseCases true
set_option tactic.hygienic true
theorem RC{c:Aj}(h0:0<=x)(h:x<(c:Aa)):Bp x<c:=(AFo h0).mpr h
theorem UA{x:Aa}{c:Aj}(h:0<=x/\x<(c:Aa)):Bp x<c:=RC h.1 h.2
theorem ACp{c:Aj}(h0:0<=x)(h:Bp x<c):x<(c:Aa):=(AFo h0).mp h
theorem Pk(h:0<=x):x=(Bp x:Aa):=(Mc h).symm
theorem ADg{a:Aj} : ¬((a:Aa)<0):=Tu.mpr<|Av a
theorem jc{a:Aj} : ¬(0:Aa)<= -(a:Aa)-1:=AIW.mpr<|Tv (Int.sub_le_sub_right (Int.neg_nonpos_of_nonneg<|Av a) 1)<|by decide
theorem WR(a:Aj): -(2^62)<=(a:Aa):=ix (by decide)<|Av a
theorem AAF(a:Aj): -(2^62)<=(a:Aa)+1:=WR<|a+1
theorem WS{a b:Aj}(h:a<=b)(d:b<2^62):(a:Aa)<2^62:=Kd.mpr<|Bj h d
theorem AAG{a b:Aj}(h:a<=b)(d:b+1<2^62):(a:Aa)+1<2^62:=WS (Dk h) d
theorem nP{a b c:Aj}(h:a<b)(e:b<=100)(d:100<=c):(a:Aa)<=(c:Aa):=Iz.mpr<|C7<|Dz h<|AO e d
theorem nQ{b:Aj}(c:Aj)(h:0<=x/\x<(b:Aa))(a:b<=c):0<=x/\x<=(c:Aa):=⟨h.1,I5<|Int.lt_of_lt_of_le h.2<|Iz.mpr a⟩
theorem dg(h:i<n):n-(i+1)<n-i:=Nat.sub_lt_sub_left h<|PC i
theorem jd(h:i<n):n-i=(n-(i+1))+1:=(Nat.succ_sub h).symm.trans (Nat.succ_sub_succ n i)|>.symm▸B
theorem WT(h:0<n):n-1<n:=Nat.sub_lt h Nat.one_pos
theorem SM{a b c:Aj}(h:a+b=c):((c:Aa)-(b:Aa))=(a:Aa):=h▸Tw (a:Aa) (b:Aa)
theorem Vn{a b c k:Aj}(h:b<=k):min (a-c) (b-c)<=k:=AO (PD ..)<|AO (LJ ..) h
theorem AAH{a b c k:Aj}(h:a<=k):min (a-b) c<=k:=AO (MD ..)<|AO (LJ ..) h
theorem AAI(h:a<=b+1):a/2<=b:=AO (Nat.div_le_div_right h)<|VH<|Nat.div_lt_self (Ml b)<|by decide
universe u0 u1 u2 u3 u4 u5 u6 u7 u8 u9 u10
theorem F3{G:Prop}(h:(d/\a))(k:d->a->G):G:=k h.1 h.2
theorem Dx{a:d->Prop}{G:Prop}(h:(∃x0,a x0))(k:∀x0,a x0->G):G:=An h λx0 h0=>k x0 h0
theorem NZ{G:Prop}(h:(e/\(d/\a)))(k:e->d->a->G):G:=k h.1 h.2.1 h.2.2
theorem Ap{e:a->Prop}{d:a->Prop}{G:Prop}(h:(∃x0,(e x0/\d x0)))(k:∀x0,e x0->d x0->G):G:=An h λx0 h0=>k x0 h0.1 h0.2
theorem E0{d:g->e->Prop}{G:Prop}(h:(∃x0,(∃a,d x0 a)))(k:∀x0,∀a,d x0 a->G):G:=An h λx0 h0=>An h0 λa i=>k x0 a i
theorem FD{G:Prop}(h:(e/\(d/\(a/\P3))))(k:e->d->a->P3->G):G:=k h.1 h.2.1 h.2.2.1 h.2.2.2
theorem nR{g:d->Prop}{e:d->Prop}{G:Prop}(h:(i/\(∃a,(g a/\e a))))(k:i->∀a,g a->e a->G):G:=An h.2 λa h1=>k h.1 a h1.1 h1.2
theorem Dg{g:a->Prop}{e:a->Prop}{d:a->Prop}{G:Prop}(h:(∃x0,(g x0/\(e x0/\d x0))))(k:∀x0,g x0->e x0->d x0->G):G:=An h λx0 h0=>k x0 h0.1 h0.2.1 h0.2.2
theorem I9{i:e->d->Prop}{g:e->d->Prop}{G:Prop}(h:(∃x0,(∃a,(i x0 a/\g x0 a))))(k:∀x0,∀a,i x0 a->g x0 a->G):G:=An h λx0 h0=>An h0 λa h1=>k x0 a h1.1 h1.2
theorem nS{e:j->i->g->Prop}{G:Prop}(h:(∃x0,(∃d,(∃a,e x0 d a))))(k:∀x0,∀d,∀a,e x0 d a->G):G:=An h λx0 h0=>An h0 λd q=>An q λa l=>k x0 d a l
theorem WU{g:a->Prop}{e:a->Prop}{d:a->Prop}{P3:a->Prop}{G:Prop}(h:(∃x0,(g x0/\(e x0/\(d x0/\P3 x0)))))(k:∀x0,g x0->e x0->d x0->P3 x0->G):G:=An h λx0 h0=>k x0 h0.1 h0.2.1 h0.2.2.1 h0.2.2.2
theorem LO{i:a->Prop}{g:a->Prop}{e:a->j->Prop}{G:Prop}(h:(∃x0,(i x0/\(g x0/\(∃d,e x0 d)))))(k:∀x0,i x0->g x0->∀d,e x0 d->G):G:=An h λx0 h0=>An h0.2.2 λd l=>k x0 h0.1 h0.2.1 d l
theorem Bk{j:e->d->Prop}{i:e->d->Prop}{g:e->d->Prop}{G:Prop}(h:(∃x0,(∃a,(j x0 a/\(i x0 a/\g x0 a)))))(k:∀x0,∀a,j x0 a->i x0 a->g x0 a->G):G:=An h λx0 h0=>An h0 λa h1=>k x0 a h1.1 h1.2.1 h1.2.2
theorem Hr{l:i->g->e->Prop}{j:i->g->e->Prop}{G:Prop}(h:(∃x0,(∃d,(∃a,(l x0 d a/\j x0 d a)))))(k:∀x0,∀d,∀a,l x0 d a->j x0 d a->G):G:=An h λx0 h0=>An h0 λd q=>An q λa h2=>k x0 d a h2.1 h2.2
theorem Rg{g:q->l->j->i->Prop}{G:Prop}(h:(∃x0,(∃e,(∃d,(∃a,g x0 e d a)))))(k:∀x0,∀e,∀d,∀a,g x0 e d a->G):G:=An h λx0 h0=>An h0 λe v=>An v λd u=>An u λa r=>k x0 e d a r
theorem bI{i:a->Prop}{g:a->Prop}{e:a->Prop}{P3:a->Prop}{d:a->Prop}{G:Prop}(h:(∃x0,(i x0/\(g x0/\(e x0/\(P3 x0/\d x0))))))(k:∀x0,i x0->g x0->e x0->P3 x0->d x0->G):G:=An h λx0 h0=>k x0 h0.1 h0.2.1 h0.2.2.1 h0.2.2.2.1 h0.2.2.2.2
theorem BU{j:e->d->Prop}{i:e->d->Prop}{g:e->d->Prop}{P3:e->d->Prop}{G:Prop}(h:(∃x0,(∃a,(j x0 a/\(i x0 a/\(g x0 a/\P3 x0 a))))))(k:∀x0,∀a,j x0 a->i x0 a->g x0 a->P3 x0 a->G):G:=An h λx0 h0=>An h0 λa h1=>k x0 a h1.1 h1.2.1 h1.2.2.1 h1.2.2.2
theorem FW{q:i->g->e->Prop}{l:i->g->e->Prop}{j:i->g->e->Prop}{G:Prop}(h:(∃x0,(∃d,(∃a,(q x0 d a/\(l x0 d a/\j x0 d a))))))(k:∀x0,∀d,∀a,q x0 d a->l x0 d a->j x0 d a->G):G:=An h λx0 h0=>An h0 λd r=>An r λa h2=>k x0 d a h2.1 h2.2.1 h2.2.2
theorem bJ{i:u->r->q->l->j->Prop}{G:Prop}(h:(∃x0,(∃g,(∃e,(∃d,(∃a,i x0 g e d a))))))(k:∀x0,∀g,∀e,∀d,∀a,i x0 g e d a->G):G:=An h λx0 h0=>An h0 λg z=>An z λe y=>An y λd x=>An x λa v=>k x0 g e d a v
theorem EJ{q:i->g->e->Prop}{l:i->g->e->Prop}{j:i->g->e->Prop}{P3:i->g->e->Prop}{G:Prop}(h:(∃x0,(∃d,(∃a,(q x0 d a/\(l x0 d a/\(j x0 d a/\P3 x0 d a)))))))(k:∀x0,∀d,∀a,q x0 d a->l x0 d a->j x0 d a->P3 x0 d a->G):G:=An h λx0 h0=>An h0 λd r=>An r λa h2=>k x0 d a h2.1 h2.2.1 h2.2.2.1 h2.2.2.2
theorem EX{u:l->j->i->g->Prop}{r:l->j->i->g->Prop}{q:l->j->i->g->Prop}{G:Prop}(h:(∃x0,(∃e,(∃d,(∃a,(u x0 e d a/\(r x0 e d a/\q x0 e d a)))))))(k:∀x0,∀e,∀d,∀a,u x0 e d a->r x0 e d a->q x0 e d a->G):G:=An h λx0 h0=>An h0 λe x=>An x λd v=>An v λa h3=>k x0 e d a h3.1 h3.2.1 h3.2.2
theorem UB{q:e->d->Prop}{l:e->d->Prop}{j:e->d->Prop}{P3:e->d->Prop}{i:e->d->Prop}{g:e->d->Prop}{G:Prop}(h:(∃x0,(∃a,(q x0 a/\(l x0 a/\(j x0 a/\(P3 x0 a/\(i x0 a/\g x0 a))))))))(k:∀x0,∀a,q x0 a->l x0 a->j x0 a->P3 x0 a->i x0 a->g x0 a->G):G:=An h λx0 h0=>An h0 λa h1=>k x0 a h1.1 h1.2.1 h1.2.2.1 h1.2.2.2.1 h1.2.2.2.2.1 h1.2.2.2.2.2
theorem JX{i:Sort y}{g:Sort x}{e:Sort v}{r:i->g->e->Prop}{q:i->g->e->Prop}{l:i->g->e->Prop}{P3:i->g->e->Prop}{j:i->g->e->Prop}{G:Prop}(h:(∃x0,(∃d,(∃a,(r x0 d a/\(q x0 d a/\(l x0 d a/\(P3 x0 d a/\j x0 d a))))))))(k:∀x0,∀d,∀a,r x0 d a->q x0 d a->l x0 d a->P3 x0 d a->j x0 d a->G):G:=An h λx0 h0=>An h0 λd u=>An u λa h2=>k x0 d a h2.1 h2.2.1 h2.2.2.1 h2.2.2.2.1 h2.2.2.2.2
theorem OG{i:Sort z}{g:Sort y}{e:Sort x}{u:i->g->e->Prop}{r:i->g->e->Prop}{q:i->g->e->Prop}{P3:i->g->e->Prop}{l:i->g->e->Prop}{j:i->g->e->Prop}{G:Prop}(h:(∃x0,(∃d,(∃a,(u x0 d a/\(r x0 d a/\(q x0 d a/\(P3 x0 d a/\(l x0 d a/\j x0 d a)))))))))(k:∀x0,∀d,∀a,u x0 d a->r x0 d a->q x0 d a->P3 x0 d a->l x0 d a->j x0 d a->G):G:=An h λx0 h0=>An h0 λd v=>An v λa h2=>k x0 d a h2.1 h2.2.1 h2.2.2.1 h2.2.2.2.1 h2.2.2.2.2.1 h2.2.2.2.2.2
theorem Gv{l:Sort N}{j:Sort L}{i:Sort C}{g:Sort z}{v:l->j->i->g->Prop}{u:l->j->i->g->Prop}{r:l->j->i->g->Prop}{P3:l->j->i->g->Prop}{q:l->j->i->g->Prop}{G:Prop}(h:(∃x0,(∃e,(∃d,(∃a,(v x0 e d a/\(u x0 e d a/\(r x0 e d a/\(P3 x0 e d a/\q x0 e d a)))))))))(k:∀x0,∀e,∀d,∀a,v x0 e d a->u x0 e d a->r x0 e d a->P3 x0 e d a->q x0 e d a->G):G:=An h λx0 h0=>An h0 λe y=>An y λd x=>An x λa h3=>k x0 e d a h3.1 h3.2.1 h3.2.2.1 h3.2.2.2.1 h3.2.2.2.2
theorem MH{C:Sort u0}{z:Sort u1}{y:Sort u2}{x:Sort u3}{v:Sort u4}{u:Sort u5}{r:Sort u6}{q:Sort u7}{L:C->z->y->x->v->u->r->q->Prop}{G:Prop}(h:(∃x0,(∃l,(∃j,(∃i,(∃g,(∃e,(∃d,(∃a,L x0 l j i g e d a)))))))))(k:∀x0,∀l,∀j,∀i,∀g,∀e,∀d,∀a,L x0 l j i g e d a->G):G:=An h λx0 h0=>An h0 λl h1=>An h1 λj h2=>An h2 λi h3=>An h3 λg h4=>An h4 λe Q=>An Q λd O=>An O λa N=>k x0 l j i g e d a N
theorem Kv{r:Sort u0}{q:Sort u1}{l:Sort u2}{j:Sort u3}{i:Sort Q}{C:r->q->l->j->i->Prop}{z:r->q->l->j->i->Prop}{y:r->q->l->j->i->Prop}{P3:r->q->l->j->i->Prop}{x:r->q->l->j->i->Prop}{v:r->q->l->j->i->Prop}{u:r->q->l->j->i->Prop}{G:Prop}(h:(∃x0,(∃g,(∃e,(∃d,(∃a,(C x0 g e d a/\(z x0 g e d a/\(y x0 g e d a/\(P3 x0 g e d a/\(x x0 g e d a/\(v x0 g e d a/\u x0 g e d a))))))))))))(k:∀x0,∀g,∀e,∀d,∀a,C x0 g e d a->z x0 g e d a->y x0 g e d a->P3 x0 g e d a->x x0 g e d a->v x0 g e d a->u x0 g e d a->G):G:=An h λx0 h0=>An h0 λg O=>An O λe N=>An N λd L=>An L λa h4=>k x0 g e d a h4.1 h4.2.1 h4.2.2.1 h4.2.2.2.1 h4.2.2.2.2.1 h4.2.2.2.2.2.1 h4.2.2.2.2.2.2
theorem Cx(h:a∈[b]):a=b:=Tn.mp h
theorem Ew(h:(a&&b)=J):a=J/\b=true:=IZ.mp h
theorem DO(h:a∈b::l):a=b\/a∈l:=CV.mp h
theorem IF{d:Type e}{a:d}{l r:I d}(h:a∈l++r):a∈l\/a∈r:=L5.mp h
theorem Gd(h:o.bind f=D b):∃a,o=D a/\f a=D b:=Option.bind_eq_some_iff.mp h
theorem JY{e:Type i}{d:Type g}{f:e->d}{b:d}{l:I e}(h:b∈l.map f):∃a,a∈l/\f a=b:=iW.mp h
theorem Kz{a:Type d}{p:a->Ba}{l:I a}(h:l.all p=J):∀x,x∈l->p x=true:=Cu.mp h
theorem SN(h:zi o=J):∃a,o=D a:=Option.isSome_iff_exists.mp h
theorem Pl{d:Type e}{l:I d}{i:Aj}{a:d}(h:l[i]? =D a):∃h:i<U l,l[i] =a:=List.getElem?_eq_some_iff.mp h
theorem bK{a b:Aj}(h: ¬a<b):b<=a:=G6.mp h
theorem U0(h:a<n):a∈DL n:=Mv.mpr h
theorem WV(h:U l=0):l=[] :=List.length_eq_zero_iff.mp h
universe v0 v1 v2 v3 v4 v5 v6 v7 v8
theorem CB{e d:a->Prop}(x0:a)(h0:e x0)(g:d x0):∃x0,e x0/\d x0:=⟨x0,h0,g⟩
theorem K0{g e d:a->Prop}(x0:a)(h0:g x0)(i:e x0)(h:d x0):∃x0,g x0/\e x0/\d x0:=⟨x0,h0,i,h⟩
theorem NI{g e d P3:a->Prop}(x0:a)(h0:g x0)(j:e x0)(i:d x0)(h:P3 x0):∃x0,g x0/\e x0/\d x0/\P3 x0:=⟨x0,h0,j,i,h⟩
theorem bL{h g e P3 d:a->Prop}(x0:a)(h0:h x0)(q:g x0)(l:e x0)(j:P3 x0)(i:d x0):∃x0,h x0/\g x0/\e x0/\P3 x0/\d x0:=⟨x0,h0,q,l,j,i⟩
theorem NJ{e:d->a->Prop}(x0:d)(x1:a)(h0:e x0 x1):∃x0 x1,e x0 x1:=⟨x0,x1,h0⟩
theorem RD{g e:d->a->Prop}(x0:d)(x1:a)(h0:g x0 x1)(h:e x0 x1):∃x0 x1,g x0 x1/\e x0 x1:=⟨x0,x1,h0,h⟩
theorem Ki{h g e:d->a->Prop}(x0:d)(x1:a)(h0:h x0 x1)(j:g x0 x1)(i:e x0 x1):∃x0 x1,h x0 x1/\g x0 x1/\e x0 x1:=⟨x0,x1,h0,j,i⟩
theorem AAJ{h g e P3:d->a->Prop}(x0:d)(x1:a)(h0:h x0 x1)(l:g x0 x1)(j:e x0 x1)(i:P3 x0 x1):∃x0 x1,h x0 x1/\g x0 x1/\e x0 x1/\P3 x0 x1:=⟨x0,x1,h0,l,j,i⟩
theorem dh{h:g->e->d->Prop}(x0:g)(a:e)(x2:d)(h0:h x0 a x2):∃x0 a x2,h x0 a x2:=⟨x0,a,x2,h0⟩
theorem Rh{i h:g->e->d->Prop}(x0:g)(a:e)(x2:d)(h0:i x0 a x2)(j:h x0 a x2):∃x0 a x2,i x0 a x2/\h x0 a x2:=⟨x0,a,x2,h0,j⟩
theorem nT{j i h:g->e->d->Prop}(x0:g)(a:e)(x2:d)(h0:j x0 a x2)(q:i x0 a x2)(l:h x0 a x2):∃x0 a x2,j x0 a x2/\i x0 a x2/\h x0 a x2:=⟨x0,a,x2,h0,q,l⟩
theorem WX{j i h P3:g->e->d->Prop}(x0:g)(a:e)(x2:d)(h0:j x0 a x2)(r:i x0 a x2)(q:h x0 a x2)(l:P3 x0 a x2):∃x0 a x2,j x0 a x2/\i x0 a x2/\h x0 a x2/\P3 x0 a x2:=⟨x0,a,x2,h0,r,q,l⟩
theorem OH{j:i->h->g->e->Prop}(x0:i)(d:h)(a:g)(x3:e)(h0:j x0 d a x3):∃x0 d a x3,j x0 d a x3:=⟨x0,d,a,x3,h0⟩
theorem uT{q l j:i->h->g->e->Prop}(x0:i)(d:h)(a:g)(x3:e)(h0:q x0 d a x3)(u:l x0 d a x3)(r:j x0 d a x3):∃x0 d a x3,q x0 d a x3/\l x0 d a x3/\j x0 d a x3:=⟨x0,d,a,x3,h0,u,r⟩
theorem WY{r q l P3 j:i->h->g->e->Prop}(x0:i)(d:h)(a:g)(x3:e)(h0:r x0 d a x3)(y:q x0 d a x3)(x:l x0 d a x3)(v:P3 x0 d a x3)(u:j x0 d a x3):∃x0 d a x3,r x0 d a x3/\q x0 d a x3/\l x0 d a x3/\P3 x0 d a x3/\j x0 d a x3:=⟨x0,d,a,x3,h0,y,x,v,u⟩
theorem nU{q:l->j->i->h->g->Prop}(x0:l)(e:j)(d:i)(a:h)(x4:g)(h0:q x0 e d a x4):∃x0 e d a x4,q x0 e d a x4:=⟨x0,e,d,a,x4,h0⟩
theorem WZ{z:y->x->v->u->r->q->l->j->Prop}(x0:y)(i:x)(h:v)(g:u)(e:r)(d:q)(a:l)(x7:j)(h0:z x0 i h g e d a x7):∃x0 i h g e d a x7,z x0 i h g e d a x7:=⟨x0,i,h,g,e,d,a,x7,h0⟩
end
section
noncomputable abbrev pw:Program:=Qs
noncomputable def A6(i:Aj):Stmt:=(pw.main.body[i]?).getD<|AHd BN
noncomputable def AAQ(e:Ct):I Stmt:=if h:e.ctorIdx=2 then AFp (motive_2:= λ_=>I Ct) e h λ_ _ _ b _ _ _ _ _ _ _=>b else []
noncomputable def Bl(i j:Aj):Stmt:=((AAQ<|A6 i)[j]?).getD<|AHd BN
noncomputable def AF6(e:Ct):Expr:=if h:e.ctorIdx=5 then Gs (motive_2:= λ_=>A2) e h λ_ v _=>v else Bu BN BN
noncomputable def AIs(e:A2):I Expr:=if h:e.ctorIdx=24 then Ln (motive_1:= λ_=>I A2) e h λes _=>es else []
noncomputable def ADi(e:Ct):Str:=if h:e.ctorIdx=0 then G4 (motive_2:= λ_=>Bt) e h λn _ _ _ _ _ _ _ _ _=>n else BN
noncomputable def SO(e:Ct):Arguments:=if h:e.ctorIdx=0 then G4 (motive_2:= λ_=>AFq) e h λ_ ps _ _ _ _ _ _ _ _=>ps else BN
noncomputable def Cc(e:Ct):I Stmt:=if h:e.ctorIdx=0 then G4 (motive_2:= λ_=>I Ct) e h λ_ _ b _ _ _ _ _ _ _=>b else BN
noncomputable def D2(e:Ct):Scope:=if h:e.ctorIdx=0 then G4 (motive_2:= λ_=>R4) e h λ_ _ _ _ _ _ sc _ _ _=>sc else BN
noncomputable def LP(st:Ct)(q:Bt)(Cd:I (Bt×Az))(dflt code a:Am):FuncData:=
 {name:=ADi st,qualname:=q,params:=SO st,body:=KS<|Cc st,scope:=D2 st,globals:=Bg,closure:=Cd,defaults:=dflt,kwdefaults:=AN,code:=code,closureTuple:=a,builtins:=FZ}
noncomputable def Na:Am->Ba
 |.type n=>n== "property"
 |_=>AB
noncomputable def Za(c:Am):Yg->Yg
 |.func f=>IB {f with doc:=AN,pyModule:=AN}
 |.fields vs=>bif Na c then BF (vs.setIfInBounds 3 AN)else BF vs
 |d=>d
noncomputable def U4(o:NU):Obj:=⟨o.cls,o.dict,Za o.cls o.data,o.slots⟩
theorem uU(c:Am)(d:Yg):(Za c d).ctorIdx=d.ctorIdx:=by
 cases d with
 |fields vs=>show(bif Na c then _ else _:Yg).ctorIdx=_;cases Na c<;>rfl
 |_=>rfl
theorem L8{o o':NU}(h:U4 o=o')(e:C8 o'.data.ctorIdx 7=AB)(hp:Na o'.cls=AB):o=o':=by
 rw[<-h]at e hp⊢;obtain⟨c,d,a,g⟩:=o;exact BI (λx=>(⟨c,d,x,g⟩:NU)) (show a=Za c a by
  change C8 (Za c a).ctorIdx 7=AB at e;change Na c=AB at hp;cases a with
  |func f=>cases e
  |fields vs=>show _=(bif Na c then _ else _);rw[hp];rfl
  |_=>rfl)
theorem qY{o o':NU}{f':T1}(h:U4 o=o')(a:o'.data=IB f'):∃f,o.data=IB f/\f'= {f with doc:=AN,pyModule:=AN} :=by rw[<-h]at a;exact AKG (motive:= λd=>Za o.cls d=IB f'->∃f,d=IB f/\f'= {f with doc:=AN,pyModule:=AN}) o.data ((uU o.cls o.data).symm.trans<|BI Data.ctorIdx a) (λf e=>(CB f B<|(AKH e).symm)) a
noncomputable def uV(e:A2):I UInt8:=if h:e.ctorIdx=19 then DK (motive_1:= λ_=>I BB) e h λa _ _=>(match a with|.bytes b=>b|_=>BN)else BN
noncomputable def GA:I (I BB):=(AIs<|AF6<|A6 70).map uV
noncomputable def L9:I (I BB)->Aj->I Am
 |[],_=>[]
 |b::r,t=>D0 (AU b) t::L9 r (t+1)
noncomputable def cO(n q:String)(t:Nat)(l k z y f:Int)(r:Nat)(a b c:Value)(u:Int)(d:Nat):Obj:=⟨.type "code",none,.fields #[.str (.ofString n) t,.str (.ofString q)<|t+1,.str (.ofString "/claim/cut.py")<|t+2,.int l 0,.int k 0,.int z 0,.int y 0,.int f 0,.ref r,.bool true,.int 316 0,.ref<|r+1,.none,a,b,c,.int u 0,.int l 0,.str (.ofString "/claim/cut.py")<|t+d],#[]⟩
noncomputable def cR(n q:String)(t:Nat)(l k z y f:Int)(r:Nat)(u:Int)(d:Nat):Obj:=cO n q t l k z y f r (.ref<|r+2) (.ref<|r+3) (.ref<|r+4) u d
noncomputable def cN(n q:String)(t:Nat)(l k z y f:Int)(r:Nat)(u:Int)(d:Nat):Obj:=cO n q t l k z y f r .none .none (.ref<|r+2) u d
noncomputable def fO(st:Stmt)(q:String)(Cd:List (Str×Addr))(d:Value)(c:Addr)(ct:Value):Obj:=⟨.type "function",none,.func<|LP st (.ofString q) Cd d (.ref c) ct,#[]⟩
noncomputable def kE(x:String)(n:Nat)(v:Value):DictEntry:= {hash:=0,key:=.str (.ofString x) n,val:=v}
noncomputable def Lb:I Nat:=[1013,1012,1020,1019,1027,1026,1034,1033,1139,1138,1146,1145,1208,1207,1215,1214,1222,1221,1227,1226,1234,1233,1241,1240,1248,1247,1255,1254,1262,1261,1267,1266,1272,1271,1277,1276,1136,1257,1269,1134,434,512,1087,1129,1198,1048,1047,1056,1055,1049,1105,1104,1112,1111,1119,1118,1126,1125,1160,1159,358,357,365,364,372,371,379,378,386,385,454,453,471,461,460,470,469,488,478,477,487,486,495,494,502,501,509,508,442,447]
noncomputable def K1:I Obj:=[
 fO (A6 57) "_can_merge_lines" [] AN 1012 AN,
 cR "_can_merge_lines" "_can_merge_lines" 1728 948 3 0 0 3 1007 1734 7,
 fO (A6 58) "_merge3_to_bytes" [] AN 1019 AN,
 cR "_merge3_to_bytes" "_merge3_to_bytes" 1738 956 1 0 0 3 1014 1748 11,
 fO (A6 59) "_merge_lines" [] AN 1026 AN,
 cR "_merge_lines" "_merge_lines" 1752 980 3 0 0 3 1021 1758 7,
 fO (A6 60) "merge_blobs" [] AN 1033 AN,
 cR "merge_blobs" "merge_blobs" 1762 988 4 0 0 3 1028 1775 14,
 fO (A6 65) "_find_lcas" [] (AH 1134) 1138 AN,
 cN "_find_lcas" "_find_lcas" 1933 1120 6 0 0 3 1135 1936 4,
 fO (A6 66) "find_merge_base" [] AN 1145 AN,
 cR "find_merge_base" "find_merge_base" 1940 1212 4 0 0 3 1140 1950 11,
 fO (A6 71) "_law_rows" [] AN 1207 AN,
 cN "_law_rows" "_law_rows" 2049 1278 2 0 0 3 1204 2052 4,
 fO (A6 72) "_law_turns" [] AN 1214 AN,
 cR "_law_turns" "_law_turns" 2055 1285 2 0 0 3 1209 2061 7,
 fO (A6 73) "_law_state" [] AN 1221 AN,
 cR "_law_state" "_law_state" 2064 1290 3 0 0 3 1216 2072 9,
 fO (A6 74) "_law_text" [] AN 1226 AN,
 cN "_law_text" "_law_text" 2075 1296 2 0 0 3 1223 2078 4,
 fO (A6 75) "_law_pieces" [] AN 1233 AN,
 cR "_law_pieces" "_law_pieces" 2081 1298 2 0 0 3 1228 2087 7,
 fO (A6 76) "_law_blob" [] AN 1240 AN,
 cR "_law_blob" "_law_blob" 2090 1301 2 0 0 3 1235 2096 7,
 fO (A6 77) "_law_name" [] AN 1247 AN,
 cR "_law_name" "_law_name" 2099 1305 1 0 0 3 1242 2103 5,
 fO (A6 78) "_law_cut" [] AN 1254 AN,
 cR "_law_cut" "_law_cut" 2106 1307 2 0 0 3 1249 2113 8,
 fO (A6 79) "_law_differ" [] AN 1261 AN,
 cR "_law_differ" "_law_differ" 2116 1315 2 0 0 3 1256 2124 9,
 fO (A6 80) "_law_due" [] AN 1266 AN,
 cN "_law_due" "_law_due" 2127 1333 4 0 0 3 1263 2130 4,
 fO (A6 81) "_law_fold" [] AN 1271 AN,
 cN "_law_fold" "_law_fold" 2133 1358 2 0 0 3 1268 2136 4,
 fO (A6 82) "law" [] AN 1276 AN,
 cN "law" "law" 2139 1385 1 0 0 3 1273 2142 4,
 ⟨AN,AQ,BF #[],#[]⟩,
 ⟨AN,AQ,BF #[],#[]⟩,
 ⟨AN,AQ,BF #[],#[]⟩,
 ⟨Ae "tuple",AQ,Gz #[EF 0 1932,AN],#[]⟩,
 ⟨Ae "type",AQ,YS {name:=S "ShaFile",bases:=[Ae "object"],mro:=[AH 434,Ae "object"],ns:=433,qualname:=S "ShaFile",subclasses:=[AH 512,AH 733,AH 1004] },#[AQ,AQ,D<|Bz (S "ShaFile") 774,D<|Bz (S "ShaFile") 782,D<|AS "object.__new__",D<|FH J]⟩,
 ⟨Ae "type",AQ,YS {name:=S "Blob",bases:=[AH 434],mro:=[AH 512,AH 434,Ae "object"],ns:=511,qualname:=S "Blob" },#[D (AH 439),AQ,D<|Bz (S "Blob") 903,D<|Bz (S "Blob") 911,D<|AS "object.__new__",D<|FH J]⟩,
 ⟨Ae "type",AQ,YS {name:=S "Merger",bases:=[Ae "object"],mro:=[AH 1087,Ae "object"],ns:=1086,qualname:=S "Merger" },#[AQ,AQ,D<|Bz (S "Merger") 1780,D<|Bz (S "Merger") 1788,D<|AS "object.__new__",D<|FH J]⟩,
 ⟨Ae "type",AQ,YS {name:=S "WorkList",bases:=[Ae "object"],mro:=[AH 1129,Ae "object"],ns:=1128,qualname:=S "WorkList" },#[AQ,AQ,D<|Bz (S "WorkList") 1869,D<|Bz (S "WorkList") 1877,D<|AS "object.__new__",D<|FH J]⟩,
 ⟨Ae "type",AQ,YS {name:=S "MemoryObjectStore",bases:=[Ae "object"],mro:=[AH 1198,Ae "object"],ns:=1197,qualname:=S "MemoryObjectStore" },#[AQ,AQ,D<|Bz (S "MemoryObjectStore") 1956,D<|Bz (S "MemoryObjectStore") 1964,D<|AS "object.__new__",D<|FH J]⟩,
 fO (Bl 62 1) "Merger.__init__" [] AN 1047 AN,
 cR "__init__" "Merger.__init__" 1795 1046 3 0 0 3 1042 1801 7,
 fO (Bl 62 2) "Merger.merge_blobs" [] (AH 1049) 1055 AN,
 cR "merge_blobs" "Merger.merge_blobs" 1805 1058 5 0 0 3 1050 1813 9,
 ⟨Ae "tuple",AQ,Gz #[AN],#[]⟩,
 fO (Bl 64 1) "WorkList.__init__" [] AN 1104 AN,
 cR "__init__" "WorkList.__init__" 1884 1087 1 0 0 3 1099 1888 5,
 fO (Bl 64 2) "WorkList.add" [] AN 1111 AN,
 cR "add" "WorkList.add" 1892 1091 2 0 0 3 1106 1899 8,
 fO (Bl 64 3) "WorkList.get" [] AN 1118 AN,
 cR "get" "WorkList.get" 1903 1100 1 0 0 3 1113 1910 8,
 fO (Bl 64 4) "WorkList.iter" [] AN 1125 AN,
 cR "iter" "WorkList.iter" 1914 1112 1 0 0 35 1120 1920 7,
 fO (Bl 68 1) "MemoryObjectStore.__init__" [] AN 1159 AN,
 cR "__init__" "MemoryObjectStore.__init__" 1971 1235 2 0 0 3 1154 1976 6,
 fO (Bl 39 1) "ShaFile.__init__" [] AN 357 AN,
 cR "__init__" "ShaFile.__init__" 789 208 1 0 0 3 352 793 5,
 fO (Bl 39 2) "ShaFile.as_raw_chunks" [] AN 364 AN,
 cR "as_raw_chunks" "ShaFile.as_raw_chunks" 797 215 1 0 0 3 359 801 5,
 fO (Bl 39 3) "ShaFile.as_raw_string" [] AN 371 AN,
 cR "as_raw_string" "ShaFile.as_raw_string" 805 227 1 0 0 3 366 809 5,
 fO (Bl 39 4) "ShaFile.set_raw_string" [] AN 378 AN,
 cR "set_raw_string" "ShaFile.set_raw_string" 813 234 2 0 0 3 373 818 6,
 fO (Bl 39 5) "ShaFile.set_raw_chunks" [] AN 385 AN,
 cR "set_raw_chunks" "ShaFile.set_raw_chunks" 822 240 2 0 0 3 380 827 6,
 fO (Bl 40 3) "Blob.__init__" [(S "__class__",442)] AN 453 (AH 447),
 cR "__init__" "Blob.__init__" 922 289 1 0 0 3 448 927 6,
 ⟨Ae "property",AQ,BF #[AH 461,AH 470,AN,AN,Bz (S "data") 939,FH J],#[]⟩,
 fO (Bl 40 4) "Blob.data" [] AN 460 AN,
 cR "data" "Blob.data" 931 295 1 0 0 3 455 935 5,
 fO (Bl 40 5) "Blob.data" [] AN 469 AN,
 cR "data" "Blob.data" 941 300 2 0 0 3 464 946 6,
 ⟨Ae "property",AQ,BF #[AH 478,AH 487,AN,AN,Bz (S "chunked") 958,FH J],#[]⟩,
 fO (Bl 40 6) "Blob.chunked" [] AN 477 AN,
 cR "chunked" "Blob.chunked" 950 304 1 0 0 3 472 954 5,
 fO (Bl 40 7) "Blob.chunked" [] AN 486 AN,
 cR "chunked" "Blob.chunked" 960 310 2 0 0 3 481 965 6,
 fO (Bl 40 8) "Blob._serialize" [] AN 494 AN,
 cR "_serialize" "Blob._serialize" 969 314 1 0 0 3 489 973 5,
 fO (Bl 40 9) "Blob._deserialize" [] AN 501 AN,
 cR "_deserialize" "Blob._deserialize" 976 318 2 0 0 3 496 981 6,
 fO (Bl 40 10) "Blob.splitlines" [] AN 508 AN,
 cR "splitlines" "Blob.splitlines" 984 321 1 0 0 3 503 994 11,
 ⟨Ae "cell",AQ,mu<|D<|AH 512,#[]⟩,
 ⟨Ae "tuple",AQ,Gz #[AH 442],#[]⟩]
noncomputable def Zd:I (Bt×AW Am):=[(S "heappop",D<|AS "_heapq.heappop"),(S "heappush",D<|AS "_heapq.heappush"),(S "_law_table",D<|AH 1203),(S "Blob",D<|AH 512),(S "Merger",D<|AH 1087),(S "WorkList",D<|AH 1129),(S "MemoryObjectStore",D<|AH 1198),(S "SHA1",D<|AH 111),(S "DEFAULT_OBJECT_FORMAT",D<|AH 111),(S "_can_merge_lines",D<|AH 1013),(S "_merge3_to_bytes",D<|AH 1020),(S "_merge_lines",D<|AH 1027),(S "merge_blobs_merge",D<|AH 1034),(S "merge_blobs",D<|AH 1034),(S "_find_lcas",D<|AH 1139),(S "find_merge_base",D<|AH 1146),(S "_law_rows",D<|AH 1208),(S "_law_turns",D<|AH 1215),(S "_law_state",D<|AH 1222),(S "_law_text",D<|AH 1227),(S "_law_pieces",D<|AH 1234),(S "_law_blob",D<|AH 1241),(S "_law_name",D<|AH 1248),(S "_law_cut",D<|AH 1255),(S "_law_differ",D<|AH 1262),(S "_law_due",D<|AH 1267),(S "_law_fold",D<|AH 1272),(S "law",D<|AH 1277),(S "len",AQ),(S "range",AQ),(S "bytes",AQ),(S "sum",AQ),(S "zip",AQ),(S "divmod",AQ),(S "isinstance",AQ),(S "bool",AQ),(S "list",AQ),(S "ValueError",AQ),(S "KeyError",AQ),(S "super",AQ)]
noncomputable def uW:Yg->Yg
 |.dict es n=>Gr (es.map λe=>⟨0,e.key,e.val⟩) n
 |d=>d
noncomputable def nW(o:NU):Obj:=⟨o.cls,o.dict,uW o.data,o.slots⟩
noncomputable def UE:I Nat:=[433,511,1086,1128,1197]
noncomputable def UG:I Obj:=[
 ⟨Ae "dict",AQ,Gr #[kE "__module__" 781 (Bz (S "dulwich.objects") 622),kE "__firstlineno__" 785<|EF 205 784,kE "__doc__" 787<|Bz (S "A git SHA file.") 786,kE "__init__" 796<|AH 358,kE "as_raw_chunks" 804<|AH 365,kE "as_raw_string" 812<|AH 372,kE "set_raw_string" 821<|AH 379,kE "set_raw_chunks" 830<|AH 386,kE "from_string" 850<|AH 395,kE "_check_has_member" 860<|AH 403,kE "_header" 867<|AH 410,kE "raw_length" 874<|AH 417,kE "copy" 883<|AH 424,kE "get_id" 891<|AH 431,kE "__static_attributes__" 896<|AH 432,kE "__dict__" 898<|AH 435,kE "__weakref__" 900<|AH 436] 3,#[]⟩,
 ⟨Ae "dict",AQ,Gr #[kE "__module__" 910 (Bz (S "dulwich.objects") 622),kE "__firstlineno__" 914<|EF 284 913,kE "__doc__" 916<|Bz (S "A Git Blob object.") 915,kE "type_name" 919<|D0 #[98,108,111,98] 918,kE "type_num" 921<|EF 3 920,kE "__init__" 930<|AH 454,kE "data" 939<|AH 471,kE "chunked" 958<|AH 488,kE "_serialize" 975<|AH 495,kE "_deserialize" 983<|AH 502,kE "splitlines" 997<|AH 509,kE "__static_attributes__" 1000<|AH 510] 2,#[]⟩,
 ⟨Ae "dict",AQ,Gr #[kE "__module__" 1787 (Bz (S "dulwich.merge") 1726),kE "__firstlineno__" 1791<|EF 1043 1790,kE "__doc__" 1793<|Bz (S "Handles git merge operations.") 1792,kE "__init__" 1804<|AH 1048,kE "merge_blobs" 1816<|AH 1056,kE "merge_trees" 1826<|AH 1063,kE "_load_tree" 1834<|AH 1070,kE "_record_conflict" 1845<|AH 1077,kE "_merge_trees" 1856<|AH 1084,kE "__static_attributes__" 1860<|AH 1085,kE "__dict__" 1862<|AH 1088,kE "__weakref__" 1864<|AH 1089] 3,#[]⟩,
 ⟨Ae "dict",AQ,Gr #[kE "__module__" 1876 (Bz (S "dulwich.graph") 1867),kE "__firstlineno__" 1880<|EF 1084 1879,kE "__doc__" 1882<|Bz (S "Priority queue for commit processing using a min-heap.") 1881,kE "__init__" 1891<|AH 1105,kE "add" 1902<|AH 1112,kE "get" 1913<|AH 1119,kE "iter" 1923<|AH 1126,kE "__static_attributes__" 1925<|AH 1127,kE "__dict__" 1927<|AH 1130,kE "__weakref__" 1929<|AH 1131] 3,#[]⟩,
 ⟨Ae "dict",AQ,Gr #[kE "__module__" 1963 (Bz (S "dulwich.object_store") 1954),kE "__firstlineno__" 1967<|EF 1232 1966,kE "__doc__" 1969<|Bz (S "Object store that keeps all objects in memory.") 1968,kE "__init__" 1979<|AH 1160,kE "_to_hexsha" 1987<|AH 1167,kE "contains_loose" 1995<|AH 1174,kE "get_raw" 2003<|AH 1181,kE "__getitem__" 2012<|AH 1188,kE "add_object" 2020<|AH 1195,kE "__static_attributes__" 2023<|AH 1196,kE "__dict__" 2025<|AH 1199,kE "__weakref__" 2027<|AH 1200] 3,#[]⟩]
noncomputable def Nb:Aj->I NU->I Aj->I (Aj×NU)
 |_,[],_=>[]
 |_,_::_,[] =>[]
 |i,o::os,a::as=>match C8 a i with
  |true=>(a,o)::Nb (i+1) os as
  |false=>Nb (i+1) os (a::as)
theorem di:Nb d [] a=([]):=B
theorem iT:Nb e (d::a) [] =([]):=B
theorem Wa:Nb i (o::d) (a::as)=(match C8 a i with
  |true=>(a,o)::Nb (i+1) d as
  |false=>Nb (i+1) d (a::as)):=B
noncomputable def AF7(a:Aj):I Aj->I Aj
 |[] =>[a]
 |b::l=>match EV a b with|true=>a::b::l|false=>b::AF7 a l
noncomputable def uX:I Aj->I Aj
 |[] =>[]
 |a::l=>AF7 a (uX l)
noncomputable def uY(p:Aj×NU):I (Aj×NU)->I (Aj×NU)
 |[] =>[p]
 |q::l=>match EV p.1 q.1 with|true=>p::q::l|false=>q::uY p l
noncomputable def dj:I (Aj×NU)->I (Aj×NU)
 |[] =>[]
 |a::l=>uY a (dj l)
noncomputable def uZ(f:NU->NU)(l:I (Aj×NU)):I (Aj×NU):=l.map λp=>(p.1,f p.2)
abbrev Obs:=I (Aj×NU)×I (AW Am)×I (Aj×NU)×I (Aj×NU)×Aj×Ba×AW Am
noncomputable def tJ(s:Bq):Obs:=(uZ U4<|Nb 0 s.heap.objs.toList<|uX Lb,Zd.map λp=>s.heap.nsMap Bg p.1,uZ nW<|Nb 0 s.heap.objs.toList<|uX UE,Nb 0 s.heap.objs.toList [1203],AK s.heap.objs,s.heap.isNs iz,s.heap.nsMap iz "thirdparty.any")
noncomputable def tK(w:dB):Obs:=(dj<|Lb.zip K1,Zd.map (·.2),dj<|UE.zip UG,[(1203,{cls:=Ae "list",data:=Gz (L9 GA 2032).toArray})],1278,J,AQ)
noncomputable def vq:Program:=view pw [0,82]
noncomputable def QS:I Str:=[S "_wall",S "_pe_name",S "FileFormatException",S "ObjectFormatException",S "ObjectFormat",S "SHA1",S "DEFAULT_OBJECT_FORMAT",S "_Stat",S "stat",S "_digit",S "_Binascii",S "binascii",S "ObjectID",S "RawObjectID",S "cast",S "BytesIO",S "_tuplegetter",S "_TREE_HEADER",S "_PARENT_HEADER",S "_AUTHOR_HEADER",S "_COMMITTER_HEADER",S "_ENCODING_HEADER",S "_GPGSIG_HEADER",S "S_IFGITLINK",S "MAX_TIME",S "sha_to_hex",S "hex_to_sha",S "valid_hexsha",S "check_hexsha",S "check_identity",S "check_time",S "git_line",S "is_commit",S "is_tree",S "ShaFile",S "Blob",S "_parse_message",S "_format_message",S "TreeEntry",S "parse_tree",S "serialize_tree",S "sorted_tree_items",S "key_entry",S "key_entry_name_order",S "Tree",S "parse_timezone",S "format_timezone",S "parse_time_entry",S "format_time_entry",S "_parse_commit",S "Commit",S "_can_merge_lines",S "_merge3_to_bytes",S "_merge_lines",S "merge_blobs",S "merge_blobs_merge",S "Merger",S "WorkList",S "_find_lcas",S "find_merge_base",S "MemoryObjectStore",S "_law_table",S "_law_rows",S "_law_turns",S "_law_state",S "_law_text",S "_law_pieces",S "_law_blob",S "_law_name",S "_law_cut",S "_law_differ",S "_law_due",S "_law_fold"]
end
theorem EN{P:Prop}(h:AQ=D a):P:=nomatch h
theorem Tt{P:Prop}(h:D a=AQ):P:=nomatch h
theorem nY{P:Prop}(h:J=AB):P:=nomatch h
theorem Pm{P:Prop}(h:AB=J):P:=nomatch h
inductive DV where
 |none
 |bool (b:Ba)
 |int (i:Aa)
 |str (x:Bt)
 |bytes (b:I BB)
 |tup (ds:I DV)
 |lst (ds:I DV)
 |val (v:Am)
 |Ft (ks:I (I BB)) (ds:I DV)
 |Cd (k:Aj) (ds:I DV)
 |inst (C:Az) (ns:I Bt) (ds:I DV)
open Mine.DV renaming bool->BZ,bytes->AJ,Cd->EG,Ft->EL,inst->YT,int->AM,lst->AL,none->BK,str->Fu,tup->FI,val->Ah
theorem Em[Decidable c]{f:c->AW d}(h:(if q:c then f q else AQ)=D a):∃q,f q=D a:=by
 split at h
 ·exact⟨_,h⟩
 ·exact EN h
noncomputable def ua(x:DV):AW Bool:=if h:x.ctorIdx=1 then DV.bool.elim (motive_1:= λ_=>AW Ba) x h λi=>D i else AQ
theorem dm(h:ua x=D r):x=BZ r:=
 let⟨q,h⟩:=Em h
 DV.bool.elim (motive_1:= λx=> ∀q,DV.bool.elim (motive_1:= λ_=>AW Ba) x q (λi=>D i)=D r->x=BZ r) x q (λi q h=>AE h▸B) q h
noncomputable def Ld(x:DV):AW Int:=if h:x.ctorIdx=2 then DV.int.elim (motive_1:= λ_=>AW Aa) x h λi=>D i else AQ
theorem G8(h:Ld x=D r):x=AM r:=
 let⟨q,h⟩:=Em h
 DV.int.elim (motive_1:= λx=> ∀q,DV.int.elim (motive_1:= λ_=>AW Aa) x q (λi=>D i)=D r->x=AM r) x q (λi q h=>AE h▸B) q h
noncomputable def ACq(x:DV):AW Str:=if h:x.ctorIdx=3 then DV.str.elim (motive_1:= λ_=>AW Bt) x h λi=>D i else AQ
theorem ub(h:ACq x=D r):x=Fu r:=
 let⟨q,h⟩:=Em h
 DV.str.elim (motive_1:= λx=> ∀q,DV.str.elim (motive_1:= λ_=>AW Bt) x q (λi=>D i)=D r->x=Fu r) x q (λi q h=>AE h▸B) q h
noncomputable def dn(x:DV):AW (I BB):=if h:x.ctorIdx=4 then DV.bytes.elim (motive_1:= λ_=>AW<|I BB) x h λi=>D i else AQ
theorem SP(h:dn x=D r):x=AJ r:=
 let⟨q,h⟩:=Em h
 DV.bytes.elim (motive_1:= λx=> ∀q,DV.bytes.elim (motive_1:= λ_=>AW<|I BB) x q (λi=>D i)=D r->x=AJ r) x q (λi q h=>AE h▸B) q h
noncomputable def SQ(x:DV):AW (I DV):=if h:x.ctorIdx=5 then DV.tup.elim (motive_1:= λ_=>AW<|I DV) x h λi=>D i else AQ
theorem Nc(h:SQ x=D r):x=FI r:=
 let⟨q,h⟩:=Em h
 DV.tup.elim (motive_1:= λx=> ∀q,DV.tup.elim (motive_1:= λ_=>AW<|I DV) x q (λi=>D i)=D r->x=FI r) x q (λi q h=>AE h▸B) q h
noncomputable def U5(x:DV):AW (I DV):=if h:x.ctorIdx=6 then DV.lst.elim (motive_1:= λ_=>AW<|I DV) x h λi=>D i else AQ
theorem MI(h:U5 x=D r):x=AL r:=
 let⟨q,h⟩:=Em h
 DV.lst.elim (motive_1:= λx=> ∀q,DV.lst.elim (motive_1:= λ_=>AW<|I DV) x q (λi=>D i)=D r->x=AL r) x q (λi q h=>AE h▸B) q h
def Up(h:Dw)(X:Az->Prop)(h':Dw)(X':Az->Prop):Prop:= ∀a o,AA h a=D o-> ¬X a->AA h' a=D o/\ ¬X' a
structure Th where
 w:dB
 H1:Dw
 os:OsState
 mg:Bt->AW Am
 mb:Bt->AW Am
 Tab:Az->Prop
 iP:Az->Ef Am->Dw->Prop
 ae:Aj->Dw->(Az->Prop)->Az->I Az->Prop
 gp:Ef zj->Prop
noncomputable abbrev prog:Program:=Qs
noncomputable abbrev M(T:Th):Model:=Gi prog T.w
section
variable(T:Th)
def C1(h h':Dw):Prop:=(∀a o,¬T.Tab a->AA h a=D o->AA h' a=D o)
structure Cm(s:Bq):Prop where
 ext:C1 T T.H1 s.heap
 tab:∀a,T.Tab a->∃vs,AA s.heap a=D (T2 vs)/\T.iP a vs s.heap
 os:s.os=T.os
 gens:T.gp s.gens
structure Cr:Prop where
 tabs:∀a,T.Tab a->∃vs,AA T.H1 a=D (T2 vs)/\zm T.H1 a
 Us:∀a vs h h',T.iP a vs h->(∀b o fs,AA h b=D o->o.cls=Ae "code" ->o.data=BF fs->AA h' b=D o)->T.iP a vs h'
 ACT: ¬T.Tab iz
 lim:T.H1.NoLimit
 g:T.H1.Ns Bg T.mg
 b:T.H1.Ns FZ T.mb
 gt: ¬T.Tab Bg
 bt: ¬T.Tab FZ
 boot:∀x:Bt,x≠ "__name__" ->T.mb x=uB x
 ml:∀k h X a cs,T.ae k h X a cs->∃o,AA h a=D o
 Cd:∀k h X h' X' a cs,T.ae k h X a cs->Up h X h' X'->T.ae k h' X' a cs
end
structure Le(n:Aj)(A:Hk):Prop where
 handled:A.handled=AQ
 depth:A.depth+n<AIZ
 units:A.units+10*n+10<tM
theorem Le.mono(x:Le n A)(h:m<=n):Le m A:=⟨x.handled,Bj (F0 h _) x.depth,Bj (RT (F0 (Me 10 h) _) _) x.units⟩
theorem AF8(h:u+10*(n+1)+10<c):u+3+10*n+10<c:=Pj [_,_,_] [.t (.a (.a A9<|.m 10<|.a BQ DB)<|.n 10) B5] (.a (.a (.a A9<|.n 3)<|.m 10 BQ)<|.n 10) B5 [1] B h
theorem AIt(h:d+(n+1)<c):d+1+n<c:=by rw[Nat.add_assoc,Pb 1 n];exact h
theorem Le.deeper(x:Le (n+1) A)(env:Pc):Le n (A.deeper env):=⟨x.handled,AIt x.depth,AF8 x.units⟩
theorem Le.in1(x:Le (n+1) A):Le n A.in1:=⟨x.handled,Bj (F0 (Ej n) _) x.depth,Bj (RT (RT (F0 (by decide) _) _) _)<|AF8 x.units⟩
theorem Le.room(x:Le (n+1) A):A.depth<recursionLimit:=Bj (Ci _ _) x.depth
theorem C1.refl(h:Dw):C1 T h h:= λ_ _ _ e=>e
theorem C1.trans(x:C1 T h h')(y:C1 T h' h''):C1 T h h'':= λa o n e=>y a o n<|x a o n e
theorem C1.of_keeps(k:∀b o,AA h b=D o->AA h' b=D o):C1 T h h':= λa o _ e=>k a o e
theorem Cm.keeps(h:Cm T s)(O:Cr T)(k:∀b o,AA s.heap b=D o->AA s'.heap b=D o)(i:s'.os=s.os:=by rfl)(j:s'.gens=s.gens:=by rfl):Cm T s' where
 ext:=h.ext.trans<|C1.of_keeps k
 tab:= λa u=>(by refine Ap (h.tab a u) λvs e t=>?_;exact(CB vs (k _ _ e)<|O.Us a vs _ _ t λb o _ e _ _=>k b o e))
 os:=i.trans h.os
 gens:=j▸h.gens
theorem Cm.DI(h:Cm T s)(e:AA s.heap a=D o)(u:o.cls≠AN): ¬T.Tab a:= λj=>by refine Ap (h.tab a j) λvs i _=>?_;rw[e]at i;obtain rfl:=AE i;exact u B
theorem Cm.lim(h:Cm T s)(O:Cr T):s.heap.NoLimit:=
 (by(refine Ap O.lim λj i q=>?_;obtain⟨o,es,y,u,r⟩:=i);exact⟨j,⟨o,es,y,h.ext _ _ O.ACT u,r⟩,q⟩)
theorem Cm.g(h:Cm T s)(O:Cr T):s.heap.Ns Bg T.mg:=(by refine Hr O.g λo es j i r=>?_;exact⟨o,es,j,h.ext _ _ O.gt i,r⟩)
theorem Cm.b(h:Cm T s)(O:Cr T):s.heap.Ns FZ T.mb:=(by refine Hr O.b λo es j i r=>?_;exact⟨o,es,j,h.ext _ _ O.bt i,r⟩)
theorem Cm.toks(h:Cm T s)(tk:Aj):Cm T {s with toks:=tk} :=⟨h.ext,h.tab,h.os,h.gens⟩
def JA(h:Dw)(a d C:Az)(ns:I Bt)(vs:I Am):Prop:=
 ∃es n g,AA h a=D ⟨AH C,D d,tN,g⟩/\AA h d=D (Hl es n)/\es.map (·.val)=vs/\Ds (λe n=> ∃t,e.key=Bz n t) es ns
def VL(T:Th)(h:Dw)(a:Az)(ks:I (I BB))(vs:I Am):Prop:=
 ∃kvs,h.DictOf (ah prog T.w) a kvs/\U kvs<=U ks/\U ks=U vs/\(∀k,Jf kvs k=(ks.zip vs).lookup k)/\(a==sysModules)=AB
theorem VL.mapOf(x:VL T h a ks vs):h.MapOf (ah prog T.w) a (λk=>(ks.zip vs).lookup k):=by refine bI x λi d _ _ e _=>?_;have:=d.mapOf;rwa[show Jf i=λk=>(ks.zip vs).lookup k from uC e]at this
theorem VL.up(x:VL T h a ks vs)(k:∀o,AA h a=D o->AA h' a=D o):VL T h' a ks vs:=by
 (refine Ap x λj i q=>?_;obtain⟨o,es,y,u,r⟩:=i)
 exact⟨j,⟨o,es,y,k o u,r⟩,q⟩
theorem VL.obj(x:VL T h a ks vs):∃o es j,AA h a=D o/\o.data=Gr es j/\o.dict=none:=by
 (refine Ap x λu i q=>?_;obtain⟨o,es,j,y,hx,C,_⟩:=i)
 exact(nT o es j y C hx.2.1)
mutual
inductive Tr (T:Th) (h:Dw) (X:Az->Prop):DV->Am->Prop
 |none:Tr T h X BK AN
 |bool (b:Ba):Tr T h X (BZ b) (FH b)
 |int (i:Aa) (t:Tok):Tr T h X (AM i) (EF i t)
 |str (x:Bt) (t:Tok):Tr T h X (Fu x) (Bz x t)
 |bytes (b:I BB) (t:Tok):Tr T h X (AJ b) (D0 b.toArray t)
 |val (v:Am):Tr T h X (Ah v) v
 |tup {a:Az} {vs:I Am} {ds:I DV} :zp h a vs.toArray-> ¬X a->A8 T h X ds vs->Tr T h X (FI ds) (AH a)
 |lst {a:Az} {vs:I Am} {ds:I DV} :h.IsList a vs.toArray-> ¬X a->A8 T h X ds vs->Tr T h X (AL ds) (AH a)
 |Ft {a:Az} {ks:I (I BB)} {vs:I Am} {ds:I DV} :VL T h a ks vs-> ¬X a->A8 T h X ds vs->Tr T h X (EL ks ds) (AH a)
 |Cd {a:Az} {k:Aj} {cs:I Az} {vs:I Am} {ds:I DV} :T.ae k h X a cs->Ds (λc v=>h.IsCell c (D v)) cs vs-> ¬X a->(∀c∈cs,¬X c)->A8 T h X ds vs->Tr T h X (EG k ds) (AH a)
 |inst {a dx C:Az} {ns:I Bt} {vs:I Am} {ds:I DV} :JA h a dx C ns vs-> ¬X a-> ¬X dx->A8 T h X ds vs->Tr T h X (YT C ns ds) (AH a)
inductive A8 (T:Th) (h:Dw) (X:Az->Prop):I DV->I Am->Prop
 |nil:A8 T h X [] []
 |cons {d:DV} {v:Am} {ds:I DV} {vs:I Am} :Tr T h X d v->A8 T h X ds vs->A8 T h X (d::ds) (v::vs)
end
open Mine.A8 renaming cons->Cw,nil->E4
open Mine.Tr renaming bool->zK,bytes->Vc,int->dC,lst->dD,none->YU,val->ACX
def TrP(T:Th)(h:Dw)(X:Az->Prop)(v:Am):DV->Prop
 |.none=>v=AN
 |.bool b=>v=FH b
 |.int i=> ∃t,v=EF i t
 |.str x=> ∃t,v=Bz x t
 |.bytes b=> ∃t,v=D0 (AU b) t
 |.val w=>v=w
 |.tup ds=> ∃a vs,v=AH a/\zp h a (AU vs)/\ ¬X a/\A8 T h X ds vs
 |.lst ds=> ∃a vs,v=AH a/\h.IsList a (AU vs)/\ ¬X a/\A8 T h X ds vs
 |.Ft ks ds=> ∃a vs,v=AH a/\VL T h a ks vs/\ ¬X a/\A8 T h X ds vs
 |.Cd k ds=> ∃a cs vs,v=AH a/\T.ae k h X a cs/\Ds (λc v=>h.IsCell c (D v)) cs vs/\ ¬X a/\(∀c∈cs,¬X c)/\A8 T h X ds vs
 |.inst C ns ds=> ∃a d vs,v=AH a/\JA h a d C ns vs/\ ¬X a/\ ¬X d/\A8 T h X ds vs
theorem Tr.inv(t:Tr T h X d v):TrP T h X v d:=by
 cases t with
 |none=>rfl
 |bool b=>rfl
 |int i t=>exact⟨t,B⟩
 |str x t=>exact⟨t,B⟩
 |bytes x t=>exact⟨t,B⟩
 |val w=>rfl
 |tup a b c=>exact⟨_,_,B,a,b,c⟩
 |lst a b c=>exact⟨_,_,B,a,b,c⟩
 |Ft a b c=>exact⟨_,_,B,a,b,c⟩
 |Cd a b c d e=>exact⟨_,_,_,B,a,b,c,d,e⟩
 |inst a b c d=>exact⟨_,_,_,B,a,b,c,d⟩
def ADj(T:Th)(h:Dw)(X:Az->Prop)(vs:I Am):I DV->Prop
 |[] =>vs=[]
 |d::r=> ∃v ws,vs=v::ws/\Tr T h X d v/\A8 T h X r ws
theorem A8.inv(t:A8 T h X ds vs):ADj T h X vs ds:=by
 cases t with
 |nil=>rfl
 |cons a b=>exact⟨_,_,B,a,b⟩
theorem Paired.N4{xs:I i}(h:Ds F xs ys):∀ {a:i},a∈xs->∃b,F a b:=by
 induction h with
 |nil=>exactλm=>Ay m Au
 |cons x r j=>exactλm=>(DO m).elim (λq=>⟨_,q▸x⟩) j
theorem Paired.imp(h:Ds F xs ys):(∀a b,a∈xs->F a b->G a b)->Ds G xs ys:=by
 induction h with
 |nil=>exactλ_=>QV
 |cons x r i=>exactλk=>QW (k _ _ (B0 _) x)<|i λa b m=>k a b<|Cb _ m
theorem Tr.up(O:Cr T)(i:Up h X h' X')(t:Tr T h X d v):Tr T h' X' d v:=by
 refine Tr.rec (motive_1:= λd v _=>Tr T h' X' d v) (motive_2:= λds vs _=>A8 T h' X' ds vs) YU zK dC .str Vc ACX ?_ ?_ ?_ ?_ ?_ E4 (λ_ _=>Cw) t
 ·intro a vs ds u n _ x;refine Ap u λo j r=>?_;exact .tup ⟨o,(i a o j n).1,r⟩ (i a o j n).2 x
 ·intro a vs ds u n _ x;refine Ap u λo j r=>?_;exact dD ⟨o,(i a o j n).1,r⟩ (i a o j n).2 x
 ·intro a ks vs ds d n _ x;refine Hr d.obj λo _ _ j _=>?_;exact .Ft (d.up λo j=>(i a o j n).1) (i a o j n).2 x
 ·intro a k cs vs ds N hp n m _ x;refine Dx (O.ml _ _ _ _ _ N) λo j=>?_;exact .Cd (O.Cd _ _ _ _ _ _ _ N i) (Paired.imp hp λc v y hc=>hc.imp λo h=>⟨(i c o h.1<|m c y).1,h.2⟩) (i _ _ j n).2 (λc y q=>by refine I9 (Paired.N4 hp y) λv o j _=>?_;exact(i c o j<|m c y).2 q) x
 ·intro a dx C ns vs ds u L G _ x;refine FW u λes n sl h1 Q r=>?_;exact .inst ⟨es,n,sl,(i _ _ h1 L).1,(i _ _ Q G).1,r⟩ (i _ _ h1 L).2 (i _ _ Q G).2 x
theorem A8.up(O:Cr T)(i:Up h X h' X'):∀ {ds:I DV} {vs:I Am},A8 T h X ds vs->A8 T h' X' ds vs:=by
 intro ds;induction ds with
 |nil=>intro vs t;obtain rfl:=t.inv;exact E4
 |cons d r u=>intro vs t;(refine Bk t.inv λ_ _ j a b=>?_;subst j);exact Cw (a.up O i)<|u b
def KJ(o:NU):Prop:=(∀vs,o.data≠BF vs)\/(o.cls≠AN/\o.cls≠Ae "code")
structure Hs(T:Th)(X:Az->Prop)(h:Dw):Prop where
 tab:∀a,T.Tab a->X a
 kind:∀a,X a->T.Tab a\/(AA T.H1 a=AQ/\ ∃o,AA h a=D o/\KJ o)
def Rd(env:Pc)(h:Dw)(x:Bt)(v:Am):Prop:=
 (env.kindOf x=D .local/\ ∃m,h.Ns env.locals m/\m x=D v)\/
 ((env.kindOf x=D BX\/env.kindOf x=D Bm)/\ ∃c,env.cells.lookup x=D c/\h.IsCell c (D v))
inductive K2 where
 |lst (ds:I DV)
 |Ft (ks:I (I BB)) (ds:I DV)
 |PR (dss:I (I DV))
 |inst (C:Az) (ns:I Bt) (ds:I DV)
 |wl (C:Az) (n:Bt) (ds:I DV)
open Mine.K2 renaming Ft->nD,inst->DP,PR->LI,lst->JW
noncomputable def HI(F:I Az):Addr:=F.headD 0
def Ei(T:Th)(X:Az->Prop)(h:Dw)(F:I Az):K2->Prop
 |.lst ds=> ∃a vs,F=[a] /\FK h a (AU vs)/\A8 T h X ds vs
 |.Ft ks ds=> ∃a vs,F=[a] /\VL T h a ks vs/\A8 T h X ds vs
 |.PR e=> ∃a as,F=a::as/\(a::as).Nodup/\FK h a (as.map AH).toArray/\Ds (λb ds=> ∃vs,FK h b (AU vs)/\A8 T h X ds vs) as e
 |.inst C ns ds=> ∃a d vs,F=[a,d] /\a≠d/\JA h a d C ns vs/\A8 T h X ds vs
 |.wl C n ds=> ∃a d l vs,F=[a,d,l] /\ [a,d,l].Nodup/\JA h a d C [n] [AH l] /\FK h l (AU vs)/\A8 T h X ds vs
inductive PV where
 |d (t:DV)
 |own (f:AW (I Az)) (o:K2)
 |no
open Mine.PV renaming d->mw,no->Af,own->BP
def NK(T:Th)(env:Pc)(X:Az->Prop)(h:Dw)(ad:Bt->I Az)(x:Bt):PV->Prop
 |.d t=> ∃v,Rd env h x v/\Tr T h X t v
 |.own f o=>Rd env h x (AH (HI (ad x)))/\(∀b∈ad x,X b)/\Ei T X h (ad x) o/\ ∀F,f=D F->ad x=F
 |.no=>True
theorem dNo:∀f o,mw t≠BP f o:= λ_ _ h=>PV.noConfusion h
theorem AF9:∀f o,Af≠BP f o:= λ_ _ h=>PV.noConfusion h
theorem IL{P:a->Prop} :∀b∈([]:I a),P b:= λ_ h=>Ay h Au
theorem K3{d:Yg}(h:C8 d.ctorIdx 9=AB):∀vs,d≠BF vs:= λvs q=>by rw[q]at h;cases h
theorem RN:Ae c≠AN:= λh=>Ff h
theorem SR:D a≠none:=Q4 a
theorem ADk{P:Prop} :J=AB->P:= λh=>Iv h
theorem AGA{P:Prop} :AB=J->P:= λh=>Iv h
abbrev BD:=I<|Bt×PV
def Fok(T:Th)(env:Pc)(vars:BD)(X:Az->Prop)(h:Dw)(ad:Bt->I Az):Prop:= ∀p∈vars,NK T env X h ad p.1 p.2
theorem C1.up(x:C1 T h h')(k:∀a,T.Tab a->X a):Up h X h' X:= λa o e n=>⟨x a o (λt=>n<|k a t) e,n⟩
theorem Cm.Bn(h:Cm T s)(e:AA s.heap a=D o)(u:∀vs,o.data≠BF vs): ¬T.Tab a:= λj=>by refine Ap (h.tab a j) λvs i _=>?_;rw[e]at i;obtain rfl:=AE i;exact u _ B
theorem Cm.KA(h:Cm T s)(e:AA s.heap a=D o)(hd:KJ o): ¬T.Tab a:=by
 rcases hd with hd|hd
 ·exact h.Bn e hd
 ·exact h.DI e hd.1
theorem Hs.ext(x:Hs T X s.heap)(i:Cm T s)(E:C1 T s.heap h'):Hs T X h' where
 tab:=x.tab
 kind:= λa C=>by
  rcases x.kind a C with h|⟨y,o,j,u⟩
  ·exact Ax h
  ·exact BC ⟨y,o,E a o (i.KA j u) j,u⟩
theorem Rd.ext(r:Rd env s.heap x v)(h:Cm T s)(E:C1 T s.heap h'):Rd env h' x v:=by
 rcases r with⟨u,m,⟨o,es,G,i,j,r⟩,y⟩|⟨u,c,C,⟨o,i,j⟩⟩
 ·exact Ax ⟨u,m,⟨o,es,G,E _ _ (h.Bn i<|by rw[j];nofun) i,j,r⟩,y⟩
 ·exact BC ⟨u,c,C,⟨o,E _ _ (h.Bn i<|by rw[j];nofun) i,j⟩⟩
theorem PM(x:FK h a its)(k:∀o,AA h a=D o->AA h' a=D o):FK h' a its:=(by refine I9 x λo n e r=>?_;exact⟨o,n,k o e,r⟩)
theorem ADl(x:FK h a g):∃ob,AA h a=D ob/\ ∀vs,ob.data≠BF vs:=(by refine BU x λo n e _ _ d=>?_;exact(CB o e<|by rw[d];nofun))
theorem JA.up(x:JA h a i C ns vs)(y:∀o,AA h a=D o->AA h' a=D o)(u:∀o,AA h i=D o->AA h' i=D o):JA h' a i C ns vs:=
 (by refine FW x λes n j L G r=>?_;exact⟨es,n,j,y _ L,u _ G,r⟩)
def Wb(o:NU):Prop:=(o.cls=Ae "list" /\ ∃vs n,o.data=Gz vs n)\/(∃es n,o.data=Gr es n)\/o.data=tN
theorem Wb.fields(h:Wb o):∀vs,o.data≠BF vs:=by rcases h with⟨_,_,_,h⟩|⟨_,_,h⟩|h<;>rw[h] <;>exact K3 B
theorem AAR{P:e->Prop}(h:P a):∀b∈[a],P b:= λ_ d=>Cx d▸h
theorem uc{P:e->Prop}(h:P a)(k:∀b∈l,P b):∀b∈a::l,P b:= λb d=>(DO d).elim (λq=>q▸h)<|k b
theorem AAS(x:FK h a g):∃ob,AA h a=D ob/\Wb ob:=by refine BU x λo n e i _ d=>?_;exact(CB o e<|Ax ⟨i,_,_,d⟩)
theorem JA.obs(x:JA h a u C ns vs):(∃ob,AA h a=D ob/\Wb ob)/\ ∃ob,AA h u=D ob/\Wb ob:=by refine FW x λes n y j i _=>?_;exact⟨(CB _ j<|BC<|BC B),(CB _ i<|BC<|Ax ⟨_,_,B⟩)⟩
theorem JA.soft(x:JA h a i C ns vs):(∃ob,AA h a=D ob/\ ∀vs,ob.data≠BF vs)/\ ∃ob,AA h i=D ob/\ ∀vs,ob.data≠BF vs:=
 ⟨x.obs.1.imp λ_ q=>⟨q.1,q.2.fields⟩,x.obs.2.imp λ_ q=>⟨q.1,q.2.fields⟩⟩
theorem Ei.up(O:Cr T)(i:Up h X h' X')(k:∀b∈F,∀o,AA h b=D o->AA h' b=D o)(w:Ei T X h F o):Ei T X' h' F o:=by
 cases o with
 |lst _=>(refine Bk w λa vs j p t=>?_;subst j);exact⟨a,vs,B,PM p<|k a<|B0 _,t.up O i⟩
 |Ft _ _=>(refine Bk w λa vs j d t=>?_;subst j);exact⟨a,vs,B,d.up<|k a<|B0 _,t.up O i⟩
 |PR _=>(refine BU w λa as j y p r=>?_;subst j);exact⟨a,as,B,y,PM p<|k a<|B0 _,Paired.imp r λb ds N q=>q.imp λvs q=>⟨PM q.1<|k b<|Cb _ N,q.2.up O i⟩⟩
 |inst _ _ _=>(refine EJ w λa u vs G L p t=>?_;subst G);exact⟨a,u,vs,B,L,p.up (k a<|B0 _)<|k u<|Cb _<|B0 _,t.up O i⟩
 |wl _ _ _=>(refine Gv w λa u l vs C y p q t=>?_;subst C);exact⟨a,u,l,vs,B,y,p.up (k a<|B0 _)<|k u<|Cb _<|B0 _,PM q<|k l<|Cb _<|Cb _<|B0 _,t.up O i⟩
theorem Ei.obs(w:Ei T X h F o):∀b∈F,∃ob,AA h b=D ob/\Wb ob:=by
 cases o with
 |lst _=>(refine Bk w λa vs i p t=>?_;subst i);exact AAR<|AAS p
 |Ft _ _=>(refine Bk w λa vs i d t=>?_;subst i);refine FW d.obj λob es N C G _=>?_;exact AAR<|CB ob C<|BC<|Ax ⟨es,N,G⟩
 |PR _=>(refine BU w λa as i y p r=>?_;subst i);exact uc (AAS p) λb L=>(Paired.N4 r L).elim λds q=>q.elim λvs q=>AAS q.1
 |inst _ _ _=>(refine EJ w λa Q vs u ne p t=>?_;subst u);exact uc p.obs.1<|AAR p.obs.2
 |wl _ _ _=>(refine Gv w λa Q l vs j y p q t=>?_;subst j);exact uc p.obs.1<|uc p.obs.2<|AAR<|AAS q
theorem Ei.fields(w:Ei T X h F o):∀b∈F,∃ob,AA h b=D ob/\ ∀vs,ob.data≠BF vs:= λb i=>(w.obs b i).imp λ_ q=>⟨q.1,q.2.fields⟩
theorem Ei.AHU(w:Ei T X h F o)(j:b∈F)(e:AA h b=D ob):Wb ob:=by refine Ap (w.obs b j) λi u q=>?_;exact AE (u.symm.trans e)▸q
theorem NK.ext(O:Cr T){ad:Bt->I Az} :∀ {v:PV},NK T env X s.heap ad x v->Cm T s->Hs T X s.heap->C1 T s.heap h'->NK T env X h' ad x v
 |.d _,⟨v,r,t⟩,h,K,E=>⟨v,r.ext h E,t.up O (E.up K.tab)⟩
 |.no,_,_,_,_=>AI
 |.own _ _,⟨r,j,w,G⟩,h,K,E=>⟨r.ext h E,j,w.up O (E.up K.tab) λb i o u=>(by refine Ap (w.fields _ i) λL C y=>?_;exact E _ _ (h.Bn C y) u),G⟩
theorem Fok.ext(O:Cr T){ad:Bt->I Az}(F:Fok T env vars X s.heap ad)(h:Cm T s)(K:Hs T X s.heap)(E:C1 T s.heap h'):Fok T env vars X h' ad:=
 λp hp=>(F p hp).ext O h K E
structure Ar(T:Th)(n:Aj)(A:Hk)(X:Az->Prop)(env:Pc)(vars:BD)(ad:Bt->I Az)(s:Bq):Prop where
 a:Le n A
 inv:Cm T s
 x:Hs T X s.heap
 f:Fok T env vars X s.heap ad
theorem Ar.ext(O:Cr T){ad:Bt->I Az}(R:Ar T n A X env vars ad s)(E:C1 T s.heap s'.heap)(h:Cm T s'):Ar T n A X env vars ad s':=
 ⟨R.a,h,R.x.ext R.inv E,R.f.ext O R.inv R.x E⟩
def Ev(T:Th)(n:Aj)(env:Pc)(vars:BD)(e:A2)(d:DV):Prop:=
 ∀A X ad s Q E,Ar T n A X env vars ad s->
  (∀v s',C1 T s.heap s'.heap->Cm T s'->Tr T s'.heap X d v->Q v s')->Ao (M T) A (IC e env) Q E s
def bN(T:Th)(n:Aj)(env:Pc)(vars:BD)(e:A2)(b:Ba):Prop:=
 ∀A X ad s Q E,Ar T n A X env vars ad s->
  (∀s',C1 T s.heap s'.heap->Cm T s'->Q b s')->Ao (M T) A (uD e env<|IC e env) Q E s
open Mine.A8 renaming cons->Cw,nil->E4
open Mine.DV renaming bool->BZ,bytes->AJ,Cd->EG,Ft->EL,inst->YT,int->AM,lst->AL,none->BK,str->Fu,tup->FI,val->Ah
open Mine.K2 renaming Ft->nD,inst->DP,PR->LI,lst->JW
open Mine.PV renaming d->mw,no->Af,own->BP
open Mine.Tr renaming bool->zK,bytes->Vc,int->dC,lst->dD,none->YU,val->ACX
theorem bO(O:Cr T):Ev T n env vars (Gj (.int i) k pos) (AM i):=
 λA X ad s Q E R k=>wpAny_Constant_int<|k _ _ (C1.refl _) (R.inv.toks _)<|dC _ _
theorem Yx:Ev T n env vars (Gj .none k pos) BK:=
 λA X ad s Q E R k=>ACY<|k _ _ (C1.refl _) R.inv YU
theorem Yy:Ev T n env vars (Gj (.bool b) k pos) (BZ b):=
 λA X ad s Q E R k=>wpAny_Constant_bool<|k _ _ (C1.refl _) R.inv<|zK b
theorem bP:Ev T n env vars (Gj (ACZ x) k pos) (Fu x):=
 λA X ad s Q E R k=>Ke<|k _ _ (C1.refl _) (R.inv.toks _)<|.str _ _
theorem We:Ev T n env vars (Gj (.bytes x) k pos) (AJ x):=
 λA X ad s Q E R k=>Constant_bytes<|k _ _ (C1.refl _) (R.inv.toks _)<|Vc _ _
theorem SS{M:jA}(r:Rd env s.heap x v)(h:Q v s)(d:env.scope.kind=BY)
  (j:(x==("__debug__" :Bt))=AB)(g:(x==("__classdict__" :Bt))=AB):Ao M A (IC (Bu x pos) env) Q E s:=by
 refine wpAny_Name ?_ j;rcases r with⟨hl,m,i,a⟩|⟨hl|hl,c,e,a⟩
 ·exact zq d hl i a h
 ·exact wpAny_loadName_cell d hl e a h
 ·exact ACa d hl e a h g
noncomputable def C9(x:Bt):Bool:= !(x==("__debug__" :Bt))&& !(x==("__classdict__" :Bt))
theorem C9.a(h:C9 x=J):(x==("__debug__" :Bt))=false:=by simp only[C9,A4,CR]at h;exact h.1
theorem C9.b(h:C9 x=J):(x==("__classdict__" :Bt))=false:=by simp only[C9,A4,CR]at h;exact h.2
theorem En:∀ {vars:BD},vars.lookup x=D v->(x,v)∈vars:=BW
theorem AAT(e:vars.lookup x=D (mw t))(g:env.scope.kind=BY)(d:C9 x=J):Ev T n env vars (Bu x pos) t:=by intro A X ad s Q E R k;refine Ap (R.f _<|En e) λv r t=>?_;exact SS r (k v s (C1.refl _) R.inv t) g (C9.a d)<|C9.b d
theorem A8.length:∀ {ds:I DV} {vs:I Am},A8 T h X ds vs->U vs=U ds:=by
 intro ds;induction ds with
 |nil=>intro vs t;obtain rfl:=t.inv;rfl
 |cons d r i=>intro vs t;obtain⟨_,_,rfl,_,q⟩:=t.inv;exact BI (· +1)<|i q
def SU(T:Th)(n:Aj)(e:jB)(a b d:DV):Prop:=
 ∀A X s u v Q E,Le n A->Cm T s->Hs T X s.heap->Tr T s.heap X a u->Tr T s.heap X b v->
  (∀r s',C1 T s.heap s'.heap->Cm T s'->Tr T s'.heap X d r->Q r s')->Ao (M T) A (AIa e u v) Q E s
theorem ud(O:Cr T)(hl:Ev T n env vars l a)(hr:Ev T n env vars r b)(h:SU T n op a b d):Ev T n env vars (.BinOp l op r pos) d:=by intro A X ad s Q E R k;refine wpAny_BinOp<|hl A X ad s _ E R λu L g i z=>hr A X ad L _ E (R.ext O g i) λv G e a0 y=>?_;have a1:=R.ext O g i;refine h A X G u v Q E R.a a0 (a1.x.ext i e) (z.up O<|e.up R.x.tab) y λr C j N q=>k r C ((g.trans e).trans j) N q
theorem Jq(h:∀A s t u Q E,(∀l tk,Q (EF k l) {s with toks:=tk})->Ao (M T) A (AIa q (EF i t) (EF j u)) Q E s):SU T n q (AM i) (AM j) (AM k):=by intro A X s u v Q E a d x t1 t2 K;refine Dx t1.inv λe g=>?_;subst g;refine Dx t2.inv λe g=>?_;subst g;exact h A s _ _ Q E λl tk=>K _ _ (C1.refl _) (d.toks _)<|dC _ _
theorem AAU:SU T n iY (AM i) (AM j) (AM (i+j)):=Jq λA s t u Q E k=>AHe<|k _ _
theorem AAV:SU T n .Sub (AM i) (AM j) (AM (i-j)):=Jq λA s t u Q E k=>AHf<|k _ _
theorem Yz(a:IntMulOk i j):SU T n .Mult (AM i) (AM j) (AM (i*j)):=Jq λA s t u Q E k=>PySem.P.mul_int (k _ _) a
theorem AAW(a:j≠0):SU T n .Mod (AM i) (AM j) (AM (i.fmod j)):=Jq λA s t u Q E k=>AHg a<|k _ _
theorem bQ(a:j≠0)(hp:LK i j=AB):SU T n .FloorDiv (AM i) (AM j) (AM (i.fdiv j)):=Jq λA s t u Q E k=>AHh a (k _ _)<|Ax hp
theorem AAX:SU T n .BitAnd (AM i) (AM j) (AM (Ag i j)):=Jq λA s t u Q E k=>AHi<|k _ _
theorem ADm:SU T n .BitOr (AM i) (AM j) (AM (BG i j)):=Jq λA s t u Q E k=>AHj<|k _ _
theorem AAY:SU T n .BitXor (AM i) (AM j) (AM (B1 i j)):=Jq λA s t u Q E k=>AHk<|k _ _
theorem AAZ(a:0<=j):SU T n .RShift (AM i) (AM j) (AM (i.fdiv (2^Bp j))):=Jq λA s t u Q E k=>AHl a<|k _ _
theorem AAa(a:0<=j)(e:j<=1000000)(d:i.natAbs<2^64):SU T n .LShift (AM i) (AM j) (AM (i*2^Bp j)):=Jq λA s t u Q E k=>AHm a e d<|k _ _
theorem AAb(a:0<=j)(e:j<=1000000)(d:i.natAbs<2^64):SU T n .Pow (AM i) (AM j) (AM (i^Bp j)):=Jq λA s t u Q E k=>AHn a e d<|k _ _
def Cg(T:Th)(n:Aj)(d:CmpOp)(a b:DV)(r:Ba):Prop:=
 ∀A X s u v Q E,Le n A->Cm T s->Hs T X s.heap->Tr T s.heap X a u->Tr T s.heap X b v->
  (∀s',C1 T s.heap s'.heap->Cm T s'->Q (FH r) s')->Ao (M T) A (compareOp d u v) Q E s
theorem ADn(O:Cr T)(hl:Ev T n env vars l a)(hr:Ev T n env vars r b)(h:Cg T n op a b c)(hm:Vd op r=false:=by with_unfolding_all rfl):Ev T n env vars (.Compare l [op] [r] pos) (BZ c):=by intro A X ad s Q E R k;refine wpAny_Compare1 (hl A X ad s _ E R λu C e g q=>hr A X ad C _ E (R.ext O e g) λv z d L j=>?_) hm;have N:=R.ext O e g;exact h A X z u v Q E R.a L (N.x.ext g d) (q.up O<|d.up R.x.tab) j λy i G=>k _ y ((e.trans d).trans i) G<|zK _
theorem AAc(O:Cr T)(hl:Ev T n env vars l a)(hr:Ev T n env vars r b)(h:Cg T n op a b c)(hm:Vd op r=false:=by with_unfolding_all rfl):bN T n env vars (.Compare l [op] [r] pos) c:=by intro A X ad s Q E R k;refine wpAny_isTrue_Compare1 (hl A X ad s _ E R λu C e g q=>hr A X ad C _ E (R.ext O e g) λv z d L j=>?_) hm;have N:=R.ext O e g;exact h A X z u v _ E R.a L (N.x.ext g d) (q.up O<|d.up R.x.tab) j λy i G=>LL<|k y ((e.trans d).trans i) G
theorem dp(h:∀A s t u Q E,(∀tk,Q (FH r) {s with toks:=tk})->Ao (M T) A (compareOp l (EF i t) (EF j u)) Q E s):Cg T n l (AM i) (AM j) r:=by intro A X s u v Q E a d x t1 t2 K;refine Dx t1.inv λe g=>?_;subst g;refine Dx t2.inv λe g=>?_;subst g;exact h A s _ _ Q E λtk=>K _ (C1.refl _)<|d.toks _
theorem dq:Cg T n .Lt (AM i) (AM j) (Bx (i<j)):=dp λA s t u Q E k=>Yh<|k s.toks
theorem dv:Cg T n .Gt (AM i) (AM j) (Bx (j<i)):=dp λA s t u Q E k=>AHo<|k s.toks
def FP(T:Th)(n:Aj)(d:DV)(b:Ba):Prop:=
 ∀A X s v Q E,Le n A->Cm T s->Hs T X s.heap->Tr T s.heap X d v->
  (∀s',C1 T s.heap s'.heap->Cm T s'->Q b s')->Ao (M T) A (truthy v) Q E s
theorem Qb(O:Cr T)(h:Ev T n env vars e d)(t:FP T n d b)(y:∀whole,uD e env whole=(do let v<-whole;AE3 e.pos;RU [v] (truthy v)):=by intro _;rfl):bN T n env vars e b:=by intro A X ad s Q E R k;refine isTrue_plain (h A X ad s _ E R λv r g i l=>?_)<|y _;have R₁:=R.ext O g i;exact t A X r v Q E R.a i R₁.x l λq j u=>k q (g.trans j) u
theorem jf:FP T n (BZ b) b:=by intro A X s v Q E a d x t K;obtain rfl:=t.inv;exact LL<|K s (C1.refl _) d
theorem jg:FP T n BK false:=by intro A X s v Q E a d x t K;obtain rfl:=t.inv;exact truthy_none<|K s (C1.refl _) d
theorem qZ:FP T n (AM i) (!Bx (i=0)):=by intro A X s v Q E a d x t K;refine Dx t.inv λe g=>?_;subst g;exact AHp<|K s (C1.refl _) d
theorem UH(j:U ds<=AY):FP T n (AL ds) (!ds.isEmpty):=by
 intro A X s v Q E a d x t K
 (refine BU t.inv λ_ vs h i _ ha=>?_;subst h)
 ·have g:=ha.length;refine wpAny_truthy_list i (by simp;have:=Ak;exact(Kd (m:=9223372036854775808)).mpr<|Pj [_,_,_] [.l A9 BQ,.e B5 A9,.e BQ<|.n 16777216] B5 (.n 9223372036854775808) [1,1,1] B j g this) ?_;have e:(!vs.toArray.isEmpty)= !ds.isEmpty:=by cases ds<;>cases vs<;>simp_all
  rw[e];exact K _ (C1.refl _)<|d.toks _
theorem AAd(O:Cr T)(h:bN T n env vars x b):bN T n env vars (AHq .Not x pos) (!b):=by intro A X ad s Q E R k;exact isTrue_not<|h A X ad s _ E R λd a e=>k d a e
theorem dw(O:Cr T)(h:bN T n env vars c b)(u:b=J->Ev T n env vars x d)(r:b=AB->Ev T n env vars y d):Ev T n env vars (.IfExp c x y pos) d:=by
 intro A X ad s Q E R k;refine wpAny_IfExp<|h A X ad s _ E R λl a q=>?_;cases b with
 |true=>exact u B A X ad l Q E (R.ext O a q) λv i e j g=>k v i (a.trans e) j g
 |false=>exact r B A X ad l Q E (R.ext O a q) λv i e j g=>k v i (a.trans e) j g
def CP(T:Th)(n:Aj)(c:DV)(ds:I DV)(d:DV):Prop:=
 ∀A X s f vs Q E,Le n A->Cm T s->Hs T X s.heap->Tr T s.heap X c f->A8 T s.heap X ds vs->
  (∀v s',C1 T s.heap s'.heap->Cm T s'->Tr T s'.heap X d v->Q v s')->Ao (M T) A (RV f vs) Q E s
def jh(T:Th)(n:Aj)(c:DV)(ds:I DV)(d:DV):Prop:=
 ∀A X s f vs R,Le n A->Cm T s->Hs T X s.heap->Tr T s.heap X c f->A8 T s.heap X ds vs->
  (∀v s',C1 T s.heap s'.heap->Cm T s'->Tr T s'.heap X d v->R (zr<|N8 v) s')->Mf (M T) A (qB f ⟨vs,[]⟩) R s
theorem jh.app(h:jh T n c ds d):CP T n c ds d:= λA X s f vs Q E a i x tf j k=>F9<|h A X s f vs _ a i x tf j k
def Bf(T:Th)(c:DV):Prop:= ∀s X f,Cm T s->Hs T X s.heap->Tr T s.heap X c f->∃k,(k=AE4\/k=YV\/k=ADP)/\Looks (M T) s.heap (keeperOf f) k
theorem A3{id:Tx} :Bf T (Ah (AS id)):= λs X f a x t=>by obtain rfl:=t.inv;exact(CB (YV) (BC<|Ax B)<|R5 B)
theorem MB{id:Tx} :Bf T (Ah (Ae id)):= λs X f a x t=>by obtain rfl:=t.inv;exact(CB (YV) (BC<|Ax B)<|R5 B)
theorem bS(g:AA T.H1 a=D o)(h:o.data=IB fd)(e: ¬T.Tab a):Bf T (Ah (AH a)):= λs X f d x t=>by obtain rfl:=t.inv;refine(CB (AE4) (Ax B)<|(jC (part:=AQ)<|d.ext _ _ e g).andThen ?_);rw[h];exact qC
inductive GH(T:Th)(n:Aj)(env:Pc)(vars:BD):I A2->I DV->Prop
 |nil:GH T n env vars [] []
 |cons {e:A2} {d:DV} {es:I A2} {ds:I DV} :Ev T n env vars e d->(∀x p,e≠zN x p)->GH T n env vars es ds->GH T n env vars (e::es) (d::ds)
open Mine.GH renaming cons->Qt
theorem Fw(hs:∀x p,e≠zN x p):C5 (e::es) env=(AB,IC e env)::C5 es env:=by cases e<;>first|rfl|exact Ay B<|hs _ _
theorem JR(O:Cr T)(r:GH T n env vars es ds):∀A X ad s Q E,Ar T n A X env vars ad s->
  (∀vs s',C1 T s.heap s'.heap->Cm T s'->A8 T s'.heap X ds vs->Q vs s')->Ao (M T) A (PS (C5 es env)) Q E s/\Ao (M T) A (PS (Gc pos (C5 es env))) Q E s:=by
 induction r with
 |nil=>exactλA X ad s Q E R k=>⟨AP<|k [] s (C1.refl _) R.inv E4,AP<|k [] s (C1.refl _) R.inv E4⟩
 | @cons e d es ds h hs r G=>
  intro A X ad s Q E R k;have e1:=Fw (es:=es) (env:=env) hs;rw[e1];constructor
  ·show Ao _ A (do let v<-IC e env;let i<-Ce [v];return i++(<-RU i (PS<|C5 es env))) Q E s;refine AD<|h A X ad s _ E R λv u g z l=>AD<|AP<|AD<|BV ?_;have C:=R.ext O g z;exact(G A X ad u _ E C λvs q a y j=>AP<|k _ q (g.trans a) y<|Cw (l.up O<|a.up R.x.tab) j).1
  ·show Ao _ A (do let v<-(if AB=J then do let v<-IC e env;AE3 pos;Ce v else IC e env);let i<-Ce [v];return i++(<-RU i (PS<|Gc pos<|C5 es env))) Q E s;rw[CQ CD];refine AD<|h A X ad s _ E R λv u g z l=>AD<|AP<|AD<|BV ?_;have C:=R.ext O g z;exact(G A X ad u _ E C λvs q a y j=>AP<|k _ q (g.trans a) y<|Cw (l.up O<|a.up R.x.tab) j).2
theorem dy(O:Cr T)(a:Cm T s)(x:Hs T X s.heap)(t:A8 T s.heap X ds vs)(hz:U ds<=AY)
  (k:∀v s',C1 T s.heap s'.heap->Cm T s'->Tr T s'.heap X (FI ds) v->Q v s'):Ao (M T) A (AIb vs) Q E s:=by
 have d:∀b o,AA s.heap b=D o->(s.heap.push {cls:=Ae "tuple",data:=Gz (AU vs)}).get? b=D o:= λb o e=>AX _ e;refine ET (k _ _ (C1.of_keeps d) (a.keeps O d)<|.tup (uE _ _) (λq=>?_)<|t.up O<|(C1.of_keeps d).up x.tab)<|by show AK vs.toArray<=AY;rw[Ab,t.length];exact hz
 rcases x.kind _ q with h|⟨_,o,i,_⟩
 ·refine Ap (a.tab _ h) λg e _=>?_;exact Ay (BS e)<|B7 _
 ·exact Ay (BS i)<|B7 _
theorem ji(O:Cr T)(a:Cm T s)(x:Hs T X s.heap)(t:A8 T s.heap X ds vs)(hz:U ds<=AY)
  (k:∀v s',C1 T s.heap s'.heap->Cm T s'->Tr T s'.heap X (AL ds) v->Q v s'):Ao (M T) A (uF vs) Q E s:=by
 have d:∀b o,AA s.heap b=D o->(s.heap.push {cls:=Ae "list",data:=Gz (AU vs)}).get? b=D o:= λb o e=>AX _ e;refine ET (k _ _ (C1.of_keeps d) (a.keeps O d)<|dD ⟨_,A1 _ B,B,_,B⟩ (λq=>?_)<|t.up O<|(C1.of_keeps d).up x.tab)<|by show AK vs.toArray<=AY;rw[Ab,t.length];exact hz
 rcases x.kind _ q with h|⟨_,o,i,_⟩
 ·refine Ap (a.tab _ h) λg e _=>?_;exact Ay (BS e)<|B7 _
 ·exact Ay (BS i)<|B7 _
theorem ue(O:Cr T)(h:GH T n env vars es ds)(hz:U ds<=AY):Ev T n env vars (KU es k pos) (FI ds):=by intro A X ad s Q E R k;refine Tuple_<|(JR O h A X ad s _ E R λvs q a d i=>?_).2;have R₁:=R.ext O a d;exact dy O d R₁.x i hz λv j e l g=>k v j (a.trans e) l g
theorem AAe(O:Cr T)(h:GH T n env vars es ds)(hz:U ds<=AY):Ev T n env vars (VI es pos) (AL ds):=by intro A X ad s Q E R k;refine List_<|(JR O h A X ad s _ E R λvs q a d i=>?_).2;have R₁:=R.ext O a d;exact ji O d R₁.x i hz λv j e l g=>k v j (a.trans e) l g
theorem NL(h:GH T n env vars es ds)(pos:LH):(Gc pos (C5 es env)).any (·.1)=false:=by
 induction h with
 |nil=>rfl
 | @cons e d es ds _ hs _ a=>
  have e1:=Fw (es:=es) (env:=env) hs;rw[e1];show(AB||(Gc pos<|C5 es env).any (·.1))=AB;rw[a];rfl
theorem eA(O:Cr T)(h:GH T n env vars es ds)(G:CP T n c ds d)(kp:Bf T c){ad:Bt->I Az}
  (R:Ar T n A X env vars ad s)(tf:Tr T s.heap X c f)(k:∀v s',C1 T s.heap s'.heap->Cm T s'->Tr T s'.heap X d v->Q v s'):Ao (M T) A (T3 pos f [] (Gc pos (C5 es env)) []) Q E s:=by
 refine Ku (P:= λh'=> ∃s',s'.heap=h'/\Cm T s'/\Hs T X h'/\Tr T h' X c f) (by rw[NL h pos];rfl) (λh' ⟨s',e,I',L,N⟩=>by subst e;exact kp s' X f I' L N) ?_;cases h with
 |nil=>
  refine Pd ⟨(NI s B R.inv R.x tf),?_⟩;exact G A X s f [] Q E R.a R.inv R.x tf E4 k
 | @cons e d0 es a0 h0 hs r=>
  have e1:=Fw (es:=es) (env:=env) hs;have z:=(JR (pos:=pos) O (Qt h0 hs r) A X ad s (λvs s₁=>(∃s',s'.heap=s₁.heap/\Cm T s'/\Hs T X s₁.heap/\Tr T s₁.heap X c f)/\Ao (M T) A (RV f vs) Q E s₁) E R λvs s₁ g i q=>by have R₁:=R.ext O g i;have u:=tf.up O<|g.up R.x.tab;exact⟨(NI s₁ B i R₁.x u),G A X s₁ f vs Q E R.a i R₁.x u q λv y j C l=>k v y (g.trans j) C l⟩).2
  rw[e1]at z⊢;exact Hm z
theorem AAf(O:Cr T)(y:Ev T n env vars (Bu x p) c)(h:GH T n env vars es ds)(z:CP T n c ds d)(u:Bf T c):Ev T n env vars (El (Bu x p) es [] pos) d:=by intro A X ad s Q E R k;refine Fb<|y A X ad s _ E R λf r a q i=>?_;exact eA O h z u (R.ext O a q) i λv j e l g=>k v j (a.trans e) l g
noncomputable def bT:I Aj->I Aj->Ba
 |[],q=>q.isEmpty
 |a::r,q=>bif q.isEmpty then AB else bif C8 a (q.headD 0)then bT r q.tail else AB
theorem jj:bT a b=J↔a=b:=by
 induction a generalizing b with
 |nil=>
  cases b with
  |nil=>exact⟨λ_=>B,λ_=>B⟩
  |cons y q=>exact⟨λh=>Pm h,λh=>Ay h.symm<|C2 _ _⟩
 |cons x r d=>
  cases b with
  |nil=>exact⟨λh=>Pm h,λh=>Ay h<|C2 _ _⟩
  |cons y q=>
   show(bif C8 x y then bT r q else AB)=J↔_;cases e:C8 x y with
   |true=>exact⟨λh=>DJ e▸d.mp h▸B,λh=>d.mpr (HW h).2⟩
   |false=>exact⟨λh=>Pm h,λh=>Ay (HW h).1<|jD e⟩
noncomputable def Jm(x y:Bt):Bool:=bT x.cps.toList y.cps.toList
theorem sEq_iff:Jm x y=J↔x=y:=by obtain⟨a⟩:=x;obtain⟨b⟩:=y;unfold Jm;rw[jj];simp
theorem Tj:(x==y)=Jm x y:=by
 cases e:Jm x y with
 |true=>rw[sEq_iff]at e;simp[e]
 |false=>
  have: ¬x=y:= λh=>by exact nY<|(sEq_iff.mpr h).symm.trans e
  simpa using this
noncomputable def CY(x:Bt):I (Bt×a)->AW a
 |[] =>AQ
 |p::r=>bif Jm x p.1 then D p.2 else CY x r
theorem FF:CY x l=l.lookup x:=by
 induction l with
 |nil=>rfl
 |cons p r a=>
  show(bif Jm x p.1 then D p.2 else CY x r)=_;rw[CE,Tj,a];cases Jm x p.1<;>rfl
theorem SV(h:Jm x p.1=J):CY x (p::r)=D p.2:=by show(bif Jm x p.1 then D p.2 else CY x r)=_;rw[h];rfl
theorem SW(h:Jm x p.1=AB):CY x (p::r)=CY x r:=by show(bif Jm x p.1 then D p.2 else CY x r)=_;rw[h];rfl
theorem Zf(x:Bt)(v:a)(r:I (Bt×a)):CY x ((x,v)::r)=D v:=SV<|sEq_iff.mpr B
theorem FQ{a:Type}{v:a}{l:I (Bt×a)}(h:CY x l=D v):(x,v)∈l:=BW<|FF▸h
inductive Fl where
 |next|brk|cont
 |ret (d:DV)
 |exc
open Mine.Fl renaming cont->RW,exc->mx,next->Aq,ret->JF
inductive bV(T:Th)(h:Dw)(X:Az->Prop):Fl->Flow->Prop
 |next:bV T h X Aq HK
 |brk:bV T h X .brk .brk
 |cont:bV T h X RW .cont
 |ret {d:DV} {v:Am} :Tr T h X d v->bV T h X (JF d) (N8 v)
open Mine.bV renaming next->Mg
noncomputable def D3(x:Bt)(v:PV):BD->BD
 |[] =>[]
 |p::r=>bif Jm x p.1 then(p.1,v)::r else p::D3 x v r
theorem Ri:(D3 x v vs).map CZ=vs.map Prod.fst:=by
 induction vs with
 |nil=>rfl
 |cons p r a=>
  show(bif Jm x p.1 then(p.1,v)::r else p::D3 x v r).map CZ=_;cases Jm x p.1 with
  |true=>rfl
  |false=>exact BI (p.1:: ·) a
theorem Nd(hn:(vs.map CZ).Nodup):∀p∈D3 x v vs,p=(x,v)\/(p∈vs/\p.1≠x):=by
 induction vs with
 |nil=>exactλp hp=>Ay hp Au
 |cons q r d=>
  have hn:=Cj.mp hn;intro p hp;have hp:p∈(bif Jm x q.1 then(q.1,v)::r else q::D3 x v r):=hp;cases e:Jm x q.1 with
  |true=>
   have a:=sEq_iff.mp e;rw[e]at hp;rcases DO hp with h|h
   ·exact Ax<|h.trans<|a▸B
   ·exact BC ⟨Cb _ h,λk=>hn.1<|a▸k▸ME (f:=CZ) h⟩
  |false=>
   rw[e]at hp;rcases DO hp with h|h
   ·exact BC ⟨h▸B0 _,λk=>nY<|(sEq_iff.mpr (h▸k).symm).symm.trans e⟩
   ·exact(d hn.2 p h).imp_right λh=>⟨Cb _ h.1,h.2⟩
noncomputable def Wf(x:Bt):Str:=⟨x.cps.push 0⟩
def tY(vars:BD)(x:Bt):Prop:=Wf x∈vars.map CZ
theorem Pn:tY (D3 x v vars) y↔tY vars y:=by unfold tY;rw[Ri]
noncomputable def nf(vars:BD)(x:Bt):Bool:= !(CY (Wf x) vars).isSome
theorem Zg(h:CY x l=AQ):x∉l.map Prod.fst:=by
 induction l with
 |nil=>exact Au
 |cons p r a=>
  have h:(bif Jm x p.1 then D p.2 else CY x r)=none:=h;cases e:Jm x p.1 with
  |true=>rw[e]at h;cases h
  |false=>
   rw[e]at h;intro q;rcases DO q with q|q
   ·exact nY<|(sEq_iff.mpr q).symm.trans e
   ·exact a h q
theorem Nf(h:nf vars x=J): ¬tY vars x:=Zg<|Option.not_isSome_iff_eq_none.mp<|by simpa [nf]using h
def Oy(env:Pc)(vars:BD)(x:Bt):Prop:=(env.kindOf x=D .local\/(env.kindOf x=D BX/\(env.cells.lookup x).isSome=J))/\ ¬tY vars x
theorem Oy.set(h:Oy env vars y):Oy env (D3 x v vars) y:=⟨h.1,λq=>h.2<|Pn.mp q⟩
structure Wr(T:Th)(env:Pc)(vars:BD)(X:Az->Prop)(Z:Az->AW NU)(ad:Bt->I Az)(h:Dw):Prop where
 nd:(vars.map CZ).Nodup
 ns:∃m,h.Ns env.locals m
 xl:X env.locals
 zl:Z env.locals=AQ
 cell:∀x c,env.kindOf x=D BX->env.cells.lookup x=D c->(∃v,h.IsCell c v)/\((X c/\Z c=AQ)\/(tY vars x/\ ¬X c))
 apart:∀x y c,env.cells.lookup x=D c->env.cells.lookup y=D c->x=y
 own:∀ {f} x o,(x,BP f o)∈vars->∀b∈ad x,Z b=AQ/\b≠env.locals/\ ∀y c,env.kindOf y=D BX->env.cells.lookup y=D c->b≠c
 inj:∀ {f f'} x y o o',(x,BP f o)∈vars->(y,BP f' o')∈vars->∀b∈ad x,b∈ad y->x=y
 keep:∀a o,Z a=D o-> ¬T.Tab a->AA h a=D o
 base:∀a o,AA T.H1 a=D o-> ¬T.Tab a->Z a=D o
structure Sx(T:Th)(n:Aj)(A:Hk)(X:Az->Prop)(env:Pc)(vars:BD)(Z:Az->AW NU)(ad:Bt->I Az)(s:Bq):Prop extends Ar T n A X env vars ad s where
 wr:Wr T env vars X Z ad s.heap
structure bW(T:Th)(s:Bq)(e:Am):Prop where
 obj:∃a o,e=AH a/\AA s.heap a=D o/\o.cls=Ae "ValueError"
structure Rj(X X':Az->Prop)(Z:Az->AW NU):Prop where
 up:∀a,X a->Z a≠AQ->X' a
 new:∀a,X' a->X a\/Z a=AQ
theorem Rj.refl:Rj X X Z:=⟨λ_ h _=>h,λ_ h=>Ax h⟩
theorem Rj.trans(a:Rj X X' Z)(b:Rj X' i Z):Rj X i Z:=⟨λx h z=>b.up x (a.up x h z) z,λx h=>(b.new x h).elim (a.new x) BC⟩
def SX(T:Th)(n:Aj)(env:Pc)(vars:BD)(st:Ct)(R:Fl->BD->Prop):Prop:=
 ∀A X Z ad s Q E,Sx T n A X env vars Z ad s->
  (∀fl f a X' Ez s',R fl a->Rj X X' Z->bV T s'.heap X' fl f->Sx T n A X' env a Z Ez s'->Q f s')->
  (∀e a X' Ez s',R mx a->Rj X X' Z->bW T s' e->Sx T n A X' env a Z Ez s'->E e s')->Ao (M T) A (exec st env) Q E s
def Ex(T:Th)(n:Aj)(env:Pc)(vars:BD)(st:I Ct)(R:Fl->BD->Prop):Prop:=
 ∀A X Z ad s Q E,Sx T n A X env vars Z ad s->
  (∀fl f a X' Ez s',R fl a->Rj X X' Z->bV T s'.heap X' fl f->Sx T n A X' env a Z Ez s'->Q f s')->
  (∀e a X' Ez s',R mx a->Rj X X' Z->bW T s' e->Sx T n A X' env a Z Ez s'->E e s')->Ao (M T) A (Ve st env) Q E s
section
variable{T:Th}{n:Nat}{env:Env}{vars:BD}
theorem jk(h:R Aq vars):Ex T n env vars [] R:= λA X Z ad s Q E a k _=>KV<|k Aq HK vars X ad s h .refl Mg a
def AGC(T:Th)(n:Aj)(env:Pc)(rest:I Ct)(R:Fl->BD->Prop):Fl->BD->Prop:= λfl a=>match fl with|.next=>Ex T n env a rest R|fl=>R fl a
theorem My{st:Ct}(h:SX T n env vars st (AGC T n env rest R)):Ex T n env vars (st::rest) R:=by
 intro A X Z ad s Q E a k G;refine DQ<|h A X Z ad s _ E a (λfl f d X' Ez s' x q L y=>?_) λe d X' Ez s' x q C y=>G e d X' Ez s' x q C y;cases L with
 |next=>exact x A X' Z Ez s' Q E y (λfl f g u i j r l z v=>k fl f g u i j r (q.trans l) z v) λe g u i j r l C v=>G e g u i j r (q.trans l) C v
 |brk=>exact k .brk .brk d X' Ez s' x q .brk y
 |cont=>exact k RW .cont d X' Ez s' x q .cont y
 |ret t=>exact k (JF _) (N8 _) d X' Ez s' x q (.ret t) y
theorem SX.weak{st:Ct}(h:SX T n env vars st R)(w:∀fl v,R fl v->R' fl v):SX T n env vars st R':=
 λA X Z ad s Q E i k y=>h A X Z ad s Q E i (λfl f j X' Ez s' u=>k fl f j X' Ez s'<|w _ _ u) λe j X' Ez s' u=>y e j X' Ez s'<|w _ _ u
theorem Ex.weak{st:I Ct}(h:Ex T n env vars st R)(w:∀fl v,R fl v->R' fl v):Ex T n env vars st R':=
 λA X Z ad s Q E i k y=>h A X Z ad s Q E i (λfl f j X' Ez s' u=>k fl f j X' Ez s'<|w _ _ u) λe j X' Ez s' u=>y e j X' Ez s'<|w _ _ u
theorem Wr.ext{ad:Bt->I Az}(w:Wr T env vars X Z ad s.heap)(h:Cm T s)(E:C1 T s.heap h'):Wr T env vars X Z ad h' where
 nd:=w.nd
 ns:=(by refine EX w.ns λm o es G i j r=>?_;exact⟨m,o,es,G,E _ _ (h.Bn i<|by rw[j];exact K3 B) i,j,r⟩)
 xl:=w.xl
 zl:=w.zl
 cell:= λx c C y=>(by(refine F3 (w.cell x c C y) λu r=>?_;obtain⟨v,o,i,j⟩:=u);exact⟨⟨v,o,E _ _ (h.Bn i<|by rw[j];exact K3 B) i,j⟩,r⟩)
 apart:=w.apart
 own:=w.own
 inj:=w.inj
 keep:= λa o e t=>E a o t<|w.keep a o e t
 base:=w.base
theorem Sx.ext(O:Cr T){ad:Bt->I Az}(h:Sx T n A X env vars Z ad s)(E:C1 T s.heap s'.heap)(i:Cm T s'):Sx T n A X env vars Z ad s':=
 ⟨h.toAr.ext O E i,h.wr.ext h.inv E⟩
theorem ng(O:Cr T){ad:Bt->I Az}(d:Cm T s)(w:Wr T env vars X Z ad s.heap)(x:Hs T X s.heap)(N:X b)(L:AA s.heap b=D o)(hd:KJ o)(hz:Z b=AQ)
  (hs:Hg b s.heap s'.heap)(j:∃o',AA s'.heap b=D o'/\KJ o')(e1:s'.os=s.os:=by rfl)(e2:s'.gens=s.gens:=by rfl):
  Cm T s'/\Up s.heap X s'.heap X/\Hs T X s'.heap/\ ∀a o,Z a=D o-> ¬T.Tab a->AA s'.heap a=D o:=by
 have nt:=d.KA L hd;have Q:Up s.heap X s'.heap X:= λa o e G=>⟨(hs.2 a λq=>G<|q▸N).trans e,G⟩;have C:∀a o,Z a=D o-> ¬T.Tab a->AA s'.heap a=D o:= λa o e t=>(hs.2 a λq=>by rw[q,hz]at e;exact EN e).trans<|w.keep a o e t;refine⟨⟨λa o t e=>C a o (w.base a o e t) t,λa i=>?_,e1.trans d.os,e2▸d.gens⟩,Q,⟨x.tab,λa i=>?_⟩,C⟩
 ·refine Ap (d.tab a i) λvs e t=>?_;have l:a≠b:= λq=>nt<|q▸i;exact(CB vs ((hs.2 a l).trans e)<|O.Us _ _ _ _ t λc oc fs z u hf=>(hs.2 c λq=>by rw[q,L]at z;obtain rfl:=AE z;rcases hd with hd|hd;exact hd _ hf;exact hd.2 u).trans z)
 ·by_cases g:a=b
  ·refine Ap j λo' y v=>?_;rcases x.kind a i with h|⟨r,_⟩
   ·exact Ax h
   ·exact BC ⟨r,o',g▸y,v⟩
  ·rcases x.kind a i with h|⟨r,oa,y,v⟩
   ·exact Ax h
   ·exact BC ⟨r,oa,(hs.2 a g).trans y,v⟩
theorem Rk{h:Dw}(g:h.Ns env.locals m)(j:h.IsCell c v):env.locals≠c:=by rintro rfl;refine FW g λo es l e i _=>?_;refine Ap j λo' d a=>?_;obtain rfl:=AE<|e.symm.trans d;(rw[i]at a;cases a)
theorem SY(O:Cr T){ad Ez:Bt->I Az}(g:Sx T n A X env vars Z ad s)
  (hp:∀h',Up s.heap X h' X->(∀a,a≠env.locals->(∀y c,env.kindOf y=D BX->env.cells.lookup y=D c->a≠c)->AA h' a=AA s.heap a)->Rd env h' x v->NK T env X h' Ez x pv)
  (a6:∀ {f} o,pv=BP f o->∀b∈Ez x,(Z b=AQ/\b≠env.locals/\ ∀y c,env.kindOf y=D BX->env.cells.lookup y=D c->b≠c)/\ ∀ {f'} y o',y≠x->(y,BP f' o')∈vars->b∉ad y)
  (N:∀y,y≠x->Ez y=ad y)
  (hk:env.scope.kind=BY)(hx:Oy env vars x)
  (k:∀s',Up s.heap X s'.heap X->(∀a,a≠env.locals->(∀y c,env.kindOf y=D BX->env.cells.lookup y=D c->a≠c)->AA s'.heap a=AA s.heap a)->Sx T n A X env (D3 x pv vars) Z Ez s'->Q () s'):Ao (M T) A' (Ic env x v) Q E s:=by
 have c0:∀w s',Hg w s.heap s'.heap->(∀a,a≠env.locals->(∀y c,env.kindOf y=D BX->env.cells.lookup y=D c->a≠c)->a≠w)->Cm T s'->Up s.heap X s'.heap X->Hs T X s'.heap->(∀a o,Z a=D o-> ¬T.Tab a->AA s'.heap a=D o)->
   Rd env s'.heap x v->(∃m,s'.heap.Ns env.locals m)->(∀y u,y≠x->Rd env s.heap y u->Rd env s'.heap y u)->(∀y c,env.kindOf y=D BX->env.cells.lookup y=D c->∃v',s'.heap.IsCell c v')->Q () s':=by
  intro w s' i hw I' up x' zk c3 c4 b4 b8;have a0:∀a,a≠env.locals->(∀y c,env.kindOf y=D BX->env.cells.lookup y=D c->a≠c)->AA s'.heap a=AA s.heap a:= λa h1 h2=>i.2 a<|hw a h1 h2;have a9:∀ {f} y o,(y,BP f o)∈D3 x pv vars->(y=x/\pv=BP f o)\/((y,BP f o)∈vars/\y≠x):= λy o hm=>
   (Nd g.wr.nd _ hm).imp_left λe=>⟨BI CZ e,(BI Ot e).symm⟩
  refine k s' up a0 ⟨⟨g.a,I',x',λp a5=>?_⟩,⟨by rw[Ri];exact g.wr.nd,c4,g.wr.xl,g.wr.zl,λy c h1 h2=>?_,g.wr.apart,λy o hm b hb=>?_,λy z o o' hy hz b hb hc=>?_,zk,g.wr.base⟩⟩
  ·rcases Nd g.wr.nd p a5 with e|⟨a5,C⟩
   ·exact e▸hp s'.heap up a0 c3
   ·have b5:=g.f p a5;obtain⟨y,a⟩:=p;cases a with
    |no=>trivial
    |d t'=>refine Ap b5 λu' r tr=>?_;exact⟨u',b4 y u' C r,tr.up O up⟩
    |own fx ow=>
     refine FD b5 λr xa w c6=>?_;show NK T env X s'.heap Ez y<|BP fx ow;unfold NK;rw[N y C];exact⟨b4 y _ C r,xa,w.up O up λb hb o ho=>(a0 _ (g.wr.own y ow a5 b hb).2.1 (g.wr.own y ow a5 b hb).2.2).trans ho,c6⟩
  ·exact⟨b8 y c h1 h2,(g.wr.cell y c h1 h2).2.imp id λq=>⟨Pn.mpr q.1,q.2⟩⟩
  ·rcases a9 y o hm with e|h
   ·exact(a6 o e.2 b<|e.1▸hb).1
   ·exact g.wr.own y o h.1 b<|N y h.2▸hb
  ·rcases a9 y o hy with e1|h1
   ·rcases a9 z o' hz with e2|h2
    ·exact e1.1.trans e2.1.symm
    ·exact Ay (N z h2.2▸hc)<|(a6 o e1.2 b<|e1.1▸hb).2 z o' h2.2 h2.1
   ·rcases a9 z o' hz with e2|h2
    ·exact Ay (N y h1.2▸hb)<|(a6 o' e2.2 b<|e2.1▸hc).2 y o h1.2 h1.1
    ·exact g.wr.inj y z o o' h1.1 h2.1 b (N y h1.2▸hb)<|N z h2.2▸hc
 refine F3 hx λhx c5=>?_;refine Dx g.wr.ns λm hm=>?_;rcases hx with hl|⟨hc,hs⟩
 ·refine FW (id hm) λo es ep ho hd hr=>?_;refine L6 hl hm (λh' b0 i=>?_)<|by rw[hk];rfl
  have b3:∃o',AA h' env.locals=D o'/\KJ o':=(by refine FW b0 λo' _ _ h1 h2 _=>?_;exact(CB o' h1<|Ax<|by rw[h2];exact K3 B));refine FD (ng (s':= {s with heap:=h',toks:=s.toks+1}) O g.inv g.wr g.x g.wr.xl ho (Ax<|by rw[hd];exact K3 B) g.wr.zl i b3) λI' up x' zk=>?_;have c1:∀c v,s.heap.IsCell c v->c≠env.locals:= λc v hv=>Gk<|Rk hm hv;refine c0 env.locals _ i (λa h _=>h) I' up x' zk (Ax ⟨hl,_,b0,by simp⟩) ⟨_,b0⟩ (λy u C r=>?_) λy c h1 h2=>?_
  ·rcases r with⟨L,b1,G,j⟩|⟨L,c,hc,hv⟩
   ·refine Ax ⟨L,_,b0,(CQ C).trans<|AE5 ?_ j⟩;refine EJ G λo1 c8 c9 a1 a2 a3 a4=>?_;obtain rfl:=AE<|ho.symm.trans a1;(rw[hd]at a2;cases a2);rw[<-a4 y,hr.2 y]
   ·exact BC ⟨L,c,hc,hv.sameBut i<|c1 _ _ hv⟩
  ·refine Dx (g.wr.cell y c h1 h2).1 λv' hv=>?_;exact⟨v',hv.sameBut i<|c1 _ _ hv⟩
 ·refine Dx (SN hs) λc a8=>?_;refine F3 (g.wr.cell x c hc a8) λz0 c2=>?_;refine F3 (c2.resolve_right λq=>c5 q.1) λxc zc=>?_;refine Dx z0 λc7 l=>?_;refine Ap (id l) λo ho hd=>?_;refine T4 hk hc a8 l λh' b2 i=>?_;have b3:∃o',AA h' c=D o'/\KJ o':=(by refine Ap b2 λo' h1 h2=>?_;exact(CB o' h1<|Ax<|by rw[h2];exact K3 B));refine FD (ng (s':= {s with heap:=h'}) O g.inv g.wr g.x xc ho (Ax<|by rw[hd];exact K3 B) zc i b3) λI' up x' zk=>?_;have b6:=Rk hm l;refine c0 c _ i (λa _ h=>h x c hc a8) I' up x' zk (BC ⟨Ax hc,c,a8,b2⟩) ⟨_,hm.sameBut i b6⟩ (λy u C r=>?_) λy d h1 h2=>?_
  ·rcases r with⟨L,b1,G,j⟩|⟨L,d,b9,hv⟩
   ·exact Ax ⟨L,b1,G.sameBut i b6,j⟩
   ·exact BC ⟨L,d,b9,hv.sameBut i λq=>C<|g.wr.apart _ _ _ (q▸b9) a8⟩
  ·by_cases b7:d=c
   ·exact⟨_,b7▸b2⟩
   ·exact(g.wr.cell y d h1 h2).1.imp λv' hv=>hv.sameBut i b7
theorem MJ(O:Cr T){ad:Bt->I Az}(a:Sx T n A X env vars Z ad s)(h:Tr T s.heap X t v)
  (i:env.scope.kind=BY)(g:Oy env vars x)
  (k:∀s',Sx T n A X env (D3 x (mw t) vars) Z ad s'->Q () s'):Ao (M T) j (Ic env x v) Q E s:=
 SY (pv:=mw t) (Ez:=ad) O a (λh' d _ r=>⟨v,r,h.up O d⟩) (λo e=>by cases e) (λ_ _=>B) i g λs' _ _=>k s'
theorem uf(O:Cr T){ad:Bt->I Az}(a:Sx T n A X env vars Z ad s)(h:Tr T s.heap X t v)
  (i:env.scope.kind=BY)(g:Oy env vars x)
  (k:∀s',Up s.heap X s'.heap X->Sx T n A X env (D3 x (mw t) vars) Z ad s'->Q () s'):Ao (M T) A (Ic env x v) Q E s:=
 SY (pv:=mw t) (Ez:=ad) O a (λh' d _ r=>⟨v,r,h.up O d⟩) (λo e=>by cases e) (λ_ _=>B) i g λs' u _=>k s' u
theorem ug{a:Type}[Decidable c]{x:AW a}{o:a}(h:(if c then AQ else x)=D o): ¬c/\x=D o:=by
 by_cases q:c
 ·rw[Dh q]at h;exact EN h
 ·rw[CQ q]at h;exact⟨q,h⟩
theorem Sx.reZ{ad:Bt->I Az}(h:Sx T n A X env vars Z ad s)(zl:u env.locals=AQ)(zc:∀y c,env.kindOf y=D BX->env.cells.lookup y=D c->X c->Z c=AQ->u c=AQ)(Q:∀ {f} y o,(y,BP f o)∈vars->∀b∈ad y,Z b=AQ->u b=AQ)
  (i:∀a o,u a=D o-> ¬T.Tab a->AA s.heap a=D o)(j:∀a o,AA T.H1 a=D o-> ¬T.Tab a->u a=D o):Sx T n A X env vars u ad s:=
 ⟨h.toAr,⟨h.wr.nd,h.wr.ns,h.wr.xl,zl,λy c N L=>(h.wr.cell y c N L).imp id<|Or.imp (λq=>⟨q.1,zc y c N L q.1 q.2⟩) id,h.wr.apart,λy o C b G=>(h.wr.own y o C b G).imp (Q y o C b G) id,h.wr.inj,i,j⟩⟩
end
open Mine.Fl renaming cont->RW,exc->mx,next->Aq,ret->JF
open Mine.bV renaming next->Mg
noncomputable def stores(env:Pc)(x:Bt):Bool:=(env.kindOf x==D .local)||((env.kindOf x==D BX)&&(env.cells.lookup x).isSome)
theorem Wg(O:Cr T)(r:env.scope.kind=BY)(u:Ev T n env vars e d)(q:Oy env vars x)
  (k:R Aq (D3 x (mw d) vars))(hs:HC e (D (Bu x l)) pos.line env=Ce false:=by rfl):SX T n env vars (Fg [Bu x l] e pos) R:=by
 intro A X Z ad s Q E a K z;refine HD (u A X ad s _ _ a.toAr λv j g i h=>?_) hs;exact MJ O (a.ext O g i) h r q λs' y=>K Aq HK _ X ad s' k .refl Mg y
theorem jl(O:Cr T)(l:Ev T n env vars e d)(k:R (JF d) vars):SX T n env vars (.Return (D e) pos) R:=by intro A X Z ad s Q E a K q;exact wpAny_Return_some<|l A X ad s _ _ a.toAr λv i g j h=>K (JF d) (N8 v) vars X ad i k .refl (.ret h)<|a.ext O g j
theorem jm(O:Cr T)(j:bN T n env vars c t)(q:t=J->Ex T n env vars a R)(l:t=AB->Ex T n env vars b R):SX T n env vars (.If c a b pos) R:=by
 intro A X Z ad s Q E d K i;refine AIc<|j A X ad s _ _ d.toAr λg e h=>?_;cases t with
 |true=>exact q B A X Z ad g Q E (d.ext O e h) K i
 |false=>exact l B A X Z ad g Q E (d.ext O e h) K i
theorem uh(k:R Aq vars):SX T n env vars (AHd pos) R:= λA X Z ad s Q E a K _=>wpAny_Pass<|K Aq HK vars X ad s k .refl Mg a
theorem OI:∀a m,(a.map CZ).Nodup->(y,v)∈a->kf y=D .local->AE6 kf a m y=D v:=by
 have d:∀a m,y∉a.map CZ->AE6 kf a m y=m y:=by
  intro a;induction a with
  |nil=>intro m _;rfl
  |cons p r g=>
   intro m hn;have hn:y≠p.1/\y∉r.map Prod.fst:=⟨dQ hn,YW hn⟩;refine(g _ hn.2).trans ?_;by_cases q:kf p.1=D .local
   ·rw[Dh q];exact CQ hn.1
   ·rw[CQ q]
 intro a;induction a with
 |nil=>exactλm _ h=>Ay h Au
 |cons p r g=>
  intro m hn h i;have hn:=Cj.mp hn;rcases DO h with e|h
  ·subst e;refine(d r _ hn.1).trans ?_;rw[Dh i];exact Dh B
  ·exact g _ hn.2 h i
theorem OJ:∀a m,(a.map CZ).Nodup->(y,v)∈a->kf y≠D .local->jE kf a m y=D v:=by
 have d:∀a m,y∉a.map CZ->jE kf a m y=m y:=by
  intro a;induction a with
  |nil=>intro m _;rfl
  |cons p r g=>
   intro m hn;have hn:y≠p.1/\y∉r.map Prod.fst:=⟨dQ hn,YW hn⟩;refine(g _ hn.2).trans ?_;by_cases q:kf p.1=D .local
   ·rw[Dh q]
   ·rw[CQ q];exact CQ hn.1
 intro a;induction a with
 |nil=>exactλm _ h=>Ay h Au
 |cons p r g=>
  intro m hn h i;have hn:=Cj.mp hn;rcases DO h with e|h
  ·subst e;refine(d r _ hn.1).trans ?_;rw[CQ i];exact Dh B
  ·exact g _ hn.2 h i
noncomputable def Se(ds:I DV):I PV:=ds.map mw
noncomputable def EB(ps:I Bt)(ds:I DV)(locs:I Bt):BD:=ps.zip (Se ds)++locs.map λx=>(x,Af)
def jn(d:DV):Fl->BD->Prop:= λfl _=>match fl with|.ret a=>a=d|.next=>d=BK|_=>Yd
theorem AGD(h:mw a=mw b):a=b:=by cases h;rfl
theorem nh{ps:I Bt}(h:p∈ps.zip ([]:I a)){P:Prop} :P:=Ay (tO▸h) Au
theorem jq:∀ {ps:I Bt} {ds:I DV} {vs:I Am},A8 T h X ds vs->(x,mw t)∈ps.zip (Se ds)->∃v,(x,v)∈ps.zip vs/\Tr T h X t v:=by
 intro ps;induction ps with
 |nil=>exactλ_ e=>Ay e Au
 |cons p ps i=>
  intro ds vs r e;cases ds with
  |nil=>exact nh (ps:=p::ps) e
  |cons d ds=>
   obtain⟨v,ws,rfl,a,r⟩:=r.inv;rcases DO e with q|q
   ·obtain⟨rfl,g⟩:=FL q;exact(CB v (B0 _)<|AGD g▸a)
   ·exact(i r q).imp λu h=>⟨Cb _ h.1,h.2⟩
theorem bX:∀ {ps:I Bt} {ds:I DV},(x,w)∈ps.zip (Se ds)->∃t,w=mw t
 |[],_,hm=>by simp at hm
 |p::ps,[],hm=>by simp[Se]at hm
 |p::ps,d::ds,hm=>by
  simp only[Se,B4,DU,CV,zP]at hm;rcases hm with⟨_,rfl⟩|hm
  ·exact⟨_,B⟩
  ·exact bX (ps:=ps) hm
theorem MK{locs:I Bt}(h:p∈EB ps ds locs):p.2=Af\/ ∃t,p.2=mw t/\(p.1,mw t)∈ps.zip (Se ds):=by
 rcases IF h with h|h
 ·refine Dx (bX (x:=p.1) (w:=p.2) h) λt e=>?_;exact BC<|CB t e<|e▸h
 ·(refine Ap (JY h) λx _ a=>?_;subst a)
  exact Ax B
structure ACr(T:Th)(f:Az)(fd:T1):Prop where
 obj:∃o,AA T.H1 f=D o/\o.data=IB fd
 tab: ¬T.Tab f
 code:T.H1.CodeRec fd.code fd.qualname
 Te:∀c,fd.code=AH c-> ¬T.Tab c
 Cd:fd.closure=[]
 co:fd.scope.isCoroutine=AB
 gen:fd.scope.isGenerator=AB
 kind:fd.scope.kind=BY
theorem Fy:∀ {l:I (Bt×a)},(l.lookup x).isSome=J↔x∈l.map CZ
 |[] =>by simp
 |(y,v)::r=>by
  rw[CE];cases e:x==y with
  |true=>simp only[Bh]at e;simp[e]
  |false=>
   have:x≠y:=by simpa using e
   simp[this,Fy (l:=r)]
theorem IT(h:((B3 0 a []).lookup x).isSome=J):((B3 k a []).lookup x).isSome=true:=by rw[Fy]at h⊢;rwa[R6 a k 0 [] [] B]
theorem LQ{l:I (Bt×Az)}(hp:l.Pairwise λx y=>x.2≠y.2)(d:l.lookup x=D c)(a:l.lookup y=D c):x=y:=by
 induction l with
 |nil=>cases d
 |cons p r e=>
  have hp:=tP.mp hp;rw[CE]at d a;cases e1:x==p.1 with
  |true=>
   rw[e1]at d;cases e2:y==p.1 with
   |true=>exact(F7 e1).trans (F7 e2).symm
   |false=>rw[e2]at a;exact Ay (AE d)<|hp.1 (y,c)<|BW a
  |false=>
   rw[e1]at d;cases e2:y==p.1 with
   |true=>rw[e2]at a;exact Ay (AE a)<|hp.1 (x,c)<|BW d
   |false=>rw[e2]at a;exact e hp.2 d a
theorem Up.less(k:∀a,X a->X' a):Up h X' h X:= λa o e n=>⟨e,λq=>n<|k a q⟩
theorem eC(O:Cr T){ps locs:I Bt}(i:ACr T f fd)(a8:fd.body=KS body)(hl:U ps=U ds)
  (a9:∀vs,U vs=U ps->CG fd ⟨vs,[]⟩=Ce (ps.zip vs))(b2:(ps++locs).Nodup)
  (Q:∀x∈ps,fd.scope.names.lookup x=D .local\/(fd.scope.names.lookup x=D BX/\((B3 0 fd.scope.names []).lookup x).isSome=J))
  (b8:∀L,Ex T n (zt fd L f) (EB ps ds locs) body (jn d)):jh T (n+1) (Ah (AH f)) ds d:=by
 intro A X s fv vs RR a g x tf ta K;obtain rfl:=tf.inv;have a1:=ta.length;refine Ap i.obj λo ho hd=>?_;have b3:∀p∈ps.zip vs,p.1∈ps:= λp hp=>(Df (a:=p.1) (b:=p.2) hp).1;have b1:((ps.zip vs).map CZ).Nodup:=by rw[FJ<|DT [_,_,_] [.e A9 BQ,.e B5 BQ] A9 B5 [1,-1] B hl a1];exact(EH.mp b2).1
 refine codeAny_call_cells (o:=o) (fd:=fd) a.room (g.ext _ _ i.tab ho) hd (g.lim O) ?_ a8 (a9 vs<|by rw[a1,hl]) i.Cd ?_ (λs₁ C=>?_) i.co i.gen i.kind
 ·refine EX i.code λc oc fs t e1 e2 e3=>?_;exact⟨c,oc,fs,t,e1,g.ext _ _ (i.Te c e1) e2,e3⟩
 ·intro p hp;rcases Q p.1 (b3 p hp)with h|⟨h,h'⟩
  ·exact Ax h
  ·exact BC ⟨h,IT h'⟩
 ·generalize N:zt fd (AK s.heap.objs) f=env at C⊢;have hL:env.locals=AK s.heap.objs:=by rw[<-N];rfl
  have hN:∀y,env.kindOf y=fd.scope.names.lookup y:= λy=>by rw[<-N];rfl
  have hC:env.cells=B3 (AK s.heap.objs+1) fd.scope.names [] :=by rw[<-N];rfl
  have r:∀b,AK s.heap.objs<=b->AA s.heap b=none:= λb G=>by
   cases e:AA s.heap b with
   |none=>rfl
   |some o'=>exact Ay (BS e)<|G6.mpr G
  have a6:∀y c,env.cells.lookup y=D c->AK s.heap.objs<c:= λy c hc=>by have:=C.above y c<|BW hc;rwa[hL]at this
  have a0:∀b,AA s.heap b=AQ->AA T.H1 b=none:= λb G=>by
   cases e:AA T.H1 b with
   |none=>rfl
   |some o'=>
    by_cases ht:T.Tab b
    ·refine Ap (g.tab b ht) λc2 e' _=>?_;exact EN<|G.symm.trans e'
    ·exact Tt<|(g.ext b o' ht e).symm.trans G
  refine I9 C.done λc1 tk l hk=>?_;have b4:Cm T s₁:=g.keeps O (by rw[l];exact hk) (by rw[l])<|by rw[l]
  have X0:Hs T X s₁.heap:=x.ext g<|C1.of_keeps<|by rw[l];exact hk
  let X₁:Az->Prop:= λb=>X b\/b=env.locals\/ ∃y,env.cells.lookup y=D b
  have b0:∀b,X b->X₁ b:= λb G=>Ax G;refine FW (id C.toInCall.ns) λoL c5 c6 b6 c0 c3=>?_;have u:∀y c,env.cells.lookup y=D c->s₁.heap.IsCell c (jE env.kindOf (ps.zip vs) (λ_=>AQ) y):= λy c hc=>C.cell y c hc;have X1:Hs T X₁ s₁.heap:=⟨λb G=>Ax<|x.tab b G,λb G=>by
   rcases G with G|rfl|⟨y,hy⟩
   ·exact X0.kind b G
   ·exact BC ⟨a0 _<|r _<|by rw[hL];exact BO _,oL,b6,Ax<|by rw[c0];exact K3 B⟩
   ·refine Ap (u y b hy) λoc b5 b9=>?_;exact BC ⟨a0 _<|r _<|C7<|a6 y b hy,oc,b5,Ax<|by rw[b9];exact K3 B⟩⟩
  have a4:Up s.heap X s₁.heap X₁:= λb ob e nx=>⟨by rw[l];exact hk b ob e,λq=>by
   rcases q with q|rfl|⟨y,hy⟩
   ·exact nx q
   ·(exact EN<|(r _<|by rw[hL];exact BO _).symm.trans e)
   ·exact EN<|(r _<|C7<|a6 y b hy).symm.trans e⟩
  have j:Sx T n (A.deeper env) X₁ env (EB ps ds locs) (AA s.heap) (λ_=>[]) s₁:=by
   refine⟨⟨a.deeper env,b4,X1,λp hp=>?_⟩,?_,⟨_,C.toInCall.ns⟩,BC<|Ax B,?_,λy c h1 h2=>⟨⟨_,u y c h2⟩,Ax ⟨BC<|BC ⟨y,h2⟩,?_⟩⟩,λy z c h1 h2=>LQ C.apart h1 h2,λy ow hm=>?_,λy z o1 o2 hm _ _=>?_,λb ob e _=>by rw[l];exact hk b ob e,λb ob e nt=>g.ext b ob nt e⟩
   ·obtain⟨y,pv⟩:=p;rcases MK hp with e|⟨t,e,hm⟩
    ·dsimp only at e;subst e;trivial
    ·dsimp only at e hm;subst e
     refine Ap (jq ta hm) λv hv tv=>?_;refine⟨v,?_,tv.up O a4⟩;rcases Q y (b3 _ hv)with h|⟨h,h'⟩
     ·exact Ax ⟨by rw[hN];exact h,_,C.toInCall.ns,OI _ _ b1 hv<|by rw[hN];exact h⟩
     ·refine Dx (SN<|IT (k:=AK s.heap.objs+1) h') λc hc=>?_;rw[<-hC]at hc;have b7:env.kindOf y≠D .local:=by rw[hN,h];nofun
      exact BC ⟨Ax<|by rw[hN];exact h,c,hc,by rw[<-OJ (kf:=env.kindOf) _ (λ_=>AQ) b1 hv b7];exact u y c hc⟩
   ·have:(EB ps ds locs).map CZ=ps++locs:=by
     unfold EB;rw[Cv,FJ<|by simp[Se];exact B8<|by assumption,iZ]
     congr 1
     exact V9 _
    rw[this];exact b2
   ·exact r _<|by rw[hL];exact BO _
   ·exact r _<|C7<|a6 y c h2
   ·rcases MK hm with e|⟨t,e,_⟩<;>cases e
   ·rcases MK hm with e|⟨t,e,_⟩<;>cases e
  have a2:=b8<|AK s.heap.objs;rw[N]at a2;refine a2 (A.deeper env) X₁ (AA s.heap) (λ_=>[]) s₁ _ _ j (λfl c4 a3 X' Ez s' hr hx hf S'=>?_) λe a3 X' Ez s' hr=>hr.elim;have ext:C1 T s.heap s'.heap:= λb ob nt e=>S'.wr.keep b ob e nt;have a5:Up s'.heap X' s'.heap X:=Up.less λb G=>by
   rcases x.kind b G with h|⟨_,o,ho,_⟩
   ·exact S'.x.tab b h
   ·exact hx.up b (b0 b G)<|by rw[ho];exact SR
  cases hf with
  |next=>obtain rfl:d=BK:=hr;exact K AN s' ext S'.inv YU
  |brk=>exact hr.elim
  |cont=>exact hr.elim
  |ret t=>cases hr;exact K _ s' ext S'.inv<|t.up O a5
theorem AAg(O:Cr T){ps locs:I Bt}(a:ACr T f fd)(g:fd.body=KS body)(l:U ps=U ds)
  (h:∀vs,U vs=U ps->CG fd ⟨vs,[]⟩=Ce (ps.zip vs))(i:(ps++locs).Nodup)
  (e:∀x∈ps,fd.scope.names.lookup x=D .local\/(fd.scope.names.lookup x=D BX/\((B3 0 fd.scope.names []).lookup x).isSome=J))
  (j:∀L,Ex T n (zt fd L f) (EB ps ds locs) body (jn d)):CP T (n+1) (Ah (AH f)) ds d:=(eC O a g l h i e j).app
noncomputable def nj:K2->DV
 |.lst ds=>AL ds
 |.Ft ks ds=>EL ks ds
 |.PR a=>AL (a.map AL)
 |.inst C ns ds=>YT C ns ds
 |.wl C n ds=>YT C [n] [AL ds]
noncomputable def eH:PV->PV
 |.own _ o=>mw (nj o)
 |p=>p
noncomputable def lend(pv:BD):BD:=pv.map λp=>(p.1,eH p.2)
noncomputable def Yc(x:Bt):BD->BD
 |[] =>[]
 |p::r=>bif Jm x p.1 then(p.1,eH p.2)::r else p::Yc x r
theorem Du(a:Cm T s)(h:AA s.heap b=AQ):AA T.H1 b=AQ/\ ¬T.Tab b:=by
 have d: ¬T.Tab b:= λq=>by refine Ap (a.tab b q) λvs e _=>?_;exact EN<|h.symm.trans e
 refine⟨?_,d⟩;cases e:AA T.H1 b with
 |none=>rfl
 |some o=>exact Tt<|(a.ext b o d e).symm.trans h
theorem Cm.turn(O:Cr T){b:Az}(i:Cm T s)(Q:AA T.H1 b=AQ)(y:∀o,AA s.heap b=D o->KJ o)(hs:∀a o,a≠b->AA s.heap a=D o->AA s'.heap a=D o)(e1:s'.os=s.os:=by rfl)(e2:s'.gens=s.gens:=by rfl):Cm T s':=by
 have L: ¬T.Tab b:= λq=>by refine Ap (i.tab b q) λvs e _=>?_;exact i.KA e (y _ e) q
 refine⟨λa o t e=>hs a o (λq=>by rw[q,Q]at e;exact EN e)<|i.ext a o t e,λa u=>?_,e1.trans i.os,e2▸i.gens⟩;refine Ap (i.tab a u) λvs e t=>?_;exact⟨vs,hs a _ (λq=>L<|q▸u) e,O.Us _ _ _ _ t λc G fs C j N=>hs c G (λq=>by
  subst q;rcases y _ C with h|h
  ·exact h _ N
  ·exact h.2 j) C⟩
theorem A8.less(O:Cr T)(k:∀a,X' a->X a)(t:A8 T h X ds vs):A8 T h X' ds vs:=t.up O<|Up.less k
theorem Tr.less(O:Cr T)(k:∀a,X' a->X a)(t:Tr T h X d v):Tr T h X' d v:=t.up O<|Up.less k
theorem Ei.tree(O:Cr T)(j:∀b,X' b->X b)(i:∀b∈F,¬X' b)(w:Ei T X h F o):Tr T h X' (nj o) (AH (HI F)):=by
 cases o with
 |lst _=>refine Bk w λa vs e p t=>?_;subst e;exact dD p.isList (i a<|B0 _)<|t.less O j
 |Ft _ _=>refine Bk w λa vs e p t=>?_;subst e;exact .Ft p (i a<|B0 _)<|t.less O j
 |PR N=>
  refine BU w λa as e G p r=>?_;subst e;refine dD p.isList (i a<|by simp) ?_;have u:∀b∈as,¬X' b:= λb y=>i b<|by simp[y]
  clear p G i w;induction r with
  |nil=>exact E4
  |cons x r L=>
   refine Ap x λvs q t=>?_;exact Cw (dD q.isList (u _<|by simp)<|t.less O j)<|L λb y=>u b<|by simp[y]
 |inst _ _ _=>obtain⟨a,C,vs,e,Q,p,t⟩:=w;subst e;exact .inst p (i a<|B0 _) (i C<|Cb _<|B0 _)<|t.less O j
 |wl _ _ _=>
  obtain⟨a,C,l,vs,e,G,p,q,t⟩:=w;subst e;exact .inst p (i a<|B0 _) (i C<|Cb _<|B0 _)<|Cw (dD q.isList (i l<|Cb _<|Cb _<|B0 _)<|t.less O j) E4
theorem Ar.lend(O:Cr T){ad:Bt->I Az}(R:Ar T n A X env pv ad s):∃X',Ar T n A X' env (lend pv) ad s/\ ∀b,X' b->X b:=by
 let X':Az->Prop:= λb=>X b/\ ∀x f o,(x,BP f o)∈pv->b∉ad x
 have L:∀b,X' b->X b:= λb h=>h.1;refine(CB X' ⟨R.a,R.inv,⟨λa ha=>⟨R.x.tab a ha,λx f o j G=>?_⟩,λa ha=>R.x.kind a ha.1⟩,λp hp=>?_⟩ L)
 ·refine FD (R.f _ j) λ_ _ w _=>?_;refine Ap (w.fields a G) λo' h1 h2=>?_;exact R.inv.Bn h1 h2 ha
 ·(refine Ap (JY hp) λC j N=>?_;obtain⟨y,w⟩:=C;subst N)
  have i:=R.f _ j;cases w with
  |no=>trivial
  |d t=>refine Ap i λu r Q=>?_;exact⟨u,r,Q.less O L⟩
  |own f o=>
   refine FD i λr xa w _=>?_;exact⟨_,r,w.tree O L λb G q=>q.2 y f o j G⟩
theorem MM(O:Cr T)(h:bN T n env (lend pv) e b):bN T n env pv e b:=by intro A X ad s Q E R k;refine Ap (R.lend O) λX' a _=>?_;exact h A X' ad s Q E a k
noncomputable def Sh:DV->Ba
 |.none=>J
 |.bool _=>J
 |.int _=>J
 |.str _=>J
 |.bytes _=>J
 |.val _=>J
 |_=>AB
theorem Sh.any(i:Sh d=J)(t:Tr T h X d v):Tr T h X' d v:=by cases t<;>first|((first|exact Pm i|cases i);done)|constructor
theorem nq(O:Cr T)(h:Ev T n env (lend pv) e d)(a:Sh d=J):Ev T n env pv e d:=by intro A X ad s Q E R k;refine Ap (R.lend O) λX' g _=>?_;exact h A X' ad s Q E g λv s' x i t=>k v s' x i<|Sh.any a t
theorem Zj:(Yc x vs).map CZ=vs.map Prod.fst:=by
 induction vs with
 |nil=>rfl
 |cons p r a=>
  show(bif Jm x p.1 then(p.1,eH p.2)::r else p::Yc x r).map CZ=_;cases Jm x p.1 with
  |true=>rfl
  |false=>exact BI (p.1:: ·) a
theorem AAi:tY (Yc x vars) y↔tY vars y:=by unfold tY;rw[Zj]
theorem nr(hn:(vs.map CZ).Nodup):∀p∈Yc x vs,(∃w,(x,w)∈vs/\p=(x,eH w))\/(p∈vs/\p.1≠x):=by
 induction vs with
 |nil=>exactλp hp=>Ay hp Au
 |cons q r g=>
  have hn:=Cj.mp hn;intro p hp;have hp:p∈(bif Jm x q.1 then(q.1,eH q.2)::r else q::Yc x r):=hp;cases e:Jm x q.1 with
  |true=>
   have d:=sEq_iff.mp e;rw[e]at hp;rcases DO hp with h|h
   ·exact Ax<|CB q.2 (d▸B0 _)<|h.trans<|d▸B
   ·exact BC ⟨Cb _ h,λk=>hn.1<|d▸k▸ME (f:=CZ) h⟩
  |false=>
   rw[e]at hp;rcases DO hp with h|h
   ·exact BC ⟨h▸B0 _,λk=>nY<|(sEq_iff.mpr (h▸k).symm).symm.trans e⟩
   ·exact(g hn.2 p h).imp (λ⟨w,a,b⟩=>(CB w (Cb _ a) b)) λh=>⟨Cb _ h.1,h.2⟩
theorem Sx.freeze(O:Cr T){ad:Bt->I Az}(i:Sx T n A X env pv Z ad s):∃X',Sx T n A X' env (Yc x pv) Z ad s/\Rj X X' Z:=by
 let X':Az->Prop:= λb=>X b/\ ∀f o,(x,BP f o)∈pv->b∉ad x
 have N:∀b,X' b->X b:= λb h=>h.1;have L:∀ {f} y o,(y,BP f o)∈Yc x pv->(y,BP f o)∈pv/\y≠x:= λ {f} y o j=>by
  rcases nr i.wr.nd _ j with⟨w,hw,e⟩|h
  ·cases w<;>cases e
  ·exact h
 refine(CB X' ⟨⟨i.a,i.inv,⟨λa ha=>⟨i.x.tab a ha,λf o j C=>?_⟩,λa ha=>i.x.kind a ha.1⟩,λp hp=>?_⟩,⟨by rw[Zj];exact i.wr.nd,i.wr.ns,⟨i.wr.xl,λf o j C=>(i.wr.own x o j _ C).2.1 B⟩,i.wr.zl,λy c h1 Q=>?_,i.wr.apart,λy o j=>i.wr.own y o (L y o j).1,λy z o o' hy hz=>i.wr.inj y z o o' (L y o hy).1 (L z o' hz).1,i.wr.keep,i.wr.base⟩⟩ ⟨λa ha hz=>⟨ha,λf o j C=>hz (i.wr.own x o j a C).1⟩,λa ha=>Ax ha.1⟩)
 ·refine FD (i.f _ j) λ_ _ w _=>?_;refine Ap (w.fields a C) λo' h1 Q=>?_;exact i.inv.Bn h1 Q ha
 ·rcases nr i.wr.nd p hp with⟨w,hw,rfl⟩|⟨hp,a1⟩
  ·have G:=i.f _ hw;cases w with
   |no=>trivial
   |d t=>refine Ap G λu r tr=>?_;exact⟨u,r,tr.less O N⟩
   |own f o=>
    refine FD G λr xa w _=>?_;exact⟨_,r,w.tree O N λb C q=>q.2 f o hw C⟩
  ·have G:=i.f _ hp;obtain⟨y,w⟩:=p;cases w with
   |no=>trivial
   |d t=>refine Ap G λu r tr=>?_;exact⟨u,r,tr.less O N⟩
   |own f o=>
    refine FD G λr xa w fx=>?_;refine⟨r,λb C=>⟨xa b C,λf' o' j a4=>a1<|i.wr.inj y x o o' hp j b C a4⟩,w.up O (Up.less N) λ_ _ _ e=>e,fx⟩
 ·refine F3 (i.wr.cell y c h1 Q) λh a0=>?_;exact⟨h,a0.imp (λa3=>(by refine F3 a3 λxc zc=>?_;exact⟨⟨xc,λf o j C=>(i.wr.own x o j c C).2.2 y c h1 Q B⟩,zc⟩)) λa2=>(by refine F3 a2 λq nx=>?_;exact⟨AAi.mpr q,λq=>nx<|N c q⟩)⟩
noncomputable def iu(x:Bt)(pv:BD):BD:=bif(CY (Wf x) pv).isSome then pv else(Wf x,Af)::pv
theorem bY:(CY (Wf x) pv=AQ/\iu x pv=(Wf x,Af)::pv)\/ ∃v,CY (Wf x) pv=D v/\iu x pv=pv:=by
 unfold iu;cases CY (Wf x) pv with
 |none=>exact Ax ⟨B,B⟩
 |some v=>exact BC<|CB v B B
theorem nu(h:p∈iu x pv):p=(Wf x,Af)\/p∈pv:=
 bY.elim (λk=>DO<|k.2▸h) λ⟨_,k⟩=>BC<|k.2▸h
theorem ADo(h:(pv.map CZ).Nodup):((iu x pv).map CZ).Nodup:=
 bY.elim (λk=>k.2.symm▸Cj.mpr ⟨Zg k.1,h⟩) λ⟨_,k⟩=>k.2.symm▸h
theorem ACW:tY (iu x pv) x:=
 bY.elim (λk=>k.2.symm▸Hh ..) λ⟨_,k⟩=>k.2.symm▸ME (f:=CZ) (FQ k.1)
theorem uq(h:tY pv y):tY (iu x pv) y:=
 bY.elim (λk=>k.2.symm▸my _ h) λ⟨_,k⟩=>k.2.symm▸h
theorem Sx.pe(O:Cr T){ad:Bt->I Az}(i:Sx T n A X env pv Z ad s):∃X',Sx T n A X' env (iu x pv) Z ad s/\Rj X X' Z/\(∀c,env.kindOf x=D BX->env.cells.lookup x=D c-> ¬X' c)/\ ∀a,X' a->X a:=by
 let X':Az->Prop:= λb=>X b/\ ∀c,env.kindOf x=D BX->env.cells.lookup x=D c->b≠c
 have hX:∀b,X' b->X b:= λb h=>h.1;have N:∀ {f} y o,(y,BP f o)∈iu x pv->(y,BP f o)∈pv:= λ {f} y o hm=>by
  rcases nu hm with e|h
  ·cases e
  ·exact h
 refine(NI X' ⟨⟨i.a,i.inv,⟨λa ha=>⟨i.x.tab a ha,λc C j q=>?_⟩,λa ha=>i.x.kind a ha.1⟩,λp hp=>?_⟩,⟨?_,i.wr.ns,⟨i.wr.xl,λc C j=>?_⟩,i.wr.zl,λy c C j=>?_,i.wr.apart,λy o hm=>i.wr.own y o<|N y o hm,λy z o o' hy hz=>i.wr.inj y z o o' (N y o hy)<|N z o' hz,i.wr.keep,i.wr.base⟩⟩ ⟨λa ha hz=>⟨ha,λc C j q=>?_⟩,λa ha=>Ax ha.1⟩ (λc C j q=>q.2 c C j B) hX)
 ·(refine F3 (i.wr.cell x c C j) λG _=>?_;obtain⟨v,o,ho,hd⟩:=G)
  exact i.inv.Bn ho (by rw[hd];exact K3 B)<|q▸ha
 ·rcases nu hp with rfl|hp
  ·trivial
  ·have Q:=i.f p hp;obtain⟨y,w⟩:=p;cases w with
   |no=>trivial
   |d t=>refine Ap Q λu r tr=>?_;exact⟨u,r,tr.less O hX⟩
   |own f o=>
    refine FD Q λr xa w fx=>?_;exact⟨r,λb hb=>⟨xa b hb,λc C j=>(i.wr.own y o hp b hb).2.2 x c C j⟩,w.up O (Up.less hX) λ_ _ _ e=>e,fx⟩
 ·exact ADo i.wr.nd
 ·refine Dx i.wr.ns λm hm=>?_
  (refine F3 (i.wr.cell x c C j) λG _=>?_;obtain⟨v,hv⟩:=G)
  exact Rk hm hv
 ·refine F3 (i.wr.cell y c C j) λh L=>?_;by_cases e:y=x
  ·subst e;exact⟨h,BC ⟨ACW,λq=>q.2 c C j B⟩⟩
  ·refine⟨h,L.imp (λa1=>(by refine F3 a1 λxc zc=>?_;exact⟨⟨xc,λc' a3 a2 e'=>e<|i.wr.apart y x c j<|e'▸a2⟩,zc⟩)) λa0=>(by refine F3 a0 λq nx=>?_;exact⟨uq q,λq=>nx q.1⟩)⟩
 ·refine F3 (i.wr.cell x c C j) λ_ L=>?_;rcases L with⟨_,zc⟩|⟨_,nx⟩
  ·exact hz<|q▸zc
  ·exact nx<|q▸ha
theorem Wl(O:Cr T)(h:Ex T n env (iu x pv) ss R):Ex T n env pv ss R:=by intro A X Z ad s Q E a k l;refine Dg (a.pe (x:=x) O) λX' q u _=>?_;exact h A X' Z ad s Q E q (λfl f d g Ez s' j i=>k fl f d g Ez s' j<|u.trans i) λe d g Ez s' j i=>l e d g Ez s' j<|u.trans i
theorem Zk(O:Cr T)(h:Ex T n env (Yc x pv) ss R):Ex T n env pv ss R:=by intro A X Z ad s Q E a k l;refine Ap (a.freeze (x:=x) O) λX' q u=>?_;exact h A X' Z ad s Q E q (λfl f d g Ez s' j i=>k fl f d g Ez s' j<|u.trans i) λe d g Ez s' j i=>l e d g Ez s' j<|u.trans i
theorem Ei.Ti:∀ {o:K2},Ei T X h F o->∀b∈F,∀v,¬h.IsCell b v:= λ {o} w b j v i=>by refine Ap i λC y u=>?_;rcases w.AHU j y with⟨_,_,_,h⟩|⟨_,_,h⟩|h<;>exact HH<|h.symm.trans u
def Jn(X:Az->Prop)(F:I Az):Az->Prop:= λa=>X a\/a∈F
theorem MN{ad:Bt->I Az}(a:Cm T s)(w:Wr T env pv X Z ad s.heap)(h:AA s.heap b=AQ):Z b=none:=by
 cases e:Z b with
 |none=>rfl
 |some o=>have:=w.keep b o e (by intro q;refine Ap (a.tab b q) λvs d _=>?_;exact EN<|h.symm.trans d);exact EN<|h.symm.trans this
theorem Sx.JD(O:Cr T){ad:Bt->I Az}(i:Sx T n A X env pv Z ad s)(hx:(x,BP f o)∈pv)(I':Cm T s')
  (hs:∀a ob,¬T.Tab a->a∉ad x->AA s.heap a=D ob->AA s'.heap a=D ob)(hm:HI F'=HI (ad x))(hF:∀b∈F',b∈ad x\/AA s.heap b=AQ)(b3:∀b∈ad x,b∈F')(w':Ei T (Jn X F') s'.heap F' o')(hf:∀G,f'=D G->F'=G):
  Sx T n A (Jn X F') env (D3 x (BP f' o') pv) Z (λy=>if y=x then F' else ad y) s'/\Rj X (Jn X F') Z:=by
 refine FD (i.f _ hx) λrx xx wx _=>?_
 dsimp only at rx xx wx
 have a9:∀b∈ad x,¬T.Tab b:= λb j q=>by refine Ap (wx.fields b j) λob C L=>?_;exact i.inv.Bn C L q
 have Q:∀b∈F',Z b=AQ/\AA T.H1 b=AQ/\ ¬T.Tab b:= λb j=>by
  rcases hF b j with h|h
  ·refine⟨(i.wr.own x o hx b h).1,?_,a9 b h⟩;rcases i.x.kind b (xx b h)with q|q
   ·exact Ay q<|a9 b h
   ·exact q.1
  ·exact⟨MN i.inv i.wr h,Du i.inv h⟩
 have a0:∀b∈F',∃ob,AA s'.heap b=D ob/\KJ ob:= λb j=>(by refine Ap (w'.fields b j) λob C L=>?_;exact(CB ob C<|Ax L));have up:Up s.heap X s'.heap (Jn X F'):= λa ob e nx=>by
  have na:a∉ad x:= λq=>nx<|xx a q;have nf:a∉F':= λq=>by
   rcases hF a q with h|h
   ·exact na h
   ·exact Tt<|e.symm.trans h
  exact⟨hs a ob (λq=>nx<|i.x.tab a q) na e,λq=>q.elim nx nf⟩
 refine Dx i.wr.ns λm b2=>?_;refine FW (id b2) λoL c4 c5 b1 b8 c3=>?_;have b4:=i.inv.Bn b1<|by rw[b8];exact K3 B
 have b5:env.locals∉ad x:= λq=>(i.wr.own x o hx _ q).2.1 B;have b0:∀ {m},s.heap.Ns env.locals m->s'.heap.Ns env.locals m:= λ {m} b7=>(by refine Hr b7 λob es ep ho r=>?_;exact⟨ob,es,ep,hs _ _ b4 b5 ho,r⟩);have a2:∀ {c v},s.heap.IsCell c v->s'.heap.IsCell c v:= λ {c v} hc=>by refine Ap (id hc) λoc C L=>?_;exact⟨oc,hs c oc (i.inv.Bn C<|by rw[L];exact K3 B) (λq=>wx.Ti c q v hc) C,L⟩
 have rd:∀ {y u},Rd env s.heap y u->Rd env s'.heap y u:=by
  rintro y u (⟨hk,m,hm,hv⟩|⟨hk,c,hc,hv⟩)
  ·exact Ax ⟨hk,m,b0 hm,hv⟩
  ·exact BC ⟨hk,c,hc,a2 hv⟩
 have a1:∀ {g} y q,(y,BP g q)∈D3 x (BP f' o') pv->y=x\/((y,BP g q)∈pv/\y≠x):= λ {g} y q hq=>by
  rcases Nd i.wr.nd _ hq with e|h
  ·cases e;exact Ax B
  ·exact BC h
 have N:∀ {g} y q,(y,BP g q)∈pv->y≠x->∀b∈ad y,b∉F':= λ {g} y q hy a5 b j b9=>by
  rcases hF b b9 with h|h
  ·exact a5<|i.wr.inj y x q o hy hx b j h
  ·refine FD (i.f _ hy) λ_ _ w _=>?_;refine Ap (w.fields b j) λob C _=>?_;exact EN<|h.symm.trans C
 refine⟨⟨⟨i.a,I',⟨λa ha=>Ax<|i.x.tab a ha,λa ha=>?_⟩,λp hp=>?_⟩,⟨by rw[Ri];exact i.wr.nd,⟨m,b0 b2⟩,Ax i.wr.xl,i.wr.zl,λy c C L=>?_,i.wr.apart,λ {g} y q hy b j=>?_,λ {g g'} y z q q' hy hz b j hc=>?_,λa ob e t=>?_,i.wr.base⟩⟩,⟨λa ha _=>Ax ha,λa ha=>ha.imp id λh=>(Q a h).1⟩⟩
 ·rcases ha with ha|ha
  ·by_cases a6:a∈F'
   ·exact BC ⟨(Q a a6).2.1,a0 a a6⟩
   ·rcases i.x.kind a ha with h|⟨C,ob,L,h3⟩
    ·exact Ax h
    ·exact BC ⟨C,ob,hs a ob (i.inv.KA L h3) (λq=>a6<|b3 a q) L,h3⟩
  ·exact BC ⟨(Q a ha).2.1,a0 a ha⟩
 ·rcases Nd i.wr.nd p hp with rfl|⟨hp,a5⟩
  ·refine⟨?_,?_,?_,λG hG=>?_⟩<;>simp only[EU]
   ·rw[hm];exact rd rx
   ·exactλb j=>BC j
   ·exact w'
   ·exact hf G hG
  ·have a8:=i.f p hp;obtain⟨y,w⟩:=p;have a3:=a5;cases w with
   |no=>trivial
   |d t=>refine Ap a8 λu r tr=>?_;exact⟨u,rd r,tr.up O up⟩
   |own g q=>
    refine FD a8 λr xa w fx=>?_;simp only[NK,CQ a3];refine⟨rd r,λb j=>Ax<|xa b j,w.up O up λb j ob ho=>?_,fx⟩;refine hs b ob ?_ (λh=>N y q hp a3 b j<|b3 b h) ho;refine Ap (w.fields b j) λc2 C L=>?_;exact i.inv.Bn C L
 ·(refine F3 (i.wr.cell y c C L) λa4 c0=>?_;obtain⟨v,hv⟩:=a4)
  refine⟨⟨v,a2 hv⟩,c0.imp (λ⟨h3,h4⟩=>⟨Ax h3,h4⟩) λ⟨q,nx⟩=>⟨Pn.mpr q,λh=>h.elim nx λj=>?_⟩⟩;rcases hF c j with h|h
  ·exact(i.wr.own x o hx c h).2.2 y c C L B
  ·refine Ap hv λoc b6 _=>?_;exact EN<|h.symm.trans b6
 ·by_cases e:y=x
  ·rw[Dh e]at j;refine⟨(Q b j).1,?_⟩;rcases hF b j with h|h
   ·exact(i.wr.own x o hx b h).2
   ·refine⟨(λq=>by rw[q,b1]at h;exact Tt h),λz c C L q=>?_⟩
    (refine F3 (i.wr.cell z c C L) λa4 _=>?_;obtain⟨v,oc,hc,_⟩:=a4)
    rw[q,hc]at h;exact Tt h
  ·rw[CQ e]at j;rcases a1 y q hy with h|⟨h,_⟩
   ·exact Ay h e
   ·exact i.wr.own y q h b j
 ·by_cases e1:y=x<;>by_cases e2:z=x
  ·rw[e1,e2]
  ·rw[Dh e1]at j;rw[CQ e2]at hc;rcases a1 z q' hz with h|⟨h,_⟩
   ·exact Ay h e2
   ·exact Ay j<|N z q' h e2 b hc
  ·rw[CQ e1]at j;rw[Dh e2]at hc;rcases a1 y q hy with h|⟨h,_⟩
   ·exact Ay h e1
   ·exact Ay hc<|N y q h e1 b j
  ·rw[CQ e1]at j;rw[CQ e2]at hc;rcases a1 y q hy with h|⟨h,_⟩<;>rcases a1 z q' hz with h'|⟨h',_⟩
   ·exact Ay h e1
   ·exact Ay h e1
   ·exact Ay h' e2
   ·exact i.wr.inj y z q q' h h' b j hc
 ·refine hs a ob t (λq=>?_) (i.wr.keep a ob e t);exact EN<|((i.wr.own x o hx a q).1).symm.trans e
theorem Sx.grow(O:Cr T){ad:Bt->I Az}(i:Sx T n A X env pv Z ad s)(E:C1 T s.heap s'.heap)(I':Cm T s')(Q:∀b∈F,AA s.heap b=AQ)(C:∀b∈F,∃j,AA s'.heap b=D j/\KJ j):
  Sx T n A (Jn X F) env pv Z ad s'/\Rj X (Jn X F) Z:=by
 have up:Up s.heap X s'.heap (Jn X F):= λa j e N=>⟨E a j (λq=>N<|i.x.tab a q) e,λq=>q.elim N λq=>by exact EN<|(Q a q).symm.trans e⟩;have S':=i.ext O E I';refine⟨⟨⟨i.a,I',⟨λa ha=>Ax<|i.x.tab a ha,λa ha=>?_⟩,λp hp=>?_⟩,⟨i.wr.nd,S'.wr.ns,Ax i.wr.xl,i.wr.zl,λy c h1 h2=>?_,i.wr.apart,i.wr.own,i.wr.inj,S'.wr.keep,i.wr.base⟩⟩,⟨λa ha _=>Ax ha,λa ha=>ha.imp id λh=>MN i.inv i.wr<|Q a h⟩⟩
 ·rcases ha with ha|ha
  ·exact S'.x.kind a ha
  ·exact BC ⟨(Du i.inv<|Q a ha).1,C a ha⟩
 ·have G:=i.f p hp;obtain⟨y,w⟩:=p;cases w with
  |no=>trivial
  |d t=>refine Ap G λu r tr=>?_;exact⟨u,r.ext i.inv E,tr.up O up⟩
  |own g q=>
   refine FD G λr xa w fx=>?_;exact⟨r.ext i.inv E,λb L=>Ax<|xa b L,w.up O up λb L j ho=>let⟨a3,h1,h2⟩:=w.fields b L;E b j (i.inv.Bn h1 h2) ho,fx⟩
 ·refine F3 (S'.wr.cell y c h1 h2) λh3 a2=>?_;refine⟨h3,a2.imp (λ⟨h4,h5⟩=>⟨Ax h4,h5⟩) λ⟨q,N⟩=>⟨q,λh=>h.elim N λL=>?_⟩⟩
  (refine F3 (i.wr.cell y c h1 h2) λa0 _=>?_;obtain⟨v,oc,a1,_⟩:=a0)
  exact EN<|(Q c L).symm.trans a1
def ur(T:Th)(n:Aj)(env:Pc)(pv:BD)(e:A2)(o:K2):Prop:=
 ∀A X ad s Q E,Ar T n A X env pv ad s->
  (∀F s',C1 T s.heap s'.heap->Cm T s'->(∀b∈F,AA s.heap b=AQ)->Ei T (Jn X F) s'.heap F o->Q (AH<|HI F) s')->Ao (M T) A (IC e env) Q E s
theorem eI(O:Cr T){ad:Bt->I Az}(S₀:Sx T n A X env pv Z ad s₀)(Ex:C1 T s₀.heap s.heap)(d:Cm T s)(i:∀b∈F,AA s₀.heap b=AQ)(w:Ei T (Jn X F) s.heap F o)
  (hk:env.scope.kind=BY)(hx:Oy env pv x)
  (k:∀X' Ez s',Rj X X' Z->Sx T n A X' env (D3 x (BP AQ o) pv) Z Ez s'->Q () s'):Ao (M T) A (Ic env x (AH (HI F))) Q E s:=by
 obtain⟨a,hu⟩:=S₀.grow O Ex d i λb g=>let⟨C,j,z⟩:=w.fields b g;(CB C j<|Ax z);obtain⟨mL,G⟩:=S₀.wr.ns;obtain⟨oL,a3,a4,u,a2,a1⟩:=id G;refine SY (pv:=BP AQ o) (Ez:= λy=>if y=x then F else ad y) O a (λh' up l r=>?_) (λ {f} o' e b g=>?_) (λy hy=>CQ hy) hk hx λs' _ _ S'=>k _ _ s' hu S'
 ·refine⟨by simp only[EU];exact r,by simp only[EU];exactλb g=>BC g,?_,(λ_ h=>EN h)⟩;simp only[EU];refine w.up O up λb g C ho=>?_;rw[l b (λq=>by have:=i b g;rw[q,u]at this;exact Tt this) λy c j z q=>?_]
  ·exact ho
  ·obtain⟨⟨v,oc,L,_⟩,_⟩:=S₀.wr.cell y c j z;have:=i b g;rw[q,L]at this;exact Tt this
 ·simp only[EU]at g;refine⟨⟨MN S₀.inv S₀.wr<|i b g,(λq=>by have:=i b g;rw[q,u]at this;exact Tt this),λy c j z q=>?_⟩,λ {f'} y a0 hy hm N=>?_⟩
  ·obtain⟨⟨v,oc,L,_⟩,_⟩:=S₀.wr.cell y c j z;have:=i b g;rw[q,L]at this;exact Tt this
  ·obtain⟨_,_,w',_⟩:=S₀.f _ hm;obtain⟨C,j,_⟩:=w'.fields b N;exact EN<|(i b g).symm.trans j
theorem MO(O:Cr T)(q:env.scope.kind=BY)(r:ur T n env pv e o)(j:Oy env pv x)
  (k:R Aq (D3 x (BP AQ o) pv))(hs:HC e (D (Bu x i)) pos.line env=Ce false:=by rfl):SX T n env pv (Fg [Bu x i] e pos) R:=by
 intro A X Z ad s Q E a K y;refine HD (r A X ad s _ _ a.toAr λF h d g u w=>?_) hs;exact eI O a d g u w q j λX' Ez s' l v=>K Aq HK _ X' Ez s' k l Mg v
theorem Oo(a b:Aj):Ag (a:Aa) (b:Aa)=((a&&&b:Aj):Aa):=by unfold Ag;simp
theorem QT(x:Aa):A5 (A5 x)=x:=by unfold A5;rw[Int.neg_sub,Int.sub_neg,iw,Tw]
theorem mP(a b:Aj):BG (a:Aa) (b:Aa)=((a|||b:Aj):Aa):=by
 have h:∀n:Aj,Bx (0<=A5 (n:Aa))=false:= λn=>Bc<|by unfold A5;exact jc
 show A5 (match Bx (0<=A5 (a:Aa)),Bx (0<=A5 (b:Aa))with
  |true,J=>_
  |true,AB=>_
  |false,J=>_
  |false,AB=>A5 ((A5<|A5 (a:Aa)).toNat|||(A5<|A5 (b:Aa)).toNat:Aj))=_
 rw[h,h];skip;rw[QT,QT,QT];rfl
theorem VF:∀(n a b:Aj),a<=n->(a^^^b)+(a&&&b)=(a|||b):=by
 intro n;induction n with
 |zero=>
  exactλa b h=>by obtain rfl:a=0:=qJ.mp h;simp
 |succ n d=>
  exactλa b h=>by
   by_cases q:a=0
   ·subst q;simp
   have l:=d (a/2) (b/2)<|AAI h;have e1:(a^^^b)/2=a/2^^^b/2:=Nat.xor_div_two;have e2:(a&&&b)/2=a/2&&&b/2:=Nat.and_div_two;have e3:(a|||b)/2=a/2|||b/2:=Nat.or_div_two
   have m:∀x,x%2=(AG x 0).toNat:= λx=>by rw[Nat.testBit_zero];rcases bD x with h|h<;>rw[h] <;>rfl
   have j:=m<|a^^^b;have i:=m<|a&&&b;have g:=m<|a|||b
   rw[Fk]at j;rw[H6]at i;rw[Rc]at g;have:(AG a 0^^AG b 0).toNat+(AG a 0&&AG b 0).toNat=(AG a 0||AG b 0).toNat:=by cases AG a 0<;>cases AG b 0<;>rfl
   exact Yb [_,_,_,_,_,_,_,_,_] [.e (.a (.m 2 A9) BQ) B5,.e (.a (.m 2 Jj) df) la5,.e (.a (.m 2<|.v 6)<|.v 7)<|.v 8,.e (.a A9 Jj)<|.v 6,.e (.a BQ df)<|.v 7] (.a B5 la5) (.v 8) [-1,-1,1,2,1] [1,1,-1,-2,-1] B B (Yv (a^^^b) 2) (Yv (a&&&b) 2) (Yv (a|||b) 2) (by rw[e1,e2,e3];exact l)<|by rw[j,i,g];exact this
theorem M9(a b:Aj):B1 (a:Aa) (b:Aa)=((a^^^b:Aj):Aa):=by unfold B1;rw[mP,Oo];have:=VF a a b<|BO _;exact SM this
theorem AB4(a j:Aj):(Ag ((a:Aa).fdiv (2^j)) 1==1)=AG a j:=by
 have e:(a:Aa).fdiv (2^j)=((a/2^j:Aj):Aa):=by rw[Im _<|I5<|Ra<|by decide];simp
 rw[e,show(1:Aa)=((1:Aj):Aa)from B,Oo];rw[AG,Nat.shiftRight_eq_div_pow,Ck];simp only[Bh,bne_iff_ne,ne_eq,Nat.one_and_eq_mod_two,uQ];exact G7.trans Nat.mod_two_ne_zero.symm
section
set_option backward.match.sparseCases true
set_option tactic.hygienic true
noncomputable abbrev mi:OpenLaw:=Jp
theorem ws1:noRoadLSs {strict:= !(NB mi.row.prog.main.body).all cThrough.contains,foot:=AQ,bare:=(["vars","dir","locals"]:I Bt).filter (readsOut mi.row.prog mi.row.prog.main.body)} mi.row.prog.main.body=true:=by
 rw[Ie]
 kernel_rfl!
theorem ws2:namesResolve mi.row.prog=true:=by kernel_rfl!
theorem ws3:(namesMeet mi.row.prog mi.row.prog.main.body λ_ n=>attrL n)=true:=by
 rw[IS]
 kernel_rfl!
theorem ws4:(namesMeet mi.prog mi.above λ_ n=> !mi.own.contains n)=true:=by
 rw[IS]
 kernel_rfl!
theorem ws5:noRoadLSs {strict:=J,foot:=D mi.bound',writes:=mi.writes,may:=mi.may} mi.footing=true:=by
 rw[Ie]
 kernel_rfl!
theorem AHT:mi.wellSaid=true:=by
 unfold OpenLaw.wellSaid OpenRow.wellSaid OpenRow.partSaid looksOpen
 repeat' with_reducible refine look_both ?_ ?_
 all_goals first
  |with_reducible exact ws1|with_reducible exact ws2|with_reducible exact ws3|with_reducible exact ws4|with_reducible exact ws5
  |(rw[IS];kernel_rfl!)
  |(rw[Ie];kernel_rfl!)
  |kernel_rfl!
section
noncomputable def osX:OsState:=(iy<|RQ pw).1.os
noncomputable def AEv(w:dB)(N:Aj):AW Shared:=
 ADh (PJ (PK PL) (RQ pw) w) AH5 (AH6 pw)
  (PJ (PK PL) pw w) AH7 (λs₀=>s₀.heap.nsMap Bg "__annotations__") (λs₀=>s₀.heap.isNs Bg&&AK s₀.gens==0) (nV pw) (topStub pw) N
  ⟨.nil,0,{},#[],{},1,osX⟩ (AH8<|RQ pw).2
noncomputable def XtX(s:Bq):Bool:=xlAt vq [] s&&recOk (RowW.records Jp.row.toRowW) s
noncomputable def AHO(s:Bq):=(AH9 vq QS (NB pw.main.body) XtX J s,tJ s)
noncomputable def LBh(w:dB):=(AEv w 22000).map AHO
noncomputable def RBh(w:dB):=D (openGood vq QS,tK w)
theorem AJa(w:dB):LBh w=RBh w:=by kernel_rfl
end
end
section
open PySem.Builtin
section
variable{M:Model}{A:Around}{R:GenEnd}{Y:Protocol}{n:Nat}{s₀:Shared}{c:Code}{fs:List Frame}{s:Shared}{env:Env}{K:Flow->Sem Fin}{H:Value->Sem Fin}{gd:Bool->Bool}{lv:List Value->List Value}
noncomputable def AG2(env:Pc)(K:Flow->Sem qH)(H:Am->Sem qH)(gd:Ba->Ba)(lv:I Am->I Am)(r:Result):Sem Fin:=
 ((match r with|.ok f=>(av f:Sem Flow)|.error e=>.raise e).onRaise λx=>do
  if(<-field x 1)==AN then unsupported "frame.own-activation:exception-without-traceback"
  AF1 x env.frame).wrap K H gd lv
theorem ABg{a iter:A2}(hs:∀x,AFD iter env x=Ce x)
  (h:Ao M (A.over c fs) (IC iter env) (λx g=>Ao M (A.over c fs) (jH x) (λl e=> ∀p,Seg M A R Y n s₀ (Hj a l body d env) (M.den (Hj a l body d env)) (.ret (AG2 env K H gd lv) AQ (gd AB) (lv []) c p [] ::fs) e)
   (λx s'=>Seg M A R Y n s₀ c (H x) fs s') g) (λx s'=>Seg M A R Y n s₀ c (H x) fs s') s):Seg M A R Y n s₀ c ((exec (.For a iter body d pos) env).wrap K H gd lv) fs s:=by
 rw[exec_For,EK,GN];refine Mq<|Dq ?_;rw[EK,GN];refine Mq<|DF h (λx g j=>?_) λx s' q=>q;rw[hs,EK,GN];refine Mq<|AP ?_;rw[EK,GN];refine Mq<|Dq ?_;rw[EK,GN];refine Mq<|BV<|DF j (λl e i=>?_) λx s' q=>q;exact seg_call i
end
section
variable{prog:Program}{w:World}{A:Around}{R:GenEnd}{Y:Protocol}{n:Nat}{s₀:Shared}{fs:List Frame}{s:Shared}{env:Env}
noncomputable def lU(env:Pc)(e:Am):Sem Fin:=(do aw e env;dU e:Sem Unit).wrap (λ_=>.raise e) .raise id id
theorem VE
  (h:Ao (Gi prog w) (A.over (Hj a g body d env) fs) (T8 g) (λr s'=>match r with
    |none=>Seg (Gi prog w) A R Y n s₀ (Hj a g body d env) (av (Lr (.block d env))) fs s'
    |some v=>Ao (Gi prog w) (A.over (Hj a g body d env) fs) (ND a g v) (λ_ j=>Ao (Gi prog w) (A.over (Hj a g body d env) fs) (uG a env v) (λ_ i=>
      Seg (Gi prog w) A R Y n s₀ (Hj a g body d env) ((Ve body env).wrap (λf=>match f with
       |.next|.cont=>av (Lr (Hj a g body d env))
       |.brk=>av (ax HK)
       |.ret v=>av (ax (N8 v))) (lU env) id id) fs i) (λ_ _=>Yd) j) (λ_ _=>Yd) s') (λ_ _=>Yd) s):
  Seg (Gi prog w) A R Y n s₀ (Hj a g body d env) ((Gi prog w).den (Hj a g body d env)) fs s:=by
 show Seg _ A R Y n s₀ _ ((forTurn a g body d env).onRaise λx=>do aw x env;dU x) fs s;unfold forTurn;rw[Sem.onRaise_eq_wrap,EK,GN];refine Mq<|Dq ?_;rw[EK,GN];refine Mq<|qM<|DF h (λr s' h'=>?_) λ_ _ x=>x.elim;cases r with
 |none=>exact h'
 |some v=>
  dsimp only at h'⊢
  rw[EK,GN];refine Mq<|DF h' (λ_ j q=>?_) λ_ _ x=>x.elim;rw[EK,GN];refine Mq<|DF q (λ_ i l=>?_) λ_ _ x=>x.elim;rw[EK,GN];rw[Sem.wrap_congr (Ve body env) _ _ (K':= λf=>match f with
       |.next|.cont=>av<|Lr<|Hj a g body d env
       |.brk=>av<|ax HK
       |.ret v=>av<|ax<|N8 v) (H':=lU env)
    (λf=>by cases f<;>rfl)
    (λe=>by unfold lU;first|exact AAD _ _|(show(do noteFrame e env;theTreesLotGoes e:Sem Unit).bind (λ_=>.raise e)=_;rw[AAD]))]
  exact l
end
section
variable{M:Model}{A:Around}{R:GenEnd}{Y:Protocol}{n:Nat}{s₀:Shared}{c:Code}{fs:List Frame}{s:Shared}{env:Env}
theorem ZN(h:Seg (Gi prog w) A R Y n s₀ c (k (zr HK)) fs s):Seg (Gi prog w) A R Y n s₀ (.block [] env) ((Gi prog w).den (.block [] env)) (.ret k d g l c p a::fs) s:=
 seg_leaf (zr HK) h
end
section
variable{prog:Program}{w:World}{A:Around}{E:Value->Shared->Prop}{s:Shared}
theorem gZ{P:Aj->Bq->Bq->Prop}(G:A.handled=AQ)(C:s.heap.NoLimit)(e:A.depth<AIZ)
  (hg:s.heap.IsGen a g)(h:s.gens[g]? =D q)(hgo:q.Goes (Gi prog w) A.in1 (λn s₀ r d=>r=zr (N8 AN)/\P n s₀ d) Y n (.send AN) (s.setGen g OD))
  (L:∀v d gs',gs'.bare=J->Y (n-1) (s.setGen g OD) v d (λu i=>match n with
    |0=>Yd
    |m+1=>gs'.Goes (Gi prog w) A.in1 (λn s₀ r d=>r=zr (N8 AN)/\P n s₀ d) Y m u i)->Q (D v) (d.setGen g gs'))
  (N:∀d,P n (s.setGen g OD) d->∀h',(∀b o,AA d.heap b=D o->AA h' b=D o)->Q AQ {d.setGen g qQ with heap:=h'}):
  Ao (Gi prog w) A (T8 (AH a)) Q E s:=by
 unfold T8;refine AD<|Pf<|Qw (name:=S "__next__") hg.typeIs AJm<|Gl AJm hg.typeIs entry_gen_next ?_<|args_gen_next _;show Ao _ A.in1 (RA (AH a)<|.send AN) _ _ s;unfold RA;refine AD<|BV<|wpAny_genNumber hg<|AD<|wpAny_genState h ?_;cases q with
 |running=>exact hgo.elim
 |finished=>exact hgo.elim
 |_=>
  refine AD<|wpAny_roomToWake C e ?_;skip;refine wpAny_resumeQ h hgo (λx d y=>?_) λv d gs' j z=>?_
  ·(refine F3 y λl hp=>?_;subst l)
   show Ao _ A.in1 (newExc (Ae "StopIteration") [] >>=_) _ _ _;refine AD ?_;simp-iota only[newExc,AIb];refine AD<|ET ?_<|by size_fits
   refine AD (m:=firstArgMember _ _)<|CW (a:=AN) (by first|rfl|(simp only[firstArgMember];rfl)) ?_;refine ET ?_<|by size_fits
   simp-iota only[raiseNew];refine AD<|AD<|wpAny_handled ?_;rw[show A.in1.handled=AQ from G];refine wpAny_throw ?_;refine AD<|Ji (T:= "StopIteration") (b:=J) ⟨_,A1 _ B,B⟩ AIo ?_;exact AP<|N d hp _ λb o j=>AX _<|AX _ j
  ·exact AP<|CB v B<|AP<|L v d gs' j z
end
end
section
open PySem.SeqAt
noncomputable def ML(f:DV->DV->AW Ba):I DV->I DV->AW Ba
 |[],_=>D J
 |a::r,q=>bif q.isEmpty then D J else(f a (q.headD BK)).bind λx=>(ML f r q.tail).bind λy=>D (x&&y)
noncomputable def isNone(b:DV):Bool:=C8 b.ctorIdx 0
theorem Qc{b:DV}(h:isNone b=J):b=BK:=DV.none.elim (motive_1:= λb=>b=BK) b (DJ h) B
noncomputable def AGE(b:DV):AW Bool:=bif isNone b then D J else bif(Ld b).isSome then D AB else bif(SQ b).isSome then D AB else AQ
noncomputable def Lu:Aj->DV->DV->AW Ba
 |0,_,_=>AQ
 |k+1,a,b=>match a with
  |.none=>AGE b
  |.bool x=>(ua b).bind λy=>D (x==y)
  |.int i=>bif isNone b then D AB else(Ld b).bind λj=>D (i==j)
  |.str x=>(ACq b).bind λy=>D (Jm x y)
  |.bytes x=>(dn b).bind λy=>D (x==y)
  |.tup xs=>bif isNone b then D AB else(SQ b).bind λys=>(ML (Lu k) xs ys).bind λr=>D (r&&U xs==U ys)
  |.lst xs=>(U5 b).bind λys=>bif(U xs)==U ys then ML (Lu k) xs ys else D AB
  |_=>AQ
theorem Eo{e d:Type}{o:AW e}{f:e->AW d}{b:d}(h:o.bind f=D b):∃a,o=D a/\f a=D b:=Gd h
theorem jr{g d:Type}{b:DV}{o:AW g}{f:g->AW d}{z r:d}(h:(bif isNone b then D z else o.bind f)=D r):(b=BK/\z=r)\/ ∃a,o=D a/\f a=D r:=by
 cases e:isNone b with
 |true=>rw[e]at h;exact Ax ⟨Qc e,AE h⟩
 |false=>rw[e]at h;exact BC<|Eo h
theorem Sf{f:DV->DV->AW Ba}{a b:DV}{xs ys:I DV}{r:Ba}(h:ML f (a::xs) (b::ys)=D r):∃x y,f a b=D x/\ML f xs ys=D y/\r=(x&&y):=by refine Ap (Eo h) λx e1 h=>?_;refine Ap (Eo h) λy e2 h=>?_;exact(Ki x y e1 e2<|(AE h).symm)
theorem qa{f:DV->DV->AW Ba} :∀ {xs ys:I DV} {r:Ba},ML f xs ys=D r->
  ∃e:Aj->Ba,(∀j (d:j<U xs) (g:j<U ys),f xs[j] ys[j] =D (e j))/\r=(DL (min (U xs) (U ys))).all e:=by
 intro xs;induction xs with
 |nil=>exactλh=>(CB (λ_=>J) (λj d=>Ay d<|H4 _)<|by rw[<-AE h,BL,Nat.zero_min];rfl)
 |cons a xs l=>
  intro ys r h;cases ys with
  |nil=>exact(CB (λ_=>J) (λj d g=>Ay g<|H4 _)<|by rw[<-AE h,BL,Nat.min_zero];rfl)
  |cons b ys=>
   (refine Bk (Sf h) λx y e1 e2 i=>?_;subst i)
   refine Ap (l e2) λe u q=>?_;refine(CB (λj=>Nat.rec x (λj _=>e j) j) (λj d g=>?_) ?_)
   ·cases j with
    |zero=>exact e1
    |succ j=>exact u j (Hn d)<|Hn g
   ·rw[Ac,Ac,zQ,List.range_succ_eq_map,N9,List.all_map,q];rfl
theorem A8.get{T:Th}{h:Dw}{X:Az->Prop} :∀ {ds:I DV} {vs:I Am},A8 T h X ds vs->∀j (i:j<U ds) (y:j<U vs),Tr T h X ds[j] vs[j] :=by
 intro ds;induction ds with
 |nil=>exactλ_ j i _=>Ay i<|H4 _
 |cons d ds L=>
  intro vs t j i y
  (refine Bk t.inv λv ws u G C=>?_;subst u)
  cases j with
  |zero=>exact G
  |succ j=>exact L C j (Hn i)<|Hn y
theorem IsTup.one{h:Dw}{a:Az}{xs ys:I Am}(x:zp h a (AU xs))(y:zp h a (AU ys)):xs=ys:=by refine LO x λo u _ n C=>?_;refine LO y λo' i _ G j=>?_;obtain rfl:=AE<|u.symm.trans i;exact BI dR (zR<|C.symm.trans j).1
theorem IsList.one{h:Dw}{a:Az}{xs ys:I Am}(x:h.IsList a (AU xs))(y:h.IsList a (AU ys)):xs=ys:=by refine LO x λo u _ n C=>?_;refine LO y λo' i _ G j=>?_;obtain rfl:=AE<|u.symm.trans i;exact BI dR (zR<|C.symm.trans j).1
section
def Oz(k:Aj)(a e:DV):Prop:=(∀r,Lu k a e=D r->r=J)/\ ∀b r d,Lu k a b=D r->Lu k e b=D d->r=d
theorem Wh{k:Aj}{h:Dw}{X:Az->Prop}(ih:∀ {a G:DV} {v:Am},Tr T h X a v->Tr T h X G v->Oz k a G):∀ {xs ys:I DV} {vs:I Am},A8 T h X xs vs->A8 T h X ys vs->
  (∀r,ML (Lu k) xs ys=D r->r=J)/\ ∀bs r r',ML (Lu k) xs bs=D r->ML (Lu k) ys bs=D r'->r=r':=by
 intro xs;induction xs with
 |nil=>
  intro ys vs t u;obtain rfl:=t.inv;cases ys with
  |nil=>exact⟨λr h=>(AE h).symm,λbs r r' h h'=>AE<|h.symm.trans h'⟩
  |cons=>refine I9 u.inv λ_ _ e _=>?_;cases e
 |cons a xs i=>
  intro ys vs t u
  (refine Bk t.inv λv ws j Q O=>?_;subst j)
  cases ys with
  |nil=>cases u.inv
  |cons G ys=>
   refine Bk u.inv λ_ _ e N L=>?_
   (refine F3 (HW e) λC q=>?_;subst C;subst q)
   have A:=ih Q N;have d:=i O L;refine⟨λr h=>?_,λbs r r' h h'=>?_⟩
   ·(refine Bk (Sf h) λx y e1 e2 g=>?_;subst g)
    rw[A.1 _ e1,d.1 _ e2];rfl
   ·cases bs with
    |nil=>exact AE<|h.symm.trans h'
    |cons b bs=>
     (refine Bk (Sf h) λx y e1 e2 g=>?_;subst g)
     (refine Bk (Sf h') λx' y' z l g=>?_;subst g)
     rw[A.2 _ _ _ e1 z,d.2 _ _ _ e2 l]
theorem Oz.refl{k:Aj}{a:DV}(h:∀r,Lu k a a=D r->r=J):Oz k a a:=⟨h,λb r j e i=>AE<|e.symm.trans i⟩
theorem Oz.no{k:Aj}{a a':DV}(h:∀b,Lu k a' b=AQ)(h':∀r,Lu k a a'=D r->r=J):Oz k a a':=⟨h',λb r i _ e=>by rw[h]at e;cases e⟩
def zh(d:DV):Am->Prop
 |.none=>d=BK
 |.bool b=>d=BZ b
 |.int i _=>d=AM i
 |.str x _=>d=Fu x
 |.bytes b _=>d=AJ b.toList
 |_=>True
theorem Tr.zh{h:Dw}{X:Az->Prop}{d:DV}{v:Am}(t:Tr T h X d v):Mine.zh d v\/d=Ah v:=by
 cases t with
 |val v=>exact BC B
 |_=>exact Ax<|by first|rfl|exact AI
theorem AAh{k:Aj}{v:Am}{b:DV} :Lu k (Ah v) b=none:=by cases k<;>rfl
theorem ui{k:Aj}{v:Am}{a:DV} :Lu k a (Ah v)=none:=by
 cases k with
 |zero=>rfl
 |succ k=>cases a<;>rfl
theorem Oz.val{k:Aj}{a:DV}{v:Am} :Oz k a (Ah v):=.no (λ_=>AAh) λr e=>by exact EN<|ui.symm.trans e
theorem Oz.zh{k:Aj}{h:Dw}{X:Az->Prop}{a a':DV}{v:Am}(t:Tr T h X a' v)(e:Mine.zh a' v->a'=a)(i:∀r,Lu k a a=D r->r=J):Oz k a a':=by
 rcases t.zh with q|q
 ·rw[e q];exact .refl i
 ·rw[q];exact .val
theorem uj{h:Dw}{a:Az}{xs ys:I Am}(x:zp h a (AU xs))(y:h.IsList a (AU ys)):False:=by refine Dg x λo g i _=>?_;refine Dg y λo' d e _=>?_;obtain rfl:=AE<|g.symm.trans d;rw[i]at e;exact Ay (Uw e)<|by decide
theorem Zh{h:Dw}{X:Az->Prop} :∀(k:Aj) {a a':DV} {v:Am},Tr T h X a v->Tr T h X a' v->Oz k a a':=by
 intro k;induction k with
 |zero=>exactλ_ _=>⟨(λ_ h=>EN h),nofun⟩
 |succ k L=>
  intro a a' v N t2;have Q:∀a,(∀b,Lu (k+1) a b=AQ)->Oz (k+1) a a':= λa h=>show(∀r,Lu (k+1) a a'=D r->r=J)/\ ∀b r r',Lu (k+1) a b=D r->Lu (k+1) a' b=D r'->r=r' from⟨λr e=>(by(rw[h]at e;cases e)),λb r r' e=>(by(rw[h]at e;cases e))⟩;have d:∀a',(∀b,Lu (k+1) a' b=AQ)->(Lu (k+1) a a'=AQ)->Oz (k+1) a a':= λa' h h'=>.no h λr e=>by exact EN<|h'.symm.trans e
  cases N with
  |none=>exact .zh t2 id λr e=>(AE e).symm
  |bool x=>exact .zh t2 id λr e=>(AE e).symm.trans<|Cz _
  |int i t=>exact .zh t2 id λr e=>(AE e).symm.trans<|Cz _
  |str x t=>exact .zh t2 id λr e=>(AE e).symm.trans<|sEq_iff.mpr B
  |bytes x t=>exact .zh t2 id λr e=>(AE e).symm.trans<|Cz _
  |tup l O ha=>
   cases a' with
   |tup ys=>
    refine BU t2.inv λ_ y q j _ hb=>?_;obtain rfl:=Mn q;obtain rfl:=IsTup.one l j;have Z:=Wh L ha hb;refine⟨λr e=>?_,λb r r' e g=>?_⟩
    ·refine Ap (Eo<|show(ML (Lu k) _ ys).bind _=D r from e) λz e1 e2=>?_;rw[<-AE e2,Z.1 _ e1,<-ha.length,<-hb.length];exact Cz _
    ·rcases jr e with⟨q,e1⟩|⟨bs,q,e1⟩
     ·subst q;exact e1.symm.trans<|AE g
     ·obtain rfl:=Nc q;refine Ap (Eo e1) λz e1 e2=>?_;refine Ap (Eo<|show(ML (Lu k) ys bs).bind _=D r' from g) λz' G C=>?_;rw[<-AE e2,<-AE C,Z.2 _ _ _ e1 G,<-ha.length,<-hb.length]
   |lst ys=>
    refine Bk t2.inv λ_ _ q j _=>?_;obtain rfl:=Mn q;exact(uj l j).elim
   |val w=>exact .val
   |Ft=>exact d _ (λ_=>B) B
   |Cd=>exact d _ (λ_=>B) B
   |inst=>exact d _ (λ_=>B) B
   |none=>cases t2.inv
   |bool=>cases t2.inv
   |_=>refine Dx t2.inv λ_ q=>?_;cases q
  |lst l O ha=>
   cases a' with
   |lst ys=>
    refine BU t2.inv λ_ y q j _ hb=>?_;obtain rfl:=Mn q;obtain rfl:=IsList.one l j;have Z:=Wh L ha hb;refine⟨λr e=>Z.1 r ?_,λb r r' e g=>?_⟩
    ·have e:(bif _==_ then _ else _)=D r:=e;rwa[<-ha.length,<-hb.length,Cz]at e
    ·refine Ap (Eo e) λbs q u=>?_;obtain rfl:=MI q;clear q;have g:(bif(U ys)==U bs then ML (Lu k) ys bs else D AB)=D r':=g;rw[<-ha.length]at u;rw[<-hb.length]at g;cases q:(U _==U bs)with
     |false=>rw[q]at u g;exact AE<|u.symm.trans g
     |true=>rw[q]at u g;exact Z.2 _ _ _ u g
   |tup ys=>
    refine Bk t2.inv λ_ _ q j _=>?_;obtain rfl:=Mn q;exact(uj j l).elim
   |val w=>exact .val
   |Ft=>exact d _ (λ_=>B) B
   |Cd=>exact d _ (λ_=>B) B
   |inst=>exact d _ (λ_=>B) B
   |none=>cases t2.inv
   |bool=>cases t2.inv
   |_=>refine Dx t2.inv λ_ q=>?_;cases q
  |_=>exact Q _ λ_=>B
open PySem.W.X in
theorem uk {A:Around} {s:Shared} (b c:Array UInt8) (t u:Tok):RcAt A s (.bytes b t) (.bytes c u) (b.toList==c.toList):= λprog w E Q h=>eq_bytes (prog:=prog) (w:=w) (A:=A) (E:=E) (s:=s) h
theorem um{A:Hk}{s:Bq}(b c:Ef BB)(t u:Tok):RcNeAt A s (D0 b t) (D0 c u) (!(b.toList==c.toList)):= λprog w E Q h=>ne_bytes (prog:=prog) (w:=w) (A:=A) (E:=E) (s:=s) h
theorem eD{A:Hk}{s:Bq}(b c:Ef BB)(t u:Tok):EqAt A s (D0 b t) (D0 c u) (b.toList==c.toList):= λprog w E Q h=>eqBool_bytes (prog:=prog) (w:=w) (A:=A) (E:=E) (s:=s)<|by rwa[show Bx (b.toList=c.toList)=(b.toList==c.toList)from by rw[Ck];simp]
structure AIu(A:Hk)(s:Bq)(u v:Am)(r:Ba):Prop where
 eq:EqAt A s u v r
 rc:RcAt A s u v r
 ne:RcNeAt A s u v (!r)
theorem UI{A:Hk}{s:Bq}{e d:Az}{r:Ba}(a:e=d->r=J)(g:RcAt A s (AH e) (AH d) r):EqAt A s (AH e) (AH d) r:=by
 by_cases q:e=d
 ·rw[a q,q];exact AId _
 ·exact EqAt.of_refs q g
theorem eE{xs ys:I Am}{n m:Aj}(d:U xs=n)(a:U ys=m)(h:(n==m)=AB):(AK xs.toArray !=AK ys.toArray)=true:=by rw[Ab,Ab,d,a,bne,h];rfl
theorem eG{k:Aj}{s:Bq}{X:Az->Prop}{A:Hk}(i:∀ {a b:DV} {u v:Am} {r:Ba},Lu k a b=D r->Tr T s.heap X a u->Tr T s.heap X b v->EqAt A s u v r){ds d:I DV}{vs ws:I Am}{r:Ba}(e:ML (Lu k) ds d=D r)(ha:A8 T s.heap X ds vs)(hb:A8 T s.heap X d ws):
  ∃f:Aj->Ba,(∀j (h:j<AK vs.toArray) (g:j<AK ws.toArray),EqAt A s vs.toArray[j] ws.toArray[j] (f j))/\r=(DL (min (AK vs.toArray) (AK ws.toArray))).all f:=by
 refine Ap (qa e) λf q l=>?_;refine(CB f (λj h g=>i (q j (ha.length▸h)<|hb.length▸g) (ha.get j _ h)<|hb.get j _ g) ?_);rw[l,Ab,Ab,ha.length,hb.length]
theorem Wi{s:Bq}{X:Az->Prop} :∀(k:Aj) {A:Hk} {a b:DV} {u v:Am} {r:Ba},Lu k a b=D r->Tr T s.heap X a u->Tr T s.heap X b v->A.units+k<tM->AIu A s u v r:=by
 intro k;induction k with
 |zero=>exactλe=>nomatch e
 |succ k ih=>
  intro A a b u v r e Q t2 hu;have g:A.units<cLine:=Bj (Ci _ _) hu;have a0:A.in1.units+k<cLine:=by exact Pj [_,_,_] [.t (.a A9<|.a BQ DB) B5] (.a (.a A9 DB) BQ) B5 [1] B hu
  have l:∀ {a1 a2:Az},u=AH a1->v=AH a2->a1=a2->r=true:= λh1 h2 h3=>(Zh (k+1) (h1▸Q)<|show Tr T s.heap X b (AH _)from h3▸h2▸t2).1 r e;cases Q with
  |none=>
   have e:(bif isNone b then D J else bif(Ld b).isSome then D AB else bif(SQ b).isSome then D AB else AQ)=D r:=e;cases q:isNone b with
   |true=>
    rw[q]at e;obtain rfl:=Qc q;obtain rfl:=t2.inv;exact AE e▸⟨AId _,RcAt.none_none,RcNeAt.none_none⟩
   |false=>
    rw[q]at e;cases q1:Ld b with
    |some i=>
     rw[q1]at e;obtain rfl:=G8 q1;(refine Dx t2.inv λt d=>?_;subst d);exact AE e▸⟨EqAt.none_int _ _,RcAt.none_int _ _,RcNeAt.none_int _ _⟩
    |none=>
     rw[q1]at e;cases q2:SQ b with
     |some ds=>
      rw[q2]at e;obtain rfl:=Nc q2;(refine Bk t2.inv λ_ _ G C _=>?_;subst G);exact AE e▸⟨EqAt.none_tuple C g,RcAt.none_tuple C g,RcNeAt.none_tuple C g⟩
     |none=>rw[q2]at e;cases e
  |bool x=>
   refine Ap (Eo e) λy q e=>?_;obtain rfl:=dm q;obtain rfl:=t2.inv;exact AE e▸⟨EqAt.bool_bool _ _,RcAt.bool_bool _ _,RcNeAt.bool_bool _ _⟩
  |int i t=>
   rcases jr e with⟨rfl,h⟩|⟨j,q,h⟩
   ·obtain rfl:=t2.inv;exact h▸⟨EqAt.int_none _ _,RcAt.int_none _ _,RcNeAt.int_none _ _⟩
   ·obtain rfl:=G8 q
    (refine Dx t2.inv λt' d=>?_;subst d)
    exact AE h▸⟨AE7 _ _ _ _,RcAt.int_int _ _ _ _,RcNeAt.int_int _ _ _ _⟩
  |str x t=>
   refine Ap (Eo e) λy q e=>?_;obtain rfl:=ub q
   (refine Dx t2.inv λt' d=>?_;subst d)
   rw[<-AE e,<-Tj];exact⟨EqAt.str_str _ _ _ _,RcAt.str_str _ _ _ _,RcNeAt.str_str _ _ _ _⟩
  |bytes x t=>
   refine Ap (Eo e) λy q e=>?_;obtain rfl:=SP q
   (refine Dx t2.inv λt' d=>?_;subst d)
   exact AE e▸⟨eD _ _ _ _,uk _ _ _ _,um _ _ _ _⟩
  |tup N nx ha=>
   rcases jr e with⟨rfl,h⟩|⟨ys,q,h⟩
   ·obtain rfl:=t2.inv;exact h▸⟨EqAt.tuple_none N g,RcAt.tuple_none N g,RcNeAt.tuple_none N g⟩
   ·obtain rfl:=Nc q
    (refine BU t2.inv λa2 a3 G C ny hb=>?_;subst G)
    refine Ap (Eo h) λz e1 e2=>?_;refine Ap (eG (A:=A.in1) (λe Q t2=>(ih e Q t2 a0).eq) e1 ha hb) λf he hz=>?_;have L:=RcAt.tuples N C g he;have O:=RcNeAt.tuples N C g he;rw[<-hz,Ab,Ab,ha.length,hb.length,AE e2]at L O;exact⟨UI (l B B) L,L,O⟩
  |lst N nx ha=>
   refine Ap (Eo e) λys q h=>?_;obtain rfl:=MI q
   (refine BU t2.inv λa2 a3 G C ny hb=>?_;subst G)
   cases el:(U _==U ys)with
   |false=>
    rw[el]at h;have L:=RcAt.lists_lengths N C (eE ha.length hb.length el) g;have O:=RcNeAt.lists_lengths N C (eE ha.length hb.length el) g;obtain rfl:=AE h;exact⟨UI (l B B) L,L,O⟩
   |true=>
    rw[el]at h;refine Ap (eG (A:=A.in1) (λe Q t2=>(ih e Q t2 a0).eq) h ha hb) λf he hz=>?_;have hl:=F7 el;have hsz:AK _=AK _:=(ha.length.trans hl).trans hb.length.symm;have L:=RcAt.lists N C hsz g he;have O:=RcNeAt.lists N C hsz g he;rw[<-hsz,VJ]at hz;rw[<-hz]at L O;exact⟨UI (l B B) L,L,O⟩
  |_=>exact EN e
theorem uo{d:Type}{p q:d->Ba} :∀ {l:I d},(∀z∈l,p z=q z)->l.any p=l.any q:=by
 intro l;induction l with
 |nil=>
  exactλ_=>B
 |cons a r e=>
  exactλh=>by rw[G5,G5,h a<|B0 _,e λz hz=>h z<|Cb _ hz]
noncomputable def ir(k:Aj)(a:DV):I DV->AW Ba
 |[] =>D AB
 |b::r=>(Lu k b a).bind λx=>(ir k a r).bind λy=>D (x||y)
theorem Wj{s:Bq}{X:Az->Prop}{k:Aj}{A:Hk}{a:DV}{u:Am}(N:Tr T s.heap X a u)(hu:A.units+k<tM):∀ {ds:I DV} {vs:I Am} {r:Ba},ir k a ds=D r->A8 T s.heap X ds vs->
  ∃e:Am->Ba,(∀y,y∈vs->EqAt A s y u (e y))/\(∀y,y∈vs->∃d,Tr T s.heap X d y/\Lu k d a=D (e y))/\vs.any e=r:=by
 intro ds;induction ds with
 |nil=>
  intro vs r h t;obtain rfl:=t.inv;exact(K0 (λ_=>AB) IL IL<|AE h)
 |cons b ds Q=>
  intro vs r h t
  (refine Bk t.inv λv vs C j O=>?_;subst C)
  refine Ap (Eo h) λx e1 h=>?_;refine Ap (Eo h) λy e2 h=>?_
  ··refine Dg (Q e2 O) λe h1 G h3=>?_;obtain⟨i,g,l⟩:∃i:Am->Ba,(∀z,z=v->i z=x)/\ ∀z,z≠v->i z=e z:=(CB (λz=>if z=v then x else e z) (λz q=>Dh q) λz q=>CQ q);refine(K0 i (λz hz=>?_) (λz hz=>?_) ?_)
    ·by_cases q:z=v
     ·rw[g z q,q];exact(Wi k e1 j N hu).eq
     ·rw[l z q];exact h1 z<|(DO hz).resolve_left q
    ·by_cases q:z=v
     ·rw[g z q,q];exact(CB b j e1)
     ·rw[l z q];exact G z<|(DO hz).resolve_left q
    ·rw[G5,g v B,<-AE h,<-h3];refine BI (x|| ·)<|uo λz hz=>?_;by_cases q:z=v
     ·refine Ap (G z hz) λd L ed=>?_;rw[g z q];exact(Zh k j<|q▸L).2 _ _ _ e1 ed
     ·exact l z q
theorem Le.AHS{n:Aj}{A:Hk}(a:Le n A):A.units+5<cLine:=by have:=a.units;exact Pj [_,_,_] [.t (.a (.a A9<|.m 10 BQ)<|.n 10) B5] (.a A9<|.n 5) B5 [1] B this
theorem Le.mj{n:Aj}{A:Hk}(a:Le n A):A.in1.units+5<cLine:=by have:=a.units;exact Pj [_,_,_] [.t (.a (.a A9<|.m 10 BQ)<|.n 10) B5] (.a (.a A9 DB)<|.n 5) B5 [1] B this
theorem Ng{n:Aj}{a b:DV}{r:Ba}(h:Lu 5 a b=D r):Cg T n To a b r:=by intro A X s u v Q E ao d x g e K;exact(Wi 5 h g e ao.AHS).rc prog T.w E Q<|K _ (C1.refl _) d
theorem Nh{n:Aj}{a b:DV}{r:Ba}(h:Lu 5 a b=D r):Cg T n H8 a b (!r):=by intro A X s u v Q E ao d x g e K;exact(Wi 5 h g e ao.AHS).ne prog T.w E Q<|K _ (C1.refl _) d
theorem K4{n:Aj}{a:DV}{ds:I DV}{r:Ba}(h:ir 5 a ds=D r):Cg T n Yi a (AL ds) r:=by
 intro A X s u v Q E ao d x i t2 K
 (refine BU t2.inv λ_ _ g l _ q=>?_;subst g)
 refine Dg (Wj i ao.mj h q) λe C _ z=>?_;refine in_listAt e l (λy j=>C y<|zS.mp j) ?_;rw[Vf,z];exact K _ (C1.refl _) d
theorem Po{n:Aj}{a:DV}{ds:I DV}{r:Ba}(h:ir 5 a ds=D r):Cg T n Yi a (FI ds) r:=by
 intro A X s u v Q E ao d x i t2 K
 (refine BU t2.inv λ_ _ g l _ q=>?_;subst g)
 refine Dg (Wj i ao.mj h q) λe C _ z=>?_;refine in_tupleAt e l (λy j=>C y<|zS.mp j) ?_;rw[Vf,z];exact K _ (C1.refl _) d
end
end
noncomputable def gd(b:Ba)(x:α):AW α:=match b with|true=>D x|false=>AQ
noncomputable def Nj(i:Aa):Bool:=Bx<|i.natAbs<2^64
noncomputable def eJ:DV->AW Ba
 |.none=>D J
 |.int _=>D AB
 |.bytes _=>D AB
 |.tup _=>D AB
 |.inst .. =>D AB
 |.lst _=>D AB
 |.str _=>D AB
 |_=>AQ
noncomputable def ADp(d:CmpOp)(a b:DV):AW Bool:=match d with
 |.Eq=>Lu 5 a b
 |.NotEq=>(Lu 5 a b).bind λr=>D<|!r
 |.Lt=>(Ld a).bind λi=>(Ld b).bind λj=>D<|Bx<|i<j
 |.Gt=>(Ld a).bind λi=>(Ld b).bind λj=>D<|Bx<|j<i
 |.Is=>bif isNone b then eJ a else AQ
 |.IsNot=>bif isNone b then(eJ a).bind λr=>D (!r)else AQ
 |.In=>match U5 b with
  |some ds=>ir 5 a ds
  |none=>(SQ b).bind λds=>ir 5 a ds
 |_=>AQ
theorem Nj.le(h:Nj i=J):i.natAbs<2^64:=E8 h
theorem Y0(h:U x+U y<=16777216):SU T n iY (AJ x) (AJ y) (AJ (x++y)):=by
 intro A X s u v Q E a d g t1 t2 K
 (refine Dx t1.inv λ_ e=>?_;subst e)
 (refine Dx t2.inv λ_ e=>?_;subst e)
 refine AIh (by rw[Ab,Ab];exact h) λi k=>?_;rw[qE];exact K _ _ (C1.refl _) (d.toks _)<|Vc _ _
theorem eK(h:eJ a=D r)(t:Tr T h' X a v):(v==AN)=r:=by cases t<;>first|exact AE h|exact EN h
theorem AAk(g:isNone b=J)(h:eJ a=D r):Cg T n .Is a b r:=by intro A X s u v Q E i d x e t2 K;obtain rfl:=Qc g;obtain rfl:=t2.inv;refine is_none_gen ?_;rw[eK h e];exact K _ (C1.refl _) d
theorem jt(g:isNone b=J)(h:eJ a=D r):Cg T n .IsNot a b (!r):=by intro A X s u v Q E i d x e t2 K;obtain rfl:=Qc g;obtain rfl:=t2.inv;refine isnot_none_gen ?_;rw[eK h e];exact K _ (C1.refl _) d
theorem Y8{a:Type}{x:AW a}{r:a}(h:(bif b then x else AQ)=D r):b=J/\x=D r:=by
 cases b with
 |true=>exact⟨B,h⟩
 |false=>exact EN h
theorem AAl(h:ADp d a b=D r):Cg T n d a b r:=by
 cases d with
 |Eq=>exact Ng h
 |NotEq=>refine Ap (Eo h) λx e h=>?_;exact AE h▸Nh e
 |Lt=>refine Ap (Eo h) λi e1 h=>?_;refine Ap (Eo h) λj e2 h=>?_;rw[G8 e1,G8 e2,<-AE h];exact dq
 |Gt=>refine Ap (Eo h) λi e1 h=>?_;refine Ap (Eo h) λj e2 h=>?_;rw[G8 e1,G8 e2,<-AE h];exact dv
 |Is=>exact AAk (Y8 h).1 (Y8 h).2
 |IsNot=>refine Ap (Eo (Y8 h).2) λx e h=>?_;exact AE h▸jt (Y8<|show(bif isNone b then _ else AQ)=D _ from‹ADp .IsNot a b=some r›).1 e
 |In=>
  have h:(match U5 b with|some ds=>ir 5 a ds|none=>(SQ b).bind λds=>ir 5 a ds)=D r:=h
  split at h
  ·rename_i e;rw[MI e];exact K4 h
  ·refine Ap (Eo h) λds e h=>?_;rw[Nc e];exact Po h
 |_=>exact EN h
section
theorem ACP:(⟨.nil,0,{},#[],{},1,osX⟩:Md).abs=(iy (RQ pw)).1:=by rfl
theorem tE(h:AEv w 22000=D s):AIY N7 pw w 22000=D s:=by unfold AEv at h;rw[<-AIA,<-AIB,<-AIC,<-AID,<-AIE,<-AIF,<-AIH]at h;exact AAP ACP h
theorem AHY:LeftO pw vq QS XtX tJ tK 22000:= λw=>by have a:=AJa w;unfold LBh RBh AHO at a;rw[<-AII]at a;obtain⟨s,e,d⟩:=Option.map_eq_some_iff.mp a;rw[tE e];show D (openSeen vq QS (NB pw.main.body) XtX J s,tJ s)=D (openGood vq QS,tK w);rw[d]
end
section
set_option tactic.hygienic true
noncomputable def Ni:A2->Ba
 |.Call .. =>AB
 |_=>J
theorem Si(h:Ni o=J):attributeBase o x env w=w:=by cases o<;>first|rfl|exact Pm h
noncomputable def D6:I A2->Ba
 |[] =>J
 |e::r=>bif C8 e.ctorIdx 22 then AB else D6 r
theorem Kw(h:D6 (e::r)=J):(∀x p,e≠zN x p)/\D6 r=true:=by
 have h:(bif C8 e.ctorIdx 22 then AB else D6 r)=true:=h;cases q:C8 e.ctorIdx 22 with
 |true=>rw[q]at h;exact Pm h
 |false=>rw[q]at h;exact⟨λx p h=>by rw[h]at q;exact nY q,h⟩
theorem Lv(h:D6 [e] =J):C5 (e::es) env=(AB,IC e env)::C5 es env:=Fw (Kw h).1
theorem Pp:∀ {es:I A2},D6 es=J->(Gc pos (C5 es env)).all (λx=> !x.1)=true:=by
 intro es;induction es with
 |nil=>
  exactλ_=>B
 |cons e es a=>
  exactλh=>by refine F3 (Kw h) λh0 d=>?_;rw[Fw h0];show(J&&(Gc pos<|C5 es env).all λx=> !x.1)=J;rw[dE];exact a d
theorem Fc{M:jA}{A:Hk}{E:Am->Bq->Prop}{s:Bq}{env:Pc}{o:A2}{name:Bt}{apos pos:LH}{args:I A2}{Q:Am->Bq->Prop}
  (z:Ni o=J)(hp:D6 args=J)(u:EV (U args) 20=J)(g:(apos.endLine==pos.line)=J)
  (h:Ao M A (IC o env) (λv d=> ∀y,Ao M A (ak v name y) (λr a=>Ao M A (T3 pos r.1 r.2 (Gc pos (C5 args env)) []) Q E a) E d) E s):
  Ao M A (IC (El (CO o name apos) args [] pos) env) Q E s:=by
 rw[AJh,Si z];refine AD<|DF h (λv d l=>?_) λ_ _ e=>e;refine AD<|Dq ?_;have i:AIe (U args+([]:I Mh).length) (Gc pos<|C5 args env) (AIf pos<|zu [] env)=true:=by show((Gc pos<|C5 args env).all (λx=> !x.1)&&J&&Bx (U args+0+0<30))=J;rw[Pp hp];have:=Be u;simp;exact Bj (by assumption)<|by decide
 have q:Vg J o env apos pos=Ce pos:=by unfold Vg;simp[g]
 unfold methodCall;rw[i];refine AD<|BV<|DF (l _) (λr a j=>?_) λ_ _ e=>e;exact AD<|CW q j
def H7(T:Th)(n:Aj)(a:DV)(x:Bt)(c:Am):Prop:=
 ∀A X s u d Q E,Le n A->Cm T s->Hs T X s.heap->Tr T s.heap X a u->Q (c,[u]) s->Ao (M T) A (ak u x d) Q E s
theorem GI(O:Cr T){pos:LH}{es:I A2}{ds:I DV}{c:Am}{first:I Am}(h:GH T n env vars es ds)(q:Bf T (Ah c)){A:Hk}{X:Az->Prop}{ad:Bt->I Az}{s:Bq}{Q E:Am->Bq->Prop}
  (R:Ar T n A X env vars ad s)(j:∀vs s₁,C1 T s.heap s₁.heap->Cm T s₁->A8 T s₁.heap X ds vs->Ao (M T) A (RV c (first++vs)) Q E s₁):Ao (M T) A (T3 pos c first (Gc pos (C5 es env)) []) Q E s:=by
 refine Ku (P:= λh'=> ∃s',s'.heap=h'/\Cm T s'/\Hs T X h') (by rw[NL h pos];rfl) (λh' ⟨s',e,v,l⟩=>by subst e;exact q s' X c v l<|ACX c) ?_;cases h with
 |nil=>
  refine Pd ⟨(K0 s B R.inv R.x),?_⟩;exact j [] s (C1.refl _) R.inv E4
 | @cons e y es u h0 hs r=>
  have e1:=Fw (es:=es) (env:=env) hs;have i:=(JR (pos:=pos) O (Qt h0 hs r) A X ad s (λvs s₁=>(∃s',s'.heap=s₁.heap/\Cm T s'/\Hs T X s₁.heap)/\Ao (M T) A (RV c<|first++vs) Q E s₁) E R λvs s₁ d a g=>by have R₁:=R.ext O d a;exact⟨(K0 s₁ B a R₁.x),j vs s₁ d a g⟩).2
  rw[e1]at i⊢;exact Hm i
theorem AAj(O:Cr T)(hb:Ni o=J)(hp:D6 es=J)(a1:EV (U es) 20=J)(q:(apos.endLine==pos.line)=J)
  (ho:Ev T n env vars o a)(h:GH T n env vars es ds)(g:H7 T n a x c)(kp:Bf T (Ah c))(ap:CP T n (Ah c) (a::ds) d):Ev T n env vars (El (CO o x apos) es [] pos) d:=by
 intro A X ad s Q E R k;refine Fc hb hp a1 q<|ho A X ad s _ E R λu L j i l pl=>?_;have R₁:=R.ext O j i;refine g A X L u pl _ E R.a i R₁.x l ?_;refine GI O h kp R₁ λvs G e a0 z=>?_;exact ap A X G c (u::vs) Q E R.a a0 (R₁.x.ext i e) (ACX c) (Cw (l.up O<|e.up R.x.tab) z) λv C r N y=>k v C ((j.trans e).trans r) N y
theorem Wm{id:Tx}(pa:PlainAttrs "bytes")(g:Slot "bytes" x id)(h:AIg (AS id)=Ce (Ae "method_descriptor")):H7 T n (AJ b) x (AS id):=by intro A X s u q Q E a d l t k;refine Dx t.inv λi j=>?_;subst j;exact HE (Ek _ _ _) pa g h (λ_ e=>nomatch e) k
theorem uu{id:Tx}(pa:PlainAttrs "dict")(g:Slot "dict" x id)(h:AIg (AS id)=Ce (Ae "method_descriptor")):H7 T n (EL ks ds) x (AS id):=by
 intro A X s u l Q E a d j t k
 (refine BU t.inv λ_ _ i m _ _=>?_;subst i)
 ·exact HE m.mapOf.typeIs pa g h (λb e=>m.mapOf.noDict b e) k
theorem MP{e:A2}{pos:LH}{R:Fl->BD->Prop}(j:env.scope.kind=BY)
  (h:∀(A:Hk) (X:Az->Prop) (Z:Az->AW NU) (ad:Bt->I Az) (s:Bq) (Q:Am->Bq->Prop) (E:Am->Bq->Prop),Sx T n A X env vars Z ad s->
   (∀d X' Ez s',R Aq d->Rj X X' Z->Sx T n A X' env d Z Ez s'->Q AN s')->(∀e d X' Ez s',R mx d->Rj X X' Z->bW T s' e->Sx T n A X' env d Z Ez s'->E e s')->Ao (M T) A (IC e env) Q E s)(hs:HC e AQ pos.line env=Ce false:=by rfl):SX T n env vars (NC e pos) R:=by
 intro A X Z ad s Q E a K q;refine jF (h A X Z ad s _ _ a (λd X' Ez s' i g l=>?_) q) (by unfold PU;rw[j];rfl) hs;exact K Aq HK d X' Ez s' i g Mg l
theorem A8.append:∀ {ds:I DV} {vs:I Am},A8 T h X ds vs->A8 T h X es ws->A8 T h X (ds++es) (vs++ws):=by
 intro ds;induction ds with
 |nil=>intro vs t b;obtain rfl:=t.inv;exact b
 |cons d r i=>intro vs t b;obtain⟨_,_,rfl,a,q⟩:=t.inv;exact Cw a<|i q b
theorem JB{A:Hk}{X:Az->Prop}{Z:Az->AW NU}{ad:Bt->I Az}{s:Bq}{x:Bt}{f:AW (I Az)}{o:K2}{pos:LH}{Q:Am->Bq->Prop}{E:Am->Bq->Prop}(d:Sx T n A X env vars Z ad s)(h:vars.lookup x=D (BP f o))(i:env.scope.kind=BY)(e:C9 x=J)
  (k:Ei T X s.heap (ad x) o->(∀b∈ad x,X b)->Q (AH (HI (ad x))) s):Ao (M T) A (IC (Bu x pos) env) Q E s:=by
 refine FD (d.f _<|En h) λr g w _=>?_;exact SS r (k w g) i (C9.a e)<|C9.b e
theorem js(O:Cr T){x:Bt}{p apos cpos pos:LH}{e:A2}{f:AW (I Az)}{ds:I DV}{d:DV}{R:Fl->BD->Prop}(hk:env.scope.kind=BY)(hn:C9 x=J)(hx:vars.lookup x=D (BP f (JW ds)))(hp:D6 [e] =J)(L:(apos.endLine==cpos.line)=J)
  (he:Ev T n env vars e d)(hz:U ds<=AY)(k:R Aq (D3 x (BP f (JW (ds++[d]))) vars)):SX T n env vars (NC (El (CO (Bu x p) "append" apos) [e] [] cpos) pos) R:=by
 refine MP hk λA X Z ad s Q E g K KE=>?_;refine Fc B hp B L<|JB g hx hk hn λw xa pl=>?_;refine Bk w λa vs eF pl' t=>?_;have hm:HI (ad x)=a:=by rw[eF];rfl
 rw[hm];refine HE pl'.isList.typeIs Kx aq au (λb e=>by cases e;refine BU pl' λo m i _ hd _=>?_;exact(CB o i hd)) ?_;have a5:GH T n env vars [e] [d] :=Qt he (λy q h=>by subst h;exact Pm hp) .nil;refine GI O a5 A3 g.toAr λws s₁ j C u=>?_;cases u with
 |cons u r=>
 obtain rfl:=r.inv
 rename_i v
 have a2:=g.ext O j C;have nt: ¬T.Tab a:=by refine BU pl' λo m i _ _ hd=>?_;exact g.inv.Bn i<|by rw[hd];exact K3 B
 have z:FK s₁.heap a (AU vs):=PM pl' λo i=>j a o nt i;have l1:=t.length;have ha:a∈ad x:=by rw[eF];simp
 have a0:∀o,AA s₁.heap a=D o->KJ o:= λo i=>by refine BU z λo' m a4 _ _ hd=>?_;obtain rfl:=AE<|i.symm.trans a4;exact Ax<|by rw[hd];exact K3 B
 refine WA z (λh' a1 hs=>?_)<|by simp only[Ab];exact DT [_,_,_] [.l A9 BQ,.e B5 A9] B5 BQ [1,1] B hz l1
 have I':Cm T {s₁ with heap:=h'} :=by
  rcases g.x.kind a (xa a ha)with q|⟨h1,_⟩
  ·exact Ay q nt
  ·exact C.turn (s':= {s₁ with heap:=h'}) O h1 a0 λb o ne i=>hs.extBut b o ne i
 have up:Up s.heap X h' X:= λb o i nx=>⟨hs.extBut b o (λq=>nx<|q▸xa a ha)<|j b o (λq=>nx<|g.x.tab b q) i,nx⟩;have a3:Up s₁.heap X h' X:= λb o i nx=>⟨hs.extBut b o (λq=>nx<|q▸xa a ha) i,nx⟩;have hX:∀b,Jn X (ad x) b->X b:= λb N=>N.elim id<|xa b;obtain⟨S',hu⟩:=a2.JD (s':= {s₁ with heap:=h'}) (F':=ad x) (o':=JW<|ds++[d]) (f':=f) O (En hx) I' (λb o _ N i=>hs.extBut b o (λq=>N<|q▸ha) i) B (λb N=>Ax N) (λb N=>N)
  ⟨a,vs++[v],eF,by rw[NY]at a1;exact a1,((t.up O up).append<|Cw (u.up O a3) E4).less O hX⟩ (λG hG=>by refine FD (g.f _<|En hx) λ_ _ _ fx=>?_;exact fx G hG)
 exact K _ _ _ _ k hu S'
structure GV where
 names:I (Bt×Et)
 glob:Bt->AW DV
 Fe:I Bt
 cq:AW (Am×Bt)
noncomputable def Zl:PV->AW DV
 |.d t=>D t
 |_=>AQ
theorem Wp(h:Zl p=D t):p=mw t:=by
 cases p with
 |d u=>exact AE h▸B
 |_=>exact EN h
noncomputable def O0(G:GV)(pv:BD)(x:Bt):AW DV:=(CY x G.names).bind λk=>bif k==IP then G.glob x else bif k==AFs then AQ else(CY x pv).bind Zl
noncomputable def ju:A2->Ba
 |.Starred .. =>AB
 |_=>J
noncomputable def uv:Const->AW DV
 |.int i=>D (AM i)
 |.none=>D BK
 |.bool b=>D (BZ b)
 |.str x=>D (Fu x)
 |.bytes x=>D (AJ x)
 |_=>AQ
def Kj(T:Th)(x:Bt)(d:DV):Prop:=
 ∃v,(T.mg x=D v\/(T.mg x=AQ/\uB x=D v/\x≠ "__name__"))/\ ∀s X,Cm T s->Hs T X s.heap->Tr T s.heap X d v
structure DG(T:Th)(env:Pc)(G:GV):Prop where
 kind:env.scope.kind=BY
 names:env.scope.names=G.names
 okn:∀p∈G.names,C9 p.1=J
 dO:env.globals=Bg
 blt:env.builtins=FZ
 cells:∀x,env.kindOf x=D BX\/env.kindOf x=D Bm->(env.cells.lookup x).isSome=J
 glob:∀x d,G.glob x=D d->Kj T x d
 cq:∀p,G.cq=D p->env.code=p.1/\env.qual=p.2
theorem DG.kindOf(K:DG T env G)(x:Bt):env.kindOf x=CY x G.names:=by rw[FF,<-K.names];rfl
theorem DG.C9(K:DG T env G)(h:CY x G.names=D k):C9 x=true:=K.okn (x,k)<|FQ h
theorem HZ(O:Cr T)(K:DG T env G)(h:O0 G pv x=D d):Ev T n env pv (Bu x pos) d:=by
 refine Ap (Eo h) λk u h=>?_;have l:=K.C9 u;cases q:k==IP with
 |false=>
  rw[q]at h;have h:=h;cases q:k==AFs with
  |true=>rw[q]at h;cases h
  |false=>
   rw[q]at h;refine Ap (Eo h) λp hp e=>?_;exact AAT (FF.symm.trans<|hp.trans<|Wp e▸B) K.kind l
 |true=>
  rw[q]at h;refine Ap (K.glob x d h) λv i C=>?_;intro A X ad s Q E R k;have z:=C9.a l;have r:env.kindOf x=D IP:=(K.kindOf x).trans<|u.trans<|F7 q▸B;have j:=k _ _ (C1.refl _) R.inv<|C s X R.inv R.x;have y:=K.dO▸R.inv.g O;rcases i with i|⟨L,i,l⟩
  ·exact Mo K.kind r (AFA y i j) z
  ·exact Mo K.kind r (WC y L (K.blt▸R.inv.b O) ((O.boot x l).trans i) j) z
theorem qb(O:Cr T)(h:uv c=D d):Ev T n env pv (Gj c k pos) d:=by cases c<;>first|(cases h;done)|(cases h;first|exact bO O|exact Yx|exact Yy|exact bP|exact We)
theorem qc(h:ju e=J):∀x p,e≠zN x p:=by rintro x p rfl;cases h
theorem ADq(O:Cr T)(h:Ev T n env pv x (AM i)):Ev T n env pv (AHq .USub x pos) (AM (-i)):=by intro A X ad s Q E R k;refine wpAny_UnaryOp<|h A X ad s _ E R λv e a d t₁=>?_;refine Dx t₁.inv λg j=>?_;subst j;exact neg_int<|k _ _ a (d.toks _)<|dC _ _
end
noncomputable def Wn:I Bt->I DV->BD->BD
 |x::xs,d::ds,pv=>Wn xs ds (D3 x (mw d) pv)
 |_,_,pv=>pv
section
variable{T:Th}{n:Nat}{env:Env}{pv:BD}
def UJ(env:Pc)(pv:BD)(xs:I Bt):Prop:= ∀x∈xs,Oy env pv x
theorem Pq(O:Cr T){ad:Bt->I Az}(hk:env.scope.kind=BY)
  (g:Sx T n A X env pv Z ad s)(ta:A8 T s.heap X ds vs)(hs:UJ env pv xs)(hp:Ds (λt x=> ∀v s Q,Ao (M T) A (Ic env x v) Q E s->Ao (M T) A (t v) Q E s) ts xs)
  (k:∀s',Up s.heap X s'.heap X->Sx T n A X env (Wn xs ds pv) Z ad s'->Q () s'):Ao (M T) A (AJi ts vs) Q E s:=by
 induction hp generalizing ds vs pv s with
 |nil=>
  refine AP<|k s (λa o e i=>⟨e,i⟩) ?_;cases ds<;>exact g
 |cons h hr L=>
  cases ds with
  |nil=>obtain rfl:=ta.inv;exact AP<|k s (λa o e i=>⟨e,i⟩) g
  |cons d ds=>
  obtain⟨v,u,rfl,G,C⟩:=ta.inv;refine AD<|BV<|h _ _ _<|uf O g G hk (hs _<|B0 _) λr q j=>?_;exact L j (C.up O q) (λy N=>(hs y<|Cb _ N).set) λs' l S'=>k s' (λa o e i=>let z:=q a o e i;l a o z.1 z.2) S'
def AIv(F:e->d->Prop)(xs:I e):I d->Prop
 |[] =>xs=[]
 |y::ys=> ∃x a,xs=x::a/\F x y/\Ds F a ys
theorem AGF(h:Ds F xs ys):AIv F xs ys:=by
 cases h with
 |nil=>rfl
 |cons a r=>exact⟨_,_,B,a,r⟩
theorem AGG(h:Ds F xs (y::ys)):∃x a,xs=x::a/\F x y/\Ds F a ys:=AGF h
theorem AIw(h:Ds F xs []):xs=[] :=AGF h
noncomputable def Mz(e:A2):AW Str:=if h:e.ctorIdx=23 then H5 (motive_1:= λ_=>AW Bt) e h λx _=>D x else AQ
theorem K5(h:Mz e=D x):∃p,e=Bu x p:=
 let⟨q,h⟩:=Em h
 H5 (motive_1:= λe=> ∀q,H5 (motive_1:= λ_=>AW Bt) e q (λx _=>D x)=D x->∃p,e=Bu x p) e q (λy p q h=>AE h▸⟨p,B⟩) q h
noncomputable def Jr:I A2->AW (I Bt)
 |[] =>D []
 |e::r=>(Mz e).bind λx=>(Jr r).bind λxs=>D (x::xs)
theorem Lx:∀ {ts:I A2} {xs:I Bt},Jr ts=D xs->
  Ds (λt x=> ∀v s Q,Ao (M T) A (Ic env x v) Q E s->Ao (M T) A (t v) Q E s) ((jG ts env).map (·.2)) xs/\(jG ts env).length=U xs/\(jG ts env).findIdx? (·.1)=AQ
 |[],_,h=>by obtain rfl:=AE h;exact⟨QV,B,B⟩
 |t::ts,xs,h=>by refine Ap (Gd h) λx q a=>?_;refine Ap (Gd a) λys e g=>?_;clear h a;obtain⟨p,rfl⟩:=K5 q;obtain rfl:=AE g;refine NZ (Lx (A:=A) (E:=E) e) λl j i=>?_;refine⟨QW (λv s Q d=>assign_Name d) l,by show _+1=_+1;rw[j],?_⟩;show List.findIdx? (·.1) ((AB,uG (Bu x p) env)::jG ts env)=AQ;rw[List.findIdx?_cons,i];rfl
noncomputable def Wo:DV->AW (I DV)
 |.tup ds=>D ds
 |.lst ds=>D ds
 |_=>AQ
theorem VM(O:Cr T)(r:A.handled=AQ)(d:Cm T s)(x:Hs T X s.heap)(t:Tr T s.heap X (FI ds) v)
  (k:∀vs s',C1 T s.heap s'.heap->Cm T s'->A8 T s'.heap X ds vs->Q vs s'):Ao (M T) A (T5 v (U ds) AQ) Q E s:=by
 (refine BU t.inv λa vs h i u ta=>?_;subst h)
 ·have j:U ds=AK vs.toArray:=by rw[Ab,ta.length]
  rw[j];refine AE9 r i λh' l=>?_;have g:∀b o,AA s.heap b=D o->AA h' b=D o:= λb o e=>l b o (λq=>by rw[q]at e;exact Ay (BS e)<|B7 _) e;exact k _ _ (C1.of_keeps g) (d.keeps O g)<|ta.up O<|(C1.of_keeps g).up x.tab
end
noncomputable def Qd:A2->Ba
 |.ListComp .. =>AB
 |.SetComp .. =>AB
 |.DictComp .. =>AB
 |_=>J
def atR(fl:Fl)(pv:BD):Fl->BD->Prop:= λa EA=>a=fl/\EA=pv
theorem Pr(h:Qd e=J):HC e t l env=Ce false:=by cases e<;>first|rfl|cases h
noncomputable def OK(sc:R4):Bool:=sc.names.all (λp=>C9 p.1&& !(p.2==Bm))&& !sc.isCoroutine&& !sc.isGenerator&&(sc.kind==BY)
theorem UK:∀ {k:Aj} {acc:I (Bt×Az)} {x:Bt},(x,BX)∈a\/x∈acc.map CZ->x∈(B3 k a acc).map Prod.fst:=by
 induction a with
 |nil=>exactλh=>h.resolve_left Au
 |cons p r g=>
  intro k acc x h;show x∈(if(p.2==BX)=J then B3 (k+1) r ((p.1,k)::acc)else B3 k r acc).map CZ;by_cases d:(p.2==BX)=J
  ·rw[Dh d];refine g<|h.elim (λh=>(DO h).elim (λe=>BC<|CV.mpr<|Ax<|BI CZ e) Ax) λh=>BC<|Cb _ h
  ·rw[CQ d];exact g<|h.imp_left λh=>(DO h).resolve_left λe=>d (BI (λq:Bt×Et=>q.2==BX) e).symm
structure Pt(T:Th)(f:Az)(fd:T1):Prop where
 obj:∃o,AA T.H1 f=D o/\o.data=IB fd
 tab: ¬T.Tab f
 code:T.H1.CodeRec fd.code fd.qualname
 Te:∀c,fd.code=AH c-> ¬T.Tab c
 Cd:fd.closure=[]
 dO:fd.globals=Bg
 blt:fd.builtins=FZ
def JI(fd:T1)(ps:I Bt):Prop:= ∀vs,U vs=U ps->CG fd ⟨vs,[]⟩=Ce (ps.zip vs)
section
set_option backward.match.sparseCases true
theorem Nk(g:AA s.heap d=D o)(i:o.cls=Ae c)(h:(["enumerate","zip","dict_itemiterator","dict_reverseitemiterator","odict_iterator","itertools.zip_longest","itertools.pairwise"].contains c)=AB)(k:Q () s):Ao (M T) A (ND FG (AH d) v) Q E s:=by
 have e:∀a,Ao (M T) A (do
   let o<-load d
   match o.cls,o.data with
   |.type n,BF vs=>
    if ["enumerate","zip","dict_itemiterator","dict_reverseitemiterator","odict_iterator","itertools.zip_longest","itertools.pairwise"].contains n&&vs[0]? ==D (Jo a)then
     rule "for.unpacks-the-owned-tuple"
     updateField d 0 AN
   |_,_=>Ce ()) Q E s:= λa=>by
  refine AD<|wpAny_load g ?_;rw[i];cases o.data with
  |fields vs=>
   dsimp only
   rw[h,ACb];exact AP k
  |_=>exact AP k
 cases FG<;>first|exact AP k|skip
 all_goals
  cases v<;>first|exact AP k|exact e _
structure Itr(T:Th)(A:Hk)(X:Az->Prop)(ds:I DV)(i9:Az)(fp:I Az)(P:Aj->Am->Prop)(St:Aj->Dw->Prop)(s₀ s:Bq):Prop where
 w:Walks prog T.w A i9 fp [i9] (U ds) P St
 st:St 0 s.heap
 new:AA s₀.heap i9=AQ
 soft:∀i h,St i h->∃o,AA h i9=D o/\KJ o/\ ∃vs,o.data=BF vs
 fp:∀b∈fp,b≠i9->(∃o,AA s₀.heap b=D o)/\ ¬T.Tab b
 tr:∀i hi v,P i v->∀h' X',Up s₀.heap X h' X'->Tr T h' X' ds[i] v
 go:∀FG i s v Q E,St i s.heap->Q () s->Ao (M T) A (ND FG (AH i9) v) Q E s
def ItG(T:Th)(n:Aj)(env:Pc)(pv:BD)(e:A2)(ds:I DV):Prop:=
 ∀A X ad s Q E,Ar T n A X env pv ad s->
  (∀a g P St s₀ s₂,C1 T s.heap s₀.heap->Cm T s₀->C1 T s₀.heap s₂.heap->Cm T s₂->Itr T A X ds a g P St s₀ s₂->Q (AH a) s₂)->
  Ao (M T) A (IC e env) (λu d=>Ao (M T) A (jH u) Q E d) E s
theorem Pu(O:Cr T)(ha:A.handled=AQ)(d:Cm T s)(x:Hs T X s.heap)(z:s.heap.IsList a (AU vs))(ht:A8 T s.heap X ds vs)
  (k:∀d fp P St s₂,C1 T s.heap s₂.heap->Cm T s₂->Itr T A X ds d fp P St s s₂->(∀b∈fp,b≠d->b=a)->Q (AH d) s₂):Ao (M T) A (jH (AH a)) Q E s:=by
 have lt:a<AK s.heap.objs:=by refine Ap z λo j _=>?_;exact BS j
 have L:∀b o,AA s.heap b=D o->(s.heap.push {cls:=Ae "list_iterator",data:=BF #[.ref a,EF 0 0] }).get? b=D o:= λb o e=>AX _ e;refine AFB z<|k _ [AK s.heap.objs,a] (λi v=>vs.toArray[i]? =D v) (λi h=>h.IsListIter (AK s.heap.objs) a i/\h.IsList a (AU vs)) _ (C1.of_keeps L) (d.keeps O L) ⟨?_,⟨⟨_,A1 _ B,B,B⟩,?_⟩,?_,λi h st=>?_,λb hb u=>?_,λi hi v G h' X' g=>?_,λFG i s' v Q E G g=>?_⟩ λb hb u=>(DO hb).elim (λq=>Ay q u) λq=>Cx q
 ·have:=Walks.list (prog:=prog) (w:=T.w) ha (AK s.heap.objs) a (I7 lt) (AU vs);have e:AK vs.toArray=U ds:=(Ab (as:=vs)).trans ht.length;rw[e]at this;exact this
 ·refine Ap z λo j r=>?_;exact⟨o,L _ _ j,r⟩
 ·cases e:AA s.heap (AK s.heap.objs)with
  |none=>rfl
  |some o=>exact Ay (BS e)<|B7 _
 ·(refine F3 st λl _=>?_;obtain⟨o,j,y,N⟩:=l)
  exact⟨o,j,BC ⟨by rw[y];exact RN,by rw[y];simp⟩,_,N⟩
 ·rcases DO hb with e|hb
  ·exact Ay e u
  ·rw[Cx hb];refine Dg z λo j y _=>?_;exact⟨⟨o,j⟩,d.DI j<|by rw[y];exact RN⟩
 ·have C:vs[i]? =D v:=by simpa using G
  refine Dx (Pl C) λh2 e2=>?_;rw[<-e2];exact(ht.get i hi h2).up O g
 ·(refine F3 G λl _=>?_;obtain⟨o,j,y,N⟩:=l)
  exact Nk j y (by decide) g
theorem Ly(O:Cr T)(h:GH T n env pv es ds)(v:Bf T c){ad:Bt->I Az}
  (R:Ar T n A X env pv ad s)(tf:Tr T s.heap X c f)(l:∀vs s₁,C1 T s.heap s₁.heap->Cm T s₁->Hs T X s₁.heap->Tr T s₁.heap X c f->A8 T s₁.heap X ds vs->Ao (M T) A (RV f vs) Q E s₁):Ao (M T) A (T3 pos f [] (Gc pos (C5 es env)) []) Q E s:=by
 refine Ku (P:= λh'=> ∃s',s'.heap=h'/\Cm T s'/\Hs T X h'/\Tr T h' X c f) (by rw[NL h pos];rfl) (λh' ⟨s',e,z,q,u⟩=>by subst e;exact v s' X f z q u) ?_;cases h with
 |nil=>
  refine Pd ⟨(NI s B R.inv R.x tf),?_⟩;exact l [] s (C1.refl _) R.inv R.x tf E4
 | @cons e C es y h0 hs r=>
  have e1:=Fw (es:=es) (env:=env) hs;have j:=(JR (pos:=pos) O (Qt h0 hs r) A X ad s (λvs s₁=>(∃s',s'.heap=s₁.heap/\Cm T s'/\Hs T X s₁.heap/\Tr T s₁.heap X c f)/\Ao (M T) A (RV f vs) Q E s₁) E R λvs s₁ a d g=>by have R₁:=R.ext O a d;have i:=tf.up O<|a.up R.x.tab;exact⟨(NI s₁ B d R₁.x i),l vs s₁ a d R₁.x i g⟩).2
  rw[e1]at j⊢;exact Hm j
def ItF(T:Th)(n:Aj)(env:Pc)(pv:BD)(e:A2)(ds:I DV):Prop:=
 ∀A X ad s Q E,Ar T n A X env pv ad s->
  (∀a g P St s₀ s₂,C1 T s.heap s₀.heap->Cm T s₀->C1 T s₀.heap s₂.heap->Cm T s₂->Itr T A X ds a g P St s₀ s₂->(∀b∈g,b≠a-> ¬X b)->Q (AH a) s₂)->
  Ao (M T) A (IC e env) (λu d=>Ao (M T) A (jH u) Q E d) E s
theorem ItF.toG(h:ItF T n env pv iter ds):ItG T n env pv iter ds:= λA X ad s Q E R k=>h A X ad s Q E R λi u P St s₀ j a b c d e _=>k i u P St s₀ j a b c d e
theorem uw(O:Cr T)(h:Ev T n env pv iter (AL ds)):ItF T n env pv iter ds:=by
 intro A X ad s Q E R k;refine h A X ad s _ E R λv s' x i t=>?_
 (refine BU t.inv λ_ _ j C q y=>?_;subst j)
 ·exact Pu O R.a.handled i (R.x.ext R.inv x) C y λd L P St e l u r G=>k d L P St s' e x i l u r λb z g=>G b z g▸q
theorem Y9(O:Cr T)(ha:A.handled=AQ)(d:Cm T s)(x:Hs T X s.heap)(N:zp s.heap a (AU vs))(ht:A8 T s.heap X ds vs)
  (k:∀d fp P St s₂,C1 T s.heap s₂.heap->Cm T s₂->Itr T A X ds d fp P St s s₂->(∀b∈fp,b≠d->b=a)->Q (AH d) s₂):Ao (M T) A (jH (AH a)) Q E s:=by
 have l:s.heap.IsTuple a (AU vs):=by first|exact N.isTuple|exact N
 have lt:a<AK s.heap.objs:=by refine Ap l λo j _=>?_;exact BS j
 have L:∀b o,AA s.heap b=D o->(s.heap.push {cls:=Ae "tuple_iterator",data:=BF #[.ref a,EF 0 0] }).get? b=D o:= λb o e=>AX _ e;refine wpAny_pyIter_tuple l<|k _ [AK s.heap.objs,a] (λi v=>vs.toArray[i]? =D v) (λi h=>h.IsTupleIter (AK s.heap.objs) a i/\h.IsTuple a (AU vs)) _ (C1.of_keeps L) (d.keeps O L) ⟨?_,⟨⟨_,A1 _ B,B,B⟩,?_⟩,?_,λi h st=>?_,λb hb y=>?_,λi hi v G h' X' g=>?_,λFG i s' v Q E G g=>?_⟩ λb hb y=>(DO hb).elim (λq=>Ay q y) λq=>Cx q
 ·have:=Walks.tuple (prog:=prog) (w:=T.w) ha (AK s.heap.objs) a (I7 lt) (AU vs);have e:AK vs.toArray=U ds:=(Ab (as:=vs)).trans ht.length;rw[e]at this;exact this
 ·refine Ap l λo j r=>?_;exact⟨o,L _ _ j,r⟩
 ·cases e:AA s.heap (AK s.heap.objs)with
  |none=>rfl
  |some o=>exact Ay (BS e)<|B7 _
 ·(refine F3 st λu _=>?_;obtain⟨o,j,z,hd⟩:=u)
  exact⟨o,j,BC ⟨by rw[z];exact RN,by rw[z];simp⟩,_,hd⟩
 ·rcases DO hb with e|hb
  ·exact Ay e y
  ·rw[Cx hb];refine Dg l λo j z _=>?_;exact⟨⟨o,j⟩,d.DI j<|by rw[z];exact RN⟩
 ·have C:vs[i]? =D v:=by simpa using G
  refine Dx (Pl C) λh2 e2=>?_;rw[<-e2];exact(ht.get i hi h2).up O g
 ·(refine F3 G λu _=>?_;obtain⟨o,j,z,hd⟩:=u)
  exact Nk j z (by decide) g
theorem AAo(O:Cr T)(h:Ev T n env pv iter (FI ds)):ItF T n env pv iter ds:=by
 intro A X ad s Q E R k;refine h A X ad s _ E R λv s' x i t=>?_
 (refine BU t.inv λ_ _ j C q y=>?_;subst j)
 ·exact Y9 O R.a.handled i (R.x.ext R.inv x) C y λd L P St e l u r G=>k d L P St s' e x i l u r λb z g=>G b z g▸q
noncomputable def Dd(a:Aa):Aj->I DV
 |0=>[]
 |n+1=>AM a::Dd (a+1) n
theorem Wq:Dd a 0=([]):=B
theorem Oq:Dd a (n+1)=(AM a::Dd (a+1) n):=B
theorem Js:∀n a,(Dd a n).length=n
 |0,_=>B
 |n+1,a=>by rw[Oq];rw[Ac,Js]
theorem U6:∀n a i (h:i<(Dd a n).length),(Dd a n)[i] =AM (a+i)
 |0,_,i,h=>Ay h (H4 _)
 |n+1,a,0,_=>by simp[Wq,Oq]
 |n+1,a,i+1,h=>by
  have:=U6 n (a+1) i<|by rw[Oq]at h;simpa using h
  simp only[Wq,Oq,List.getElem_cons_succ,this]
  congr 1;push_cast;exact(dP ..).trans (BI (_+ ·)<|iw ..)
theorem O1(O:Cr T)(L:A.handled=AQ)(d:Cm T s)(C:IsRange s.heap r a b 1 t u v)
  (h1: -(2^62)<=a)(h2:a<2^62)(h3: -(2^62)<=b)(N:b<2^62)
  (k:∀d y P St s₂,C1 T s.heap s₂.heap->Cm T s₂->Itr T A X (Dd a (b-a).toNat) d y P St s s₂->(∀b∈y,b=d)->Q (AH d) s₂):Ao (M T) A (jH (AH r)) Q E s:=by
 have hsz:AFt a b 1=((b-a).toNat:Aa):=by
  rw[rangeSize_one];by_cases h:a<b
  ·rw[Dh h];exact Pk<|Lm<|I5 h
  ·rw[CQ h,Int.toNat_of_nonpos<|Int.sub_nonpos_of_le<|Tu.mp h];rfl
 refine wpAny_pyIter_range C (small_one h1 h2 h3 N) ?_;rw[hsz];have x:∀z o,AA s.heap z=D o->(s.heap.push {cls:=Ae "range_iterator",data:=BF #[Jo a,Jo ((b-a).toNat:Aa),Jo 1] }).get? z=D o:= λb o e=>AX _ e;refine k _ [AK s.heap.objs] (λi v=> ∃t,v=EF (a+i*1) t) (λi h=>IsRangeIter h (AK s.heap.objs) (a+(i:Aj)*1) (((b-a).toNat:Aa)-(i:Aj)) 1) _ (C1.of_keeps x) (d.keeps O x) ⟨?_,?_,?_,λi h st=>?_,λb q l=>Ay (Cx q) l,λi G v j h' X' g=>?_,λFG i s' v Q E j g=>Nk j B (by decide) g⟩ λb q=>Cx q
 ·rw[Js];exact Walks.range L _ a 1 _
 ·show IsRangeIter _ _ _ _ _;simpa using A1 _ B
 ·cases e:AA s.heap (AK s.heap.objs)with
  |none=>rfl
  |some o=>exact Ay (BS e)<|B7 _
 ·exact⟨_,st,BC ⟨RN,by simp⟩,_,B⟩
 ·obtain⟨t,rfl⟩:=j;rw[U6 _ _ _ G,RP];exact dC _ _
theorem jv(O:Cr T)(hf:Ev T n env pv (Bu f p) (Ah (Ae "range")))(he:GH T n env pv [e] [AM b])(h3: -(2^62)<=b)(h4:b<2^62):ItF T n env pv (El (Bu f p) [e] [] pos) (Dd 0 (Bp b)):=by
 intro A X ad s Q E R k;refine Fb<|hf A X ad s _ E R λfv G g v l=>?_;have x:=R.ext O g v;refine Ly O he MB x l λvs s₂ j h xo tf ta=>?_;obtain rfl:=tf.inv
 (refine Bk ta.inv λ_ _ C t1 r=>?_;subst C)
 ·cases r
  (refine Dx t1.inv λtk e_=>?_;subst e_)
  refine call_range_1 ?_;have z:∀N o,AA s₂.heap N=D o->(s₂.heap.push {cls:=Ae "range",data:=BF #[.int 0 s₂.toks,EF b tk,EF 1<|s₂.toks+1] }).get? N=D o:= λb o e=>AX _ e;refine O1 (X:=X) O R.a.handled (h.keeps (s':= {s₂ with heap:=s₂.heap.push {cls:=Ae "range",data:=BF #[.int 0 s₂.toks,EF b tk,EF 1<|s₂.toks+1] },toks:=s₂.toks+1+1}) O z) (ACc ..) (by exact Av _) (by exact Av _) h3 h4 λd fp P St q i u L hb=>?_;rw[Int.sub_zero]at L;exact k d fp P St _ q ((g.trans j).trans<|C1.of_keeps z) (h.keeps O z) i u L λb hm y=>Ay (hb b hm) y
theorem jw(O:Cr T)(hf:Ev T n env pv (Bu f p) (Ah (Ae "range")))(he:GH T n env pv [e,e'] [AM a,AM b])(h1: -(2^62)<=a)(h2:a<2^62)(h3: -(2^62)<=b)(h4:b<2^62):ItF T n env pv (El (Bu f p) [e,e'] [] pos) (Dd a (b-a).toNat):=by
 intro A X ad s Q E R k;refine Fb<|hf A X ad s _ E R λfv L g x l=>?_;have y:=R.ext O g x;refine Ly O he MB y l λvs s₂ j h xo tf ta=>?_;obtain rfl:=tf.inv
 (refine Bk ta.inv λ_ _ G t1 r=>?_;subst G)
 ·cases r with
  |cons t2 r=>
   cases r;cases t1 with
   |int _ tk=>
   cases t2 with
   |int _ q=>
   refine call_range_2 ?_;have C:∀N o,AA s₂.heap N=D o->(s₂.heap.push {cls:=Ae "range",data:=BF #[.int a tk,EF b q,EF 1 s₂.toks] }).get? N=D o:= λb o e=>AX _ e;refine O1 (X:=X) O R.a.handled (h.keeps (s':= {s₂ with heap:=s₂.heap.push {cls:=Ae "range",data:=BF #[.int a tk,EF b q,EF 1 s₂.toks] },toks:=s₂.toks+1}) O C) (ACc ..) h1 h2 h3 h4 λd fp P St u i v it hb=>?_;exact k d fp P St _ u ((g.trans j).trans<|C1.of_keeps C) (h.keeps O C) i v it λb hm z=>Ay (hb b hm) z
end
theorem jx(O:Cr T){St:Aj->Dw->Prop}(G:Itr T A X ds d fp P St s₀ r)(h1:AA T.H1 d=AQ):∀m i s Q,i+m=U ds->St i s.heap->Cm T s->Up s₀.heap X s.heap (Jn X [d])->
  (∀a o,AA r.heap a=D o->a≠d->AA s.heap a=D o)->
  (∀vs s',(∀a o,a≠d->AA s.heap a=D o->AA s'.heap a=D o)->Cm T s'->St (U ds) s'.heap->A8 T s'.heap (Jn X [d]) (ds.drop i) vs->Q vs s')->Ao (M T) A (draw (AH d) m) Q E s:=by
 intro m;induction m with
 |zero=>
  exactλi s Q N st In g K k=>by refine AP<|k [] s (λ_ _ _ e=>e) In ((show i=U ds by assumption)▸st) ?_;rw[F8<|by exact B8<|nB<|by assumption];exact E4
 |succ m ih=>
  exactλi s Q N st In g K k=>by
   have l:i<U ds:=Pj [_,_,_] [.e (.a A9<|.a BQ DB) B5] A9 B5 [1] B N;skip;refine AD<|G.w.item i s _ _ l st λv h' tk hv y kp=>?_;have h:∀a o,a≠d->AA s.heap a=D o->AA h' a=D o:= λa o j e=>kp a o (by simpa using j) e;have a1:=In.turn (s':= {s with heap:=h',toks:=tk}) O h1 (λo e=>let⟨o',L,so,_⟩:=G.soft i _ st;by obtain rfl:=AE<|e.symm.trans L;exact so) h;have U':Up s₀.heap X h' (Jn X [d]):= λa o e C=>by have z:=g a o e C;exact⟨h a o (λq=>z.2<|BC<|by simp[q]) z.1,z.2⟩
   refine AD<|BV<|ih (i+1) {s with heap:=h',toks:=tk} _ (Yb [_,_,_] [.e (.a A9<|.a BQ DB) B5] (.a (.a A9 DB) BQ) B5 [1] [-1] B B N) y a1 U' (λa o e j=>h a o j<|K a o e j) λvs s' u a0 x ta=>AP<|k _ s' (λa o j e=>u a o j<|h a o j e) a0 x ?_;rw[E9 l];have U2:Up s₀.heap X s'.heap (Jn X [d]):= λa o e C=>by have z:=U' a o e C;exact⟨u a o (λq=>z.2<|BC<|by simp[q]) z.1,z.2⟩
   exact Cw (G.tr i l v hv s'.heap _ U2) ta
theorem VN(O:Cr T)(ha:A.handled=AQ)(g:Cm T s)(x:Hs T X s.heap)(t:Tr T s.heap X (AL ds) v)
  (k:∀vs s',C1 T s.heap s'.heap->Cm T s'->A8 T s'.heap X ds vs->Q vs s'):Ao (M T) A (T5 v (U ds) AQ) Q E s:=by
 (refine BU t.inv λa vs z hl r N=>?_;subst z)
 ·unfold T5;refine AD ?_;unfold notIterableAtAll;refine AD<|R7 hl.typeIs slot_list_iter.lookup ?_;refine AP ?_;simp only[DW,Ho];refine AD<|BV<|Pu (X:=X) O ha g x hl N λd fp P St s₂ G i2 it a0=>?_;have h1:=Du g it.new;have h:Up s.heap X s₂.heap (Jn X [d]):= λb o e r=>⟨G b o (λq=>r<|x.tab b q) e,λq=>q.elim r λq=>by rw[Cx q,it.new]at e;exact EN e⟩;refine AD<|BV<|jx O it h1.1 (U ds) 0 s₂ _ (Yb [_] [] (.a Mr A9) A9 [] [] B B) it.st i2 h (λ_ _ e _=>e) λws i kp In st tw=>?_;rw[Q5]at tw;refine B2 (Bc<|by rw[tw.length];exact lnF [_] [.t A9 A9] [1] B) ?_;refine AD<|BV<|it.w.done i _ _ st λh' tk u=>?_;simp only[nC,DW,Ho];have j:∀b o,b≠d->AA i.heap b=D o->AA h' b=D o:= λb o ne e=>u b o (by simpa using ne) e;have C:=In.turn (s':= {i with heap:=h',toks:=tk}) O h1.1 (λo e=>let⟨o',y,so,_⟩:=it.soft _ _ st;by obtain rfl:=AE<|e.symm.trans y;exact so) j;have l:∀b o,AA s.heap b=D o->b≠d:= λb o e q=>by rw[q,it.new]at e;exact EN e
  have E1:C1 T s.heap h':= λb o nt e=>j b o (l b o e)<|kp b o (l b o e)<|G b o nt e;refine AP<|k ws _ E1 C ?_;refine tw.up O λb o e L=>⟨j b o (λq=>L<|BC<|by simp[q]) e,λq=>L<|Ax q⟩
theorem OL:swapsWithSole [KU d k tp] a l env=Ce false:=by cases a<;>rfl
theorem Jt(O:Cr T)(e:Wo d=D ds)(g:A.handled=AQ)(a:Cm T s)(x:Hs T X s.heap)(t:Tr T s.heap X d v)
  (k:∀vs s',C1 T s.heap s'.heap->Cm T s'->A8 T s'.heap X ds vs->Q vs s'):Ao (M T) A (T5 v (U ds) AQ) Q E s:=by
 cases d<;>first|((first|exact EN e|obtain rfl:=AE e);done)|skip
 ·obtain rfl:=AE e;exact VM O g a x t k
 ·obtain rfl:=AE e;exact VN O g a x t k
theorem Ws(O:Cr T)(hk:env.scope.kind=BY)(hn:Jr ts=D xs)(hs:UJ env pv xs)(he:Ev T n env pv e d)(hd:Wo d=D ds)(hl:U ds=U xs)
  (hw:KG [KU ts k tp] e env=Ce AQ)(kR:R Aq (Wn xs ds pv)):SX T n env pv (Fg [KU ts k tp] e pos) R:=by
 intro A X Z ad s Q E g K KE;refine Assign_Tuple (he A X ad s _ _ g.toAr λv C j h l=>?_) OL hw;have S₁:=g.ext O j h;refine NZ (Lx (T:=T) (env:=env) (A:=A) (E:=E) hn) λn1 N L=>?_;rw[uH];refine AD<|Dq ?_;unfold unpack;rw[N,L,<-hl];refine AD<|BV<|Jt O hd g.a.handled h S₁.x l λvs z i r G=>?_;have y:=S₁.ext O i r;exact Pq O hk y G hs n1 λq up u=>K Aq HK _ X ad q kR .refl Mg u
theorem A8.reverse:∀ {ds:I DV} {vs:I Am},A8 T h X ds vs->A8 T h X ds.reverse vs.reverse:=by
 intro ds;induction ds with
 |nil=>intro vs t;obtain rfl:=t.inv;exact E4
 |cons d r i=>intro vs t;obtain⟨_,_,rfl,a,q⟩:=t.inv;rw[uI,uI];exact(i q).append<|Cw a E4
theorem jy:∀xs,Ds (λt x=> ∀v s Q,Ao (M T) A (Ic env x v) Q E s->Ao (M T) A (t v) Q E s) (xs.map λn=>bindName env n) xs:=by
 intro xs;induction xs with
 |nil=>
  exact QV
 |cons x xs a=>
  exact QW (λv s Q d=>AFu d) a
theorem Wt(O:Cr T)(hk:env.scope.kind=BY)(hs:UJ env pv xs)(he:Ev T n env pv e (FI ds))(hl:U ds=U xs)
  (N:KG [KU ts k tp] e env=Ce (D xs))(G:R Aq (Wn xs.reverse ds.reverse pv)):SX T n env pv (Fg [KU ts k tp] e pos) R:=by
 intro A X Z ad s Q E g K KE;refine zv (he A X ad s _ _ g.toAr λv C j h l=>?_) OL N;have S₁:=g.ext O j h;rw[<-hl];refine Jt (d:=FI ds) O B g.a.handled h S₁.x l λvs z i r ta=>?_;have y:=S₁.ext O i r;exact Pq O hk y ta.reverse (λx L=>hs x<|List.mem_reverse.mp L) (jy _) λq up u=>K Aq HK _ X ad q G .refl Mg u
theorem eL(hl:FK s.heap l its)(z:s.heap.IsList b its2)(x:b≠l)
  (C:∀h',FK h' l (its++its2)->Hg l s.heap h'->Q AN {s with heap:=h'})(hsz:AK its+AK its2<=AY):
  Ao (M T) A (RV (AS "list.extend") [AH l,AH b]) Q E s:=by
 refine BU (id hl) λo n i y j h=>?_;refine LO (id z) λu e r O q=>?_;refine Dx (Jk h (· ++its2)) λv g=>?_;refine Gl Yj hl.isList.typeIs PySem.F.entry_list_extend ?_<|PySem.F.args_list_extend_2 _ _;show Ao _ _ (SF (AH l) (AH b) AN) _ _ s;unfold SF;refine AD<|Yk ⟨u,e,r⟩ ?_;have L:(AHr (AH l) (AH b)||Ae "list" ==Ae "list" ||Ae "list" ==Ae "tuple")=true:=by simp
 simp only[L,EU];refine AD ?_;unfold AHs;refine AD<|CA e q<|AP ?_;refine AD ?_;refine AD<|CA i h<|AP ?_;have G:(!its.isEmpty&&Ux (AK its+AK its2))=false:=by unfold Ux;rw[show Bx (AK its+AK its2>AY)=AB from Bc (lnF [_,_,_] [.l (.a A9 BQ) B5,.t B5<|.a A9 BQ] [1,1] B hsz),ACd]
 rw[G];simp only[DW,Ho];skip;refine AD ?_;refine dS i h (AP<|CB (AN) B<|C _ ?_<|Dy ..) (hz:=DT [_,_,_] [.l (.a A9 BQ) B5] A9 B5 [1] B hsz) (_hz':=by rw[Array.size_append];exact IQ<|by assumption);refine⟨_,v,Dm _ i<|Hp g,(RX ..).trans y,?_,g⟩;obtain⟨c,d,dt,N⟩:=o;subst h;exact j
theorem jz(O:Cr T)(hk:env.scope.kind=BY)(hn:C9 x=J)(hx:pv.lookup x=D (BP f (JW ds)))(hp:D6 [e] =J)(z:(apos.endLine==cpos.line)=J)
  (he:Ev T n env pv e (AL es))(hz:U ds+U es<=AY)(k:R Aq (D3 x (BP f (JW (ds++es))) pv)):SX T n env pv (NC (El (CO (Bu x p) "extend" apos) [e] [] cpos) pos) R:=by
 refine MP hk λA X Z ad s Q E d K KE=>?_;refine Fc B hp B z<|JB d hx hk hn λw L pl=>?_;refine Bk w λa vs eF pl' t=>?_;have hm:HI (ad x)=a:=by rw[eF];rfl
 rw[hm];refine HE pl'.isList.typeIs Kx Yj PySem.F.type_list_extend (λb e=>by cases e;refine BU pl' λo m g _ hd _=>?_;exact(CB o g hd)) ?_;have a4:GH T n env pv [e] [AL es] :=Qt he (λy q h=>by subst h;exact Pm hp) .nil;refine GI O a4 A3 d.toAr λws s₁ i v t₁=>?_;cases t₁ with
 |cons t₁ r=>
 obtain rfl:=r.inv
 (refine BU t₁.inv λb ws e_ u nb tb=>?_;subst e_)
 have a1:=d.ext O i v;have nt: ¬T.Tab a:=by refine BU pl' λo m g _ _ hd=>?_;exact d.inv.Bn g<|by rw[hd];exact K3 B
 have j:=PM pl' λo g=>i a o nt g;have l1:=t.length;have l2:=tb.length;have ha:a∈ad x:=by rw[eF];simp
 have N:∀o,AA s₁.heap a=D o->KJ o:= λo g=>by refine BU j λo' m a3 _ _ hd=>?_;obtain rfl:=AE<|g.symm.trans a3;exact Ax<|by rw[hd];exact K3 B
 refine eL j u (λq=>nb<|q▸L a ha) (λh' a0 hs=>?_)<|by simp only[Ab];exact DT [_,_,_,_,_] [.l (.a A9 BQ) B5,.e Jj A9,.e df BQ] (.a Jj df) B5 [1,1,1] B hz l1 l2
 have I':Cm T {s₁ with heap:=h'} :=by
  rcases d.x.kind a (L a ha)with q|⟨h1,_⟩
  ·exact Ay q nt
  ·exact v.turn (s':= {s₁ with heap:=h'}) O h1 N λb o ne g=>hs.extBut b o ne g
 have up:Up s.heap X h' X:= λb o g C=>⟨hs.extBut b o (λq=>C<|q▸L a ha)<|i b o (λq=>C<|d.x.tab b q) g,C⟩;have a2:Up s₁.heap X h' X:= λb o g C=>⟨hs.extBut b o (λq=>C<|q▸L a ha) g,C⟩;have hX:∀b,Jn X (ad x) b->X b:= λb u=>u.elim id<|L b;obtain⟨S',hu⟩:=a1.JD (s':= {s₁ with heap:=h'}) (F':=ad x) (o':=JW<|ds++es) (f':=f) O (En hx) I' (λb o _ u g=>hs.extBut b o (λq=>u<|q▸ha) g) B (λb u=>Ax u) (λb u=>u)
  ⟨a,vs++ws,eF,by rw[qE]at a0;exact a0,((t.up O up).append<|tb.up O a2).less O hX⟩ (λG hG=>by refine FD (d.f _<|En hx) λ_ _ _ fx=>?_;exact fx G hG)
 exact K _ _ _ _ k hu S'
theorem HV{r:I (I BB×Am)} :Jf ((a,b)::r) x=if a=x then D b else Jf r x:=by
 unfold Jf;rw[zw];by_cases h:a=x
 ·simp[h]
 ·simp[h]
theorem eN(i:x≠k):∀(d:I (I BB×Am)),Jf (d.map λkv=>if kv.1=k then(kv.1,v)else kv) x=Jf d x:=by
 intro d;induction d with
 |nil=>
  exact B
 |cons e r g=>
  obtain⟨a,b⟩:=e;exact by
   rw[B4];by_cases h:a=k
   ·subst h;have: ¬a=x:= λq=>i q.symm;simp only[EU,HV,this,Ho];exact g
   ·simp only[h,Ho,HV];rw[g]
theorem UL:∀(d:I (I BB×Am)),d.any (λkv=>kv.1=k)=J->Jf (d.map λkv=>if kv.1=k then(kv.1,v)else kv) k=D v:=by
 intro d;induction d with
 |nil=>
  exactλh=>by simp at h
 |cons e r g=>
  obtain⟨a,b⟩:=e;exactλh=>by
   rw[B4];by_cases q:a=k
   ·subst q;simp only[EU,HV]
   ·simp only[q,Ho,HV];exact g<|by simpa [q]using h
theorem bZ:∀(d:I (I BB×Am)),d.any (λkv=>kv.1=k)=AB->Jf (d++[(k,v)]) x=if x=k then D v else Jf d x:=by
 intro d;induction d with
 |nil=>
  exactλh=>by
   show Jf [(k,v)] x=_;rw[HV];by_cases q:x=k
   ·simp[q]
   ·have: ¬k=x:= λe=>q e.symm;simp[q,this]
 |cons g r i=>
  obtain⟨a,b⟩:=g;exactλh=>by
   have j:r.any (λkv=>kv.1=k)=false:=by simp at h⊢;exact h.2
   have l: ¬a=k:=by simp at h;exact h.1
   show Jf ((a,b)::(r++[(k,v)])) x=_;rw[HV,HV,i j];by_cases q:a=x
   ·subst q;simp[l]
   ·simp[q]
theorem Wu{k x:I BB} :Jf (stored a k v) x=if x=k then D v else Jf a x:=by
 unfold stored;by_cases h:a.any (λkv=>kv.1=k)=J
 ·rw[Dh h];by_cases q:x=k
  ·subst q;rw[UL a h];simp
  ·rw[eN q];simp[q]
 ·rw[CQ h];exact bZ a<|(Bool.not_eq_true _).mp h
theorem VL.set(u:U kvs<=U ks)(j:U ks=U vs)(i:∀k,Jf kvs k=(ks.zip vs).lookup k)(h:(a==sysModules)=AB)(d:h'.DictOf (ah prog T.w) a (stored kvs k v)):VL T h' a (k::ks) (v::vs):=by
 refine⟨_,d,?_,by simp[j],λx=>?_,h⟩
 ·have:=stored_length_le kvs k v;simp only[Ac];exact DT [_,_,_] [.l A9 BQ,.l B5<|.a A9 DB] B5 (.a BQ DB) [1,1] B u this
 ·rw[Wu,DU,CE,i];by_cases q:x=k
  ·subst q;simp
  ·have:(x==k)=false:=by simpa using q
   rw[this];simp[q]
theorem U7(O:Cr T)(hk:env.scope.kind=BY)(hn:C9 x=J)(hx:pv.lookup x=D (BP f (nD ks ds)))
  (he:Ev T n env pv e d)(a5:Ev T n env pv ke (AJ k))(hz:U ks<=AY)(kR:R Aq (D3 x (BP f (nD (k::ks) (d::ds))) pv))(hs:HC e (D (H9 (Bu x p) ke L)) pos.line env=Ce AB):SX T n env pv (Fg [H9 (Bu x p) ke L] e pos) R:=by
 intro A X Z ad s Q E g K KE;refine wpAny_Assign_Subscript (he A X ad s _ _ g.toAr λv s₁ y a0 C=>?_) hs;have S₁:=g.ext O y a0;refine JB S₁ hx hk hn λw xa=>?_
 (refine Bk w λa vs eF a3 t=>?_;obtain⟨kvs,dd,h1,h2,h3,h4⟩:=a3)
 have hm:HI (ad x)=a:=by rw[eF];rfl
 rw[hm];refine a5 A X ad s₁ _ _ S₁.toAr λkv s₂ h l t₂=>?_;have a2:=S₁.ext O h l
 (refine Dx t₂.inv λtk e_=>?_;subst e_)
 have ha:a∈ad x:=by rw[eF];simp
 refine EJ (id dd) λo es ep j a1 hd hr=>?_;have nt:=S₁.inv.Bn j<|by rw[hd];exact K3 B
 have i:s₂.heap.DictOf (ah prog T.w) a kvs:=⟨o,es,ep,h a o nt j,a1,hd,hr⟩;refine wpAny_setItem_pairs (knd:=ah prog T.w) (k:=k) (Yl _ _ _ _) i (λh' a6 r=>?_)<|by exact AO (by assumption)<|by assumption
 have N:∀o,AA s₂.heap a=D o->KJ o:= λo' a4=>by refine EJ i λo es ep j a1 hd hr=>?_;obtain rfl:=AE<|j.symm.trans a4;exact Ax<|by rw[hd];exact K3 B
 have I':Cm T {s₂ with heap:=h',toks:=s₂.toks+1} :=by
  rcases g.x.kind a (xa a ha)with q|⟨h1,_⟩
  ·exact Ay q nt
  ·exact l.turn (s':= {s₂ with heap:=h',toks:=s₂.toks+1}) O h1 N λb o ne j=>r.extBut b o ne j
 have z:Up s₁.heap X h' X:= λb o j nx=>⟨r.extBut b o (λq=>nx<|q▸xa a ha)<|h b o (λq=>nx<|g.x.tab b q) j,nx⟩;have hX:∀b,Jn X (ad x) b->X b:= λb u=>u.elim id<|xa b;obtain⟨S',hu⟩:=a2.JD (s':= {s₂ with heap:=h',toks:=s₂.toks+1}) (F':=ad x) (o':=nD (k::ks)<|d::ds) (f':=f) O (En hx) I' (λb o _ u j=>r.extBut b o (λq=>u<|q▸ha) j) B (λb u=>Ax u) (λb u=>u)
  ⟨a,v::vs,eF,.set h1 h2 h3 h4 a6,(Cw (C.up O z)<|t.up O z).less O hX⟩ (λG hG=>by refine FD (g.f _<|En hx) λ_ _ _ fx=>?_;exact fx G hG)
 exact K Aq HK _ _ _ _ kR hu Mg S'
section
set_option backward.match.sparseCases true
set_option tactic.hygienic true
theorem kA{h:Dw}(a:o.isFreed=AB):(h.push o).get? (AK h.objs)=D o:=A1 _ a
theorem nv(d:Cm T s)(x:Hs T X s.heap):Up s.heap X (s.heap.push o) (Jn X [AK s.heap.objs]):= λa h e g=>
 ⟨AX _ e,λq=>q.elim g λq=>by rw[Cx q]at e;exact Ay (BS e)<|B7 _⟩
theorem F4(h:Dw):AA h (AK h.objs)=none:=by
 cases e:AA h (AK h.objs)with
 |none=>rfl
 |some o=>exact Ay (BS e)<|B7 _
theorem eP(O:Cr T)(a:Cm T s)(x:Hs T X s.heap)(t:A8 T s.heap X ds vs)(hz:U ds<=AY)
  (k:∀F s',C1 T s.heap s'.heap->Cm T s'->(∀b∈F,AA s.heap b=AQ)->Ei T (Jn X F) s'.heap F (JW ds)->Q (AH (HI F)) s'):Ao (M T) A (uF vs) Q E s:=by
 have d:∀b o,AA s.heap b=D o->(s.heap.push {cls:=Ae "list",data:=Gz (AU vs)}).get? b=D o:= λb o e=>AX _ e;refine ET (k [AK s.heap.objs] _ (C1.of_keeps d) (a.keeps O d) (λb g=>by rw[Cx g];exact F4 _) ⟨_,vs,B,⟨_,0,A1 _ B,B,B,B⟩,t.up O<|nv a x⟩)<|by show AK vs.toArray<=AY;rw[Ab,t.length];exact hz
theorem Sk(O:Cr T)(h:GH T n env pv es ds)(hz:U ds<=AY):ur T n env pv (VI es pos) (JW ds):=by
 intro A X ad s Q E R k;refine List_<|(JR O h A X ad s _ E R λvs r a d i=>?_).2;have R₁:=R.ext O a d;refine eP O d R₁.x i hz λF j g l v w=>k F j (a.trans g) l (λb u=>?_) w;have:=v b u;cases e:AA s.heap b with
 |none=>rfl
 |some o=>
  by_cases q:T.Tab b
  ·refine Ap (d.tab b q) λvs y _=>?_;exact EN<|this.symm.trans y
  ·exact Tt<|(a b o q e).symm.trans this
theorem eQ(O:Cr T):ur T n env pv (.Dict [] [] pos) (nD [] []):=by
 intro A X ad s Q E R k;refine wpAny_Dict_empty ?_;have a:∀b o,AA s.heap b=D o->(s.heap.push {cls:=Ae "dict",data:=Gr #[] }).get? b=D o:= λb o e=>AX _ e;refine k [AK s.heap.objs] _ (C1.of_keeps a) (R.inv.keeps O a) (λb g=>by rw[Cx g];exact F4 _) ⟨_,[],B,⟨[],?_,BO _,B,λ_=>B,?_⟩,E4⟩
 ·exact⟨_,#[],0,A1 _ B,⟨B,B,B⟩,B,λ_ d=>by simp at d,.nil,PE⟩
 ·exact ACe.mpr<|AFv<|modules_low<|R.inv.lim O
theorem Wv{vs ws:I Am}(G:s.heap.IsList l (AU vs))(L:s.heap.IsList b (AU ws))
  (h:Q (AH (AK s.heap.objs)) {s with heap:=s.heap.push {cls:=Ae "list",data:=Gz (vs++ws).toArray} })(hsz:U vs+U ws<=AY):
  Ao (M T) A (AIa iY (AH l) (AH b)) Q E s:=by
 (refine LO (id G) λa u x n v=>?_;obtain⟨cls,N,data,z⟩:=a)
 (refine LO (id L) λa d i C g=>?_;obtain⟨y,q,r,j⟩:=a)
 simp only at x v i g;subst x v i g;have e:AU vs++AU ws=(vs++ws).toArray:=by simp
 refine concat_meets ⟨_,u,B⟩ ⟨_,d,B⟩ noFill_list_add seq_list_add PySem.F.slot_list_add PySem.F.entry_list_add (PySem.F.args_list_add_2 _ _) (list_addW l b (AU vs) (AU ws) n C N q z j<|by simpa using hsz) ⟨u,d,?_⟩;rw[e];exact h
theorem AAp(O:Cr T)(hl:Ev T n env pv l (AL as))(hr:Ev T n env pv r (AL bs))(hz:U as+U bs<=AY):ur T n env pv (.BinOp l iY r pos) (JW (as++bs)):=by
 intro A X ad s Q E R k;refine wpAny_BinOp<|hl A X ad s _ E R λu j d h i=>hr A X ad j _ E (R.ext O d h) λv s₂ a g t₂=>?_;have y:=R.ext O d h;have R₂:=y.ext O a g;have t₁':=i.up O<|a.up R.x.tab
 (refine BU t₁'.inv λ_ N e_ ha _ ta=>?_;subst e_)
 (refine BU t₂.inv λ_ L C z _ tb=>?_;subst C)
 ·have e1:=ta.length;have e2:=tb.length;refine Wv ha z ?_<|by omega
  have G:∀b o,AA s₂.heap b=D o->(s₂.heap.push {cls:=Ae "list",data:=Gz (N++L:I Am).toArray}).get? b=D o:= λb o e=>AX _ e;refine k [AK s₂.heap.objs] _ ((d.trans a).trans<|C1.of_keeps G) (g.keeps O G) (λb z=>?_) ⟨_,_,B,⟨_,0,A1 _ B,B,B,B⟩,(ta.append tb).up O<|nv g R₂.x⟩;rw[Cx z];cases e:AA s.heap (AK s₂.heap.objs)with
  |none=>rfl
  |some o=>
   have ns:=F4 s₂.heap;by_cases q:T.Tab (AK s₂.heap.objs)
   ·refine Ap (g.tab _ q) λvs e' _=>?_;exact EN<|ns.symm.trans e'
   ·exact Tt<|((d.trans a) _ o q e).symm.trans ns
theorem JZ(O:Cr T)(hz:U as+U bs<=AY):SU T n iY (AL as) (AL bs) (AL (as++bs)):=by
 intro A X s u v Q E a d x t1 t2 K
 (refine BU t1.inv λ_ r G C _ ta=>?_;subst G)
 (refine BU t2.inv λ_ l i z _ tb=>?_;subst i)
 ·have e1:=ta.length;have e2:=tb.length;refine Wv C z ?_<|by omega
  have g:∀b o,AA s.heap b=D o->(s.heap.push {cls:=Ae "list",data:=Gz (r++l:I Am).toArray}).get? b=D o:= λb o e=>AX _ e;refine K _ _ (C1.of_keeps g) (d.keeps O g)<|dD ⟨_,A1 _ B,B,0,B⟩ (λq=>?_)<|(ta.append tb).up O<|(C1.of_keeps g).up x.tab;rcases x.kind _ q with h|⟨_,o,y,_⟩
  ·refine Ap (d.tab _ h) λj e _=>?_;exact Ay (BS e)<|B7 _
  ·exact Ay (BS y)<|B7 _
theorem OM{s s':Bq}(E:C1 T s.heap s'.heap)(d:Cm T s')(h:AA s'.heap b=AQ):AA s.heap b=none:=by
 cases e:AA s.heap b with
 |none=>rfl
 |some o=>
  by_cases q:T.Tab b
  ·refine Ap (d.tab b q) λvs a _=>?_;exact EN<|h.symm.trans a
  ·exact Tt<|(E b o q e).symm.trans h
theorem AAq(O:Cr T):ur T n env pv (VI [VI [] p] q) (LI [[]]):=by
 intro A X ad s Q E R k;have y:ur T n env pv (VI [] p) (JW []):=Sk O .nil<|D1 _;refine List_ ?_;show Ao _ A (do let v<-(if AB=J then do let v<-IC (VI [] p) env;AE3 q;Ce v else IC (VI [] p) env);let h<-Ce [v];return h++(<-RU h (PS<|Gc q<|C5 [] env))) _ E s;rw[CQ CD];refine AD<|y A X ad s _ E R λF s₁ d g x w=>AD<|AP<|AD<|BV<|AP<|AP ?_
 (refine Bk w λa vs j l t=>?_;subst j)
 obtain rfl:=t.inv;show Ao _ _ (uF [AH a]) Q E s₁;have i:∀b o,AA s₁.heap b=D o->(s₁.heap.push {cls:=Ae "list",data:=Gz [AH a].toArray}).get? b=D o:= λb o e=>AX _ e;have u:a≠AK s₁.heap.objs:=by refine I9 l λo m r _=>?_;exact I7<|BS r
 refine ET (k [AK s₁.heap.objs,a] _ (d.trans<|C1.of_keeps i) (g.keeps O i) (λb hb=>?_) ⟨_,[a],B,by simp[Gk u],⟨_,0,A1 _ B,B,B,B⟩,QW (CB [] (PM l λo e=>i _ _ e)<|E4) QV⟩)<|by show([AH a].toArray).size<=AY;rw[Ak];simp
 rcases DO hb with rfl|hb
 ·exact OM d g<|F4 _
 ·exact x b hb
def eR(T:Th)(X:Az->Prop)(h:Dw)(F:I Az)(v:Am):PV->Prop
 |.d t=>F=[] /\Tr T h X t v
 |.own f o=>f=AQ/\v=AH (HI F)/\Ei T X h F o
 |.no=>Yd
def EvS(T:Th)(n:Aj)(env:Pc)(pv:BD)(e:A2)(p:PV):Prop:=
 ∀A X ad s Q E,Ar T n A X env pv ad s->
  (∀F v s',C1 T s.heap s'.heap->Cm T s'->(∀b∈F,AA s.heap b=AQ)->eR T (Jn X F) s'.heap F v p->Q v s')->Ao (M T) A (IC e env) Q E s
theorem AGJ(O:Cr T)(h:Ev T n env pv e d):EvS T n env pv e (mw d):= λA X ad s Q E R k=>h A X ad s Q E R λv s' x i t=>k [] v s' x i IL ⟨B,t.less O λa h=>h.elim id nofun⟩
theorem AGK(h:ur T n env pv e o):EvS T n env pv e (BP AQ o):= λA X ad s Q E R k=>h A X ad s Q E R λF s' x i a w=>k F _ s' x i a ⟨B,B,w⟩
theorem eR.up(O:Cr T)(i:Up h X h' X')(k:∀b∈F,∀o,AA h b=D o->AA h' b=D o):∀ {p:PV},eR T X h F v p->eR T X' h' F v p
 |.d _,⟨e,t⟩=>⟨e,t.up O i⟩
 |.own _ _,⟨e,j,w⟩=>⟨e,j,w.up O i k⟩
theorem eR.soft:∀ {p:PV},eR T X h F v p->∀b∈F,∃ob,AA h b=D ob/\ ∀vs,ob.data≠BF vs
 |.d _,⟨e,_⟩,b,i=>by rw[e]at i;cases i
 |.own _ _,⟨_,_,w⟩,b,i=>w.fields b i
theorem Zn(O:Cr T){ad:Bt->I Az}(g:Sx T n A X env pv Z ad s)(w:eR T X s.heap F v p)
  (hX:∀b∈F,X b)(u:∀b∈F,Z b=AQ/\b≠env.locals/\ ∀y c,env.kindOf y=D BX->env.cells.lookup y=D c->b≠c)(hA:∀b∈F,∀ {f} y o,y≠x->(y,BP f o)∈pv->b∉ad y)
  (N:env.scope.kind=BY)(C:Oy env pv x)
  (k:∀s',Up s.heap X s'.heap X->(∀a,a≠env.locals->(∀y c,env.kindOf y=D BX->env.cells.lookup y=D c->a≠c)->AA s'.heap a=AA s.heap a)->Sx T n A X env (D3 x p pv) Z (λy=>if y=x then F else ad y) s'->Q () s'):Ao (M T) A (Ic env x v) Q E s:=by
 refine SY (pv:=p) (Ez:= λy=>if y=x then F else ad y) O g (λh' z j r=>?_) (λ {f} o' e b i=>?_) (λy q=>CQ q) N C k
 ·cases p with
  |no=>exact w.elim
  |d t=>exact⟨v,r,w.2.up O z⟩
  |own f o=>
   obtain⟨rfl,rfl,w⟩:=w;refine⟨by simp only[EU];exact r,by simp only[EU];exact hX,?_,(λ_ h=>EN h)⟩;simp only[EU];refine w.up O z λb i ob G=>?_;rw[j b (u b i).2.1 (u b i).2.2];exact G
 ·simp only[EU]at i;exact⟨u b i,λ {f'} y l q L=>hA b i y l q L⟩
theorem Sx.V7{ad:Bt->I Az}(i:Sx T n A X env pv Z ad s)(h:AA s.heap b=AQ):Z b=AQ/\b≠env.locals/\ ∀y c,env.kindOf y=D BX->env.cells.lookup y=D c->b≠c:=by
 refine EX i.wr.ns λmL oL a0 a1 u G C=>?_;refine⟨MN i.inv i.wr h,(λq=>by rw[q,u]at h;exact Tt h),λy c Q N q=>?_⟩
 (refine F3 (i.wr.cell y c Q N) λj _=>?_;obtain⟨v,oc,L,_⟩:=j)
 rw[q,L]at h;exact Tt h
theorem ux(O:Cr T)(hk:env.scope.kind=BY)(hs:UJ env pv [tx,ty])(b7:tx≠ty)
  (h1:EvS T n env pv e1 p1)(h2:EvS T n env pv e2 p2)(hp:D6 [e1,e2] =J)
  (hw:KG [KU ts k tp] (KU [e1,e2] k' ep) env=Ce (D [tx,ty]))(kR:R Aq (D3 tx p1 (D3 ty p2 pv))):SX T n env pv (Fg [KU ts k tp] (KU [e1,e2] k' ep) pos) R:=by
 intro A X Z ad s Q E d K KE;refine zv ?_ OL hw;have hp:=Kw hp;refine Tuple_ ?_;rw[Fw hp.1,Fw (Kw hp.2).1];show Ao _ A (do let v<-IC e1 env;let h<-Ce [v];return h++(<-RU h (do let v<-IC e2 env;let h<-Ce [v];return h++(<-RU h (PS<|Gc ep<|C5 [] env))))) _ E s;refine AD<|h1 A X ad s _ E d.toAr λF1 v1 a2 C G f1 w1=>AD<|AP<|AD<|BV ?_;refine F3 (d.grow O C G f1 λb g=>(by obtain⟨ob,N,g2⟩:=w1.soft b g;exact(CB ob N<|Ax g2))) λS₁ a1=>?_;refine AD<|h2 A _ ad a2 _ E S₁.toAr λF2 v2 s₂ l u f2 w2=>AD<|AP<|AD<|BV<|AP<|AP<|AP ?_;refine F3 (S₁.grow O l u f2 λb g=>(by obtain⟨ob,N,g2⟩:=w2.soft b g;exact(CB ob N<|Ax g2))) λL a0=>?_;have b2:∀b∈F1,¬T.Tab b:= λb g=>(Du d.inv<|f1 b g).2;have b6:∀b∈F2,¬T.Tab b:= λb g=>(Du S₁.inv<|f2 b g).2;have b1:eR T (Jn (Jn X F1) F2) s₂.heap F1 v1 p1:=w1.up O (λa o e nx=>⟨l a o (λq=>nx<|S₁.x.tab a q) e,λq=>q.elim nx λq=>by exact EN<|(f2 a q).symm.trans e⟩) λb g o e=>l b o (b2 b g) e;show Ao _ _ (AIb [v1,v2]) _ E s₂;have z:∀b o,AA s₂.heap b=D o->(s₂.heap.push {cls:=Ae "tuple",data:=Gz [v1,v2].toArray}).get? b=D o:= λb o e=>AX _ e;refine ET ?_<|by show([v1,v2].toArray).size<=AY;rw[Ak];simp
 have b5:=L.ext (s':= {s₂ with heap:=s₂.heap.push {cls:=Ae "tuple",data:=Gz [v1,v2].toArray} }) O (C1.of_keeps z)<|u.keeps O z;show Ao _ _ (T5 _ [v1,v2].toArray.size AQ) _ E _;refine AE9 d.a.handled (uE _ _) λh' he=>?_;have i:∀b o,AA s₂.heap b=D o->AA h' b=D o:= λb o e=>he b o (λq=>by have e':=z b o e;rw[q]at e';exact Ay (BS e')<|B7 _)<|z b o e
 have I4:=u.keeps (s':= {s₂ with heap:=h'}) O i;have a8:=L.ext (s':= {s₂ with heap:=h'}) O (C1.of_keeps i) I4;have b0:=b1.up O (λa o e nx=>⟨i a o e,nx⟩) λb _ o e=>i b o e;have a9:=w2.up O (λa o e nx=>⟨i a o e,nx⟩) λb _ o e=>i b o e;have r:∀b,AA s.heap b=AQ->∀ {f} y o,(y,BP f o)∈pv->b∉ad y:= λb g {f} y o hm j=>by refine FD (d.f _ hm) λ_ _ w _=>?_;refine Ap (w.fields b j) λob N _=>?_;exact EN<|g.symm.trans N
 have a4:∀b∈F2,AA s.heap b=none:= λb g=>OM C G<|f2 b g;refine AD<|BV<|AFu<|Zn O a8 a9 (λb g=>BC g) (λb g=>d.V7<|a4 b g) (λb g {f} y o _ hm=>r b (a4 b g) y o hm) hk (hs ty<|by simp) λb4 up a3 a6=>?_;refine AD<|BV<|AFu<|Zn O a6 (b0.up O up λb g o e=>(a3 b (d.V7<|f1 b g).2.1 (d.V7<|f1 b g).2.2).trans e) (λb g=>Ax<|BC g) (λb g=>d.V7<|f1 b g) (λb g {f} y o hy hm j=>?_) hk (hs tx<|by simp).set λb3 _ _ a5=>?_
 ·by_cases q:y=ty
  ·rw[Dh q]at j;refine Ap (w1.soft b g) λob N _=>?_;exact EN<|(f2 b j).symm.trans N
  ·rw[CQ q]at j;rcases Nd d.wr.nd _ hm with e|⟨e,_⟩
   ·cases e;exact q B
   ·exact r b (f1 b g) y o e j
 ·exact AP<|K Aq HK _ _ _ _ kR (a1.trans a0) Mg a5
end
inductive Ww(T:Th)(n:Aj)(env:Pc)(pv:BD):AW A2->AW Aa->Prop
 |none:Ww T n env pv AQ AQ
 |some {e:A2} {i:Aa} :Ev T n env pv e (AM i)->Ww T n env pv (D e) (D i)
def Fm(T:Th)(n:Aj)(a:DV)(l h:AW Aa)(d:DV):Prop:=
 ∀A X s u e g i Q E,Le n A->Cm T s->Hs T X s.heap->Tr T s.heap X a u->s.heap.IsSliceOf i e g AN->IsPart e l->IsPart g h->
  (∀r s',C1 T s.heap s'.heap->Cm T s'->Tr T s'.heap X d r->Q r s')->SubscriptOn (M T) A u (AH i) Q E s
theorem Ww.run(O:Cr T)(h:Ww T n env pv e l){ad:Bt->I Az}(R:Ar T n A X env pv ad s)
  (k:∀v s',C1 T s.heap s'.heap->Cm T s'->IsPart v l->Q v s'):Ao (M T) A (evalPart e env) Q E s:=by
 cases h with
 |none=>exact AP<|k _ s (C1.refl _) R.inv .none
 |some u=>
  refine u A X ad s _ E R λv s' x i t=>?_
  (refine Dx t.inv λtk j=>?_;subst j)
  ·exact k _ s' x i<|.int _ _
theorem uy(O:Cr T){lo hi:AW A2}(hv:Ev T n env pv v a)(hl:Ww T n env pv lo l)(hh:Ww T n env pv hi h)(hs:Fm T n a l h d):Ev T n env pv (H9 v (AHt lo hi AQ p) pos) d:=by
 intro A X ad s Q E R k;rw[jI];refine AD<|hv A X ad s _ E R λu b2 j q a1=>AD<|BV<|wpAny_Slice ?_;have g:=R.ext O j q;refine hl.run O g λL b1 i a8 a4=>hh.run O (g.ext O i a8) λN s₃ G a6 a3=>?_;refine CW (a:=AN) B ?_;have hk:∀b o,AA s₃.heap b=D o->(s₃.heap.push {cls:=Ae "slice",data:=BF #[L,N,AN] }).get? b=D o:= λb o e=>AX _ e;have y:=(i.trans G).trans<|C1.of_keeps (T:=T) hk;have i4:Cm T {s₃ with heap:=s₃.heap.push {cls:=Ae "slice",data:=BF #[L,N,AN] } } :=a6.keeps O hk;refine AD<|Dq ?_;refine Bk (hs A X {s₃ with heap:=s₃.heap.push {cls:=Ae "slice",data:=BF #[L,N,AN] } } u L N (AK s₃.heap.objs) Q E R.a i4 (g.x.ext q y) (a1.up O<|y.up R.x.tab) (AFC _ _ _ _) a4 a3 λr a2 C a5 a0=>k r a2 ((j.trans y).trans C) a5 a0) λTy id b0 hT hg=>?_;refine AD ?_;rw[SH hT.not_modules];refine AD<|R7 hT b0 ?_;have z:∀b,Ao (M T) A (dF (AHt lo hi AQ p) b u<|AH<|AK s₃.heap.objs) (λr s₃=>Ao (M T) A (jJ v u r>>= λ_=>Ce r) Q E s₃) E {s₃ with heap:=s₃.heap.push {cls:=Ae "slice",data:=BF #[L,N,AN] } } := λb=>by skip;exact dT<|DF hg (λr s₃ a9=>AD<|T6<|AP a9) λ_ _ x=>x
 first
  |exact AP<|AD<|z _
  |exact AD<|AP<|AD<|z _
  |exact AD<|z _
inductive ON(T:Th)(n:Aj)(env:Pc)(pv:BD)(and:Ba):I A2->Ba->Prop
 |one {e:A2} {b:Ba} :Ev T n env pv e (BZ b)->ON T n env pv and [e] b
 |stop {e e':A2} {es:I A2} :Ev T n env pv e (BZ (!and))->ON T n env pv and (e::e'::es) (!and)
 |on {e e':A2} {es:I A2} {b:Ba} :Ev T n env pv e (BZ and)->ON T n env pv and (e'::es) b->ON T n env pv and (e::e'::es) b
noncomputable def qd:Ba->BoolOp
 |true=>.And
 |false=>.Or
theorem qe(O:Cr T){and:Ba}{ad:Bt->I Az}(r:ON T n env pv and es b):∀s Q,Ar T n A X env pv ad s->
  (∀s',C1 T s.heap s'.heap->Cm T s'->Q (FH b) s')->Ao (M T) A (boolOp pos (qd and) (evalEach es env)) Q E s:=by
 induction r with
 |one h=>exactλs Q R k=>h A X ad s Q E R λv s' x i t=>by obtain rfl:=t.inv;exact k s' x i
 |stop h=>
  intro s Q R k;refine AD<|h A X ad s _ E R λv s' x i t=>?_;obtain rfl:=t.inv;refine AD<|Dq<|AD<|BV<|LL ?_;cases and<;>exact AP<|k s' x i
 |on h r e=>
  intro s Q R k;refine AD<|h A X ad s _ E R λv s' x i t=>?_;obtain rfl:=t.inv;refine AD<|Dq<|AD<|BV<|LL ?_;have j:=e s' Q (R.ext O x i) λa d g=>k a (x.trans d) g;cases and<;>exact j
theorem eS(O:Cr T){and:Ba}(h:ON T n env pv and es b):Ev T n env pv (.BoolOp (qd and) es pos) (BZ b):=by intro A X ad s Q E R k;skip;exact qe O h s Q R λs' x i=>k _ s' x i<|zK b
theorem ADr(O:Cr T)(h:Ev T n env pv x d)(t:FP T n d b):Ev T n env pv (AHq .Not x pos) (BZ (!b)):=by intro A X ad s Q E R k;refine AHu<|h A X ad s _ E R λv q e g j=>?_;have R₁:=R.ext O e g;unfold unaryOp;refine BV ?_;skip;exact AD<|t A X q v _ E R.a g R₁.x j λl i r=>AP<|k _ l (e.trans i) r<|zK _
theorem kB(O:Cr T)(h:bN T n env pv c J)(k:R Aq pv):SX T n env pv (.Assert c AQ pos) R:=by intro A X Z ad s Q E a K i;exact wpAny_Assert_holds<|h A X ad s _ E a.toAr λe d g=>⟨B,K Aq HK _ X ad e k .refl Mg<|a.ext O d g⟩
section
set_option tactic.hygienic true
inductive Ja where
 |b (c:Ba)
 |t (d:DV)
 |v (fl:Fl) (pv:BD)
 |m (c:Am) (d:DV)
 |fz (x:Bt)
 |fc (x:Bt)
 |bw
abbrev LR(a:Type):=AW<|a×I Prop×I Ja
def ER:I Prop->Prop
 |[] =>True
 |p::r=>p/\ER r
theorem ER.app:∀ {a b:I Prop},ER (a++b)->ER a/\ER b
 |[],_,h=>⟨AI,h⟩
 |_::_,_,h=>⟨⟨h.1,(ER.app h.2).1⟩,(ER.app h.2).2⟩
noncomputable def Cs(x:LR d)(f:d->I Ja->LR β):LR β:=match x with
 |some (a,cs,as)=>(match f a as with
  |some (b,cs',as')=>D (b,cs++cs',as')
  |none=>AQ)
 |none=>AQ
def Ok(x:LR d)(P:d->Prop):Prop:= ∀a cs as,x=D (a,cs,as)->ER cs->P a
theorem Ok.no:Ok AQ P:= λ_ _ _ h=>nomatch h
theorem Ok.one(h:ER cs->P a):Ok (D (a,cs,as)) P:= λ_ _ _ e i=>by cases e;exact h i
theorem Ok.pure(h:P a):Ok (D (a,[],as)) P:=.one λ_=>h
theorem Ok.zE(h:∀a cs as,x=D (a,cs,as)->ER cs->Ok (f a as) P):Ok (Cs x f) P:=by
 cases x with
 |none=>exact Ok.no
 |some q=>
  have k:=h q.1 q.2.1 q.2.2 B;show Ok (match f q.1 q.2.2 with|some (b,cs',as')=>D (b,q.2.1++cs',as')|none=>AQ) P;cases e:f q.1 q.2.2 with
  |none=>exact Ok.no
  |some r=>exact .one λhc=>k hc.app.1 r.1 r.2.1 r.2.2 e hc.app.2
theorem Ok.bind(i:Ok x Q)(h:∀a as,Q a->Ok (f a as) P):Ok (Cs x f) P:=
 Ok.zE λa cs as e j=>h a as<|i a cs as e j
theorem Ok.cond(h:b=J->Ok x P):Ok (bif b then x else AQ) P:=by
 cases b with
 |true=>exact h B
 |false=>exact Ok.no
theorem Ok.gd(h:b=J->P a):Ok (gd b (a,[],as)) P:=by
 cases b with
 |true=>exact .pure<|h B
 |false=>exact Ok.no
noncomputable def hdT:I Ja->AW (DV×I Ja)
 |.t d::as=>D (d,as)
 |_=>AQ
noncomputable def hdB:I Ja->AW (Ba×I Ja)
 |.b d::as=>D (d,as)
 |_=>AQ
noncomputable def hdM:I Ja->AW ((Am×DV)×I Ja)
 |.m c d::as=>D ((c,d),as)
 |_=>AQ
theorem GY(h:∀a,o=D a->Ok (f a) P):Ok (o.bind f) P:=by
 cases o with
 |none=>exact .no
 |some a=>exact h a B
noncomputable def L3(as:I Ja)(P:DV->I Prop):LR DV:=(hdT as).bind λq=>D (q.1,P q.1,q.2)
noncomputable def iR(as:I Ja)(P:Ba->I Prop):LR Bool:=(hdB as).bind λq=>D (q.1,P q.1,q.2)
theorem Ok.opt(h:∀a,o=D a->Ok (f a) P)(k:o=AQ->Ok d P):Ok (o.elim d f) P:=by
 cases o with
 |none=>exact k B
 |some a=>exact h a B
theorem Ok.ite(h:b=J->Ok x P)(k:b=AB->Ok y P):Ok (bif b then x else y) P:=by
 cases b with
 |true=>exact h B
 |false=>exact k B
theorem Ok.ADM(h:b=AB->Ok x P):Ok (bif b then AQ else x) P:=by
 cases b with
 |true=>exact Ok.no
 |false=>exact h B
theorem Ok.L3(h:∀d,ER (P d)->Q d):Ok (L3 as P) Q:=GY λq _=>.one<|h q.1
theorem Ok.iR(h:∀d,ER (P d)->Q d):Ok (iR as P) Q:=GY λq _=>.one<|h q.1
noncomputable def ZU(as:I Ja)(f:Ba->I Ja->LR α):LR α:=(hdB as).bind λq=>f q.1 q.2
theorem Ok.ZU(h:∀c as,Ok (f c as) Q):Ok (ZU as f) Q:=GY λq _=>h q.1 q.2
noncomputable def AGL:Const->AW Aa
 |.int i=>D i
 |_=>AQ
noncomputable def AAr(e:A2):AW Int:=if h:e.ctorIdx=19 then DK (motive_1:= λ_=>AW Aa) e h λc _ _=>AGL c else AQ
noncomputable def O2(l:AW Aa)(c:Aa->Ba)(v:Aa):AW (I Prop):=l.elim (D [c v=J]) λi=>bif c i then D []else AQ
noncomputable def uz(j:Aa):Bool:= !Bx (j=0)&&Nj j
noncomputable def ADs(j:Aa):Bool:= !Bx (j=0)
noncomputable def VO(j:Aa):Bool:=Bx (0<=j)&&Bx (j<=1000000)
noncomputable def KL(j:Aa):Bool:=Bx<|0<=j
noncomputable def HX(a b:AW (I Prop)):AW (I Prop):=match a,b with|some x,D y=>D (x++y)|_,_=>AQ
noncomputable def gI(g:AW (I Prop))(r:Aa)(as:I Ja):LR DV:=match g with|some c=>D (AM r,c,as)|none=>AQ
noncomputable def AGM(d a:AW Aa)(e:jB)(i j:Aa)(as:I Ja):LR DV:=match e with
 |.Add=>D (AM<|i+j,[],as)
 |.Sub=>D (AM<|i-j,[],as)
 |.BitAnd=>D (AM<|Ag i j,[],as)
 |.BitOr=>D (AM<|BG i j,[],as)
 |.BitXor=>D (AM<|B1 i j,[],as)
 |.Mult=>gI (O2 d Nj i) (i*j) as
 |.Mod=>gI (O2 a ADs j) (i.fmod j) as
 |.FloorDiv=>gI (O2 a uz j) (i.fdiv j) as
 |.RShift=>gI (O2 a KL j) (i.fdiv<|2^Bp j) as
 |.LShift=>gI (HX (O2 d Nj i)<|O2 a VO j) (i*2^Bp j) as
 |.Pow=>gI (HX (O2 d Nj i)<|O2 a VO j) (i^Bp j) as
 |_=>AQ
noncomputable def vA:jB->Ba
 |.Add=>J
 |_=>AB
noncomputable def ADt(T:Th)(k:Aj)(e:jB)(a b:DV)(as:I Ja):LR DV:=
 (dn a).elim (L3 as λd=>[SU T k e a b d]) λx=>(dn b).elim (L3 as λd=>[SU T k e a b d]) λy=>bif vA e then D (AJ<|x++y,[U x+U y<=16777216],as)else AQ
noncomputable def AGN(T:Th)(k:Aj)(g e:AW Aa)(d:jB)(a b:DV)(as:I Ja):LR DV:=
 (Ld a).elim (ADt T k d a b as) λi=>(Ld b).elim (ADt T k d a b as) λj=>AGM g e d i j as
noncomputable def flat:DV->Ba
 |.none=>J
 |.bool _=>J
 |.int _=>J
 |.str _=>J
 |.bytes _=>J
 |_=>AB
noncomputable def AGO:CmpOp->Ba
 |.Is=>J
 |.IsNot=>J
 |_=>AB
noncomputable def ADu(T:Th)(k:Aj)(d:CmpOp)(a b:DV)(as:I Ja):LR Bool:=bif AGO d||flat a&&flat b then(ADp d a b).elim (bif AGO d then AQ else iR as λc=>[Cg T k d a b c]) λr=>D (r,[],as)
 else iR as λc=>[Cg T k d a b c]
noncomputable def UM(T:Th)(k:Aj)(d:DV)(as:I Ja):LR Bool:=match d with
 |.none=>D (AB,[],as)
 |.bool b=>D (b,[],as)
 |.int i=>D (!Bx (i=0),[],as)
 |_=>iR as λc=>[FP T k d c]
def CC(T:Th)(n:Aj)(a i d:DV):Prop:=
 ∀A X s u v Q E,Le n A->Cm T s->Hs T X s.heap->Tr T s.heap X a u->Tr T s.heap X i v->
  (∀r s',C1 T s.heap s'.heap->Cm T s'->Tr T s'.heap X d r->Q r s')->SubscriptOn (M T) A u v Q E s
def Ey(T:Th)(n:Aj)(a:DV)(x:Bt)(d:DV):Prop:=
 ∀A X s u Q E,Le n A->Cm T s->Hs T X s.heap->Tr T s.heap X a u->
  (∀r s',C1 T s.heap s'.heap->Cm T s'->Tr T s'.heap X d r->Q r s')->Ao (M T) A (getAttr u x J) Q E s
def Ms(T:Th)(k:Aj)(G:GV)(pv:BD)(e:A2)(d:DV):Prop:= ∀env,DG T env G->Ev T k env pv e d
noncomputable def Rl(f:A2->I Ja->LR DV):I A2->I Ja->LR (I DV)
 |[],as=>D ([],[],as)
 |e::r,as=>bif ju e then Cs (f e as) λd as=>Cs (Rl f r as) λds as=>D (d::ds,[],as)else AQ
noncomputable def ADv(f:A2->I Ja->LR Ba)(and:Ba)(e:A2):I A2->I Ja->LR Ba
 |[],as=>f e as
 |e'::r,as=>Cs (f e as) λb as=>ZU as λc as=>(match c==and with
   |true=>Cs (ADv f and e' r as) λd as=>D (d,[b=c],as)
   |false=>D (c,[b=c],as))
noncomputable def vB(f:A2->I Ja->LR Ba)(and:Ba):I A2->I Ja->LR Ba
 |[],as=>D (and,[],as)
 |e::r,as=>ADv f and e r as
noncomputable def ADw(d:DV)(f:Ba->LR Ba):LR Bool:=(ua d).bind f
noncomputable def vC(f:A2->I Ja->LR DV)(and:Ba)(e:A2):I A2->I Ja->LR Ba
 |[],as=>Cs (f e as) λd as=>ADw d λb=>D (b,[],as)
 |e'::r,as=>Cs (f e as) λd as=>ADw d λb=>ZU as λc as=>(match c==and with
    |true=>Cs (vC f and e' r as) λd as=>D (d,[b=and],as)
    |false=>D (!and,[b= !and],as))
noncomputable def vD(f:A2->I Ja->LR DV)(and:Ba):I A2->I Ja->LR Ba
 |[],_=>AQ
 |e::r,as=>vC f and e r as
noncomputable def ADx(f:A2->I Ja->LR DV):AW A2->I Ja->LR (AW Aa)
 |none,as=>D (AQ,[],as)
 |some e,as=>Cs (f e as) λd as=>(Ld d).bind λi=>D (D i,[],as)
noncomputable def Vo:AW a->Ba
 |none=>AB
 |some _=>J
noncomputable def UN(e:A2):AW (AW A2×AW A2×AW A2):=if h:e.ctorIdx=26 then Tp (motive_1:= λ_=>AW<|AW A2×AW A2×AW A2) e h λa b c _=>D (a,b,c)else AQ
theorem qf(h:UN e=D q):∃p,e=AHt q.1 q.2.1 q.2.2 p:=
 let⟨t,h⟩:=Em h
 Tp (motive_1:= λe=> ∀t,Tp (motive_1:= λ_=>AW<|AW A2×AW A2×AW A2) e t (λa b c _=>D (a,b,c))=D q->∃p,e=AHt q.1 q.2.1 q.2.2 p) e t (λa b c p t h=>AE h▸⟨p,B⟩) t h
noncomputable def AGP(T:Th)(k:Aj)(x:Bt)(a:DV)(ds:I DV)(as:I Ja):LR DV:=(hdM as).bind λq=>D (q.1.2,[H7 T k a x q.1.1,Bf T<|Ah q.1.1,CP T k (Ah q.1.1) (a::ds) q.1.2],q.2)
noncomputable def ACs(T:Th)(k:Aj)(G:GV)(pv:BD)(v:A2->I Ja->LR DV)(e f:A2)(args:I A2)(p:LH)(as:I Ja):LR DV:=match f with
 |.Attribute o x ap=>bif Ni o&&(D6 args&&(EV (U args) 20&&(ap.endLine==p.line)))then Cs (v o as) λa as=>Cs (Rl v args as) λds as=>AGP T k x a ds as else AQ
 |.Name f _=>(O0 G pv f).bind λc=>Cs (Rl v args as) λds as=>L3 as λd=>[CP T k c ds d,Bf T c]
 |_=>L3 as λd=>[Ms T k G pv e d]
noncomputable def AIx(d:DV)(as:I Ja):LR DV:=(Ld d).bind λi=>D (AM<|-i,[],as)
noncomputable def bb(l:I α):AW α:=l.head?.bind λa=>bif l.tail.isEmpty then D a else AQ
theorem M0(h:bb l=D a):l=[a] :=by
 cases l with
 |nil=>cases h
 |cons x r=>
  cases r with
  |nil=>exact AE h▸B
  |cons=>cases h
mutual
noncomputable def vE (T:Th) (k:Aj):Aj->GV->BD->A2->I Ja->LR DV
 |0,_,_,_,_=>AQ
 |m+1,G,pv,e,as=>match e with
  |.Constant c _ _=>(uv c).bind λd=>D (d,[],as)
  |.Name x _=>(O0 G pv x).bind λd=>D (d,[],as)
  |.BinOp l op r _=>Cs (vE T k m G pv l as) λa as=>Cs (vE T k m G pv r as) λb as=>AGN T k (AAr l) (AAr r) op a b as
  |.UnaryOp op x _=>(match op with
   |.USub=>Cs (vE T k m G pv x as) AIx
   |.Not=>Cs (vE T k m G pv x as) λd as=>Cs (UM T k d as) λb as=>D (BZ (!b),[],as)
   |_=>L3 as λd=>[Ms T k G pv e d])
  |.Compare l ops rs _=>(bb ops).elim (L3 as λd=>[Ms T k G pv e d]) λop=>(bb rs).elim (L3 as λd=>[Ms T k G pv e d]) λr=>
   Cs (vE T k m G pv l as) λa as=>Cs (vE T k m G pv r as) λb as=>bif !Vd op r then Cs (ADu T k op a b as) λc as=>D (BZ c,[],as)else AQ
  |.IfExp c x y _=>Cs (vT T k m G pv c as) λt as=>ZU as λw as=>(match w with
   |true=>Cs (vE T k m G pv x as) λd as=>D (d,[t=J],as)
   |false=>Cs (vE T k m G pv y as) λd as=>D (d,[t=AB],as))
  |.Tuple es _ _=>Cs (Rl (vE T k m G pv) es as) λds as=>gd (EV ds.length 1000) (FI ds,[],as)
  |.List es _=>Cs (Rl (vE T k m G pv) es as) λds as=>gd (EV ds.length 1000) (AL ds,[],as)
  |.Subscript v i _=>(UN i).elim (Cs (vE T k m G pv v as) λa as=>Cs (vE T k m G pv i as) λb as=>L3 as λd=>[CC T k a b d])
   (λq=>bif Vo q.2.2 then AQ else Cs (vE T k m G pv v as) λa as=>Cs (ADx (vE T k m G pv) q.1 as) λl as=>Cs (ADx (vE T k m G pv) q.2.1 as) λh as=>L3 as λd=>[Fm T k a l h d])
  |.BoolOp op es _=>(match op with
   |.And=>Cs (vD (vE T k m G pv) J es as) λb as=>D (BZ b,[],as)
   |.Or=>Cs (vD (vE T k m G pv) AB es as) λb as=>D (BZ b,[],as))
  |.Call f args ks p=>(match ks with
   |[] =>ACs T k G pv (vE T k m G pv) e f args p as
   |_=>L3 as λd=>[Ms T k G pv e d])
  |.Attribute o x _=>bif Vo (Mz o)then Cs (vE T k m G pv o as) λa as=>L3 as λd=>[Ey T k a x d]else AQ
  |e=>L3 as λd=>[Ms T k G pv e d]
noncomputable def vT (T:Th) (k:Aj):Aj->GV->BD->A2->I Ja->LR Ba
 |0,_,_,_,_=>AQ
 |m+1,G,pv,e,as=>match e with
  |.Compare l ops rs _=>(bb ops).bind λop=>(bb rs).bind λr=>
   Cs (vE T k m G pv l as) λa as=>Cs (vE T k m G pv r as) λb as=>bif !Vd op r then ADu T k op a b as else AQ
  |.BoolOp op es _=>(match op with
   |.And=>vB (vT T k m G pv) J es as
   |.Or=>vB (vT T k m G pv) AB es as)
  |.UnaryOp op x _=>(match op with
   |.Not=>Cs (vT T k m G pv x as) λb as=>D (!b,[],as)
   |_=>AQ)
  |.Name .. =>Cs (vE T k m G pv e as) λd as=>UM T k d as
  |.Call .. =>Cs (vE T k m G pv e as) λd as=>UM T k d as
  |.Subscript .. =>Cs (vE T k m G pv e as) λd as=>UM T k d as
  |.Attribute .. =>Cs (vE T k m G pv e as) λd as=>UM T k d as
  |_=>AQ
end
theorem eU(h:AAr e=D i)(a:vE T n m G pv e as=D (AM j,cs,as')):i=j:=by
 unfold AAr at h
 split at h
 ·rename_i q
  revert a;revert h;refine DK (motive_1:= λe=> ∀q,DK (motive_1:= λ_=>AW Aa) e q (λc _ _=>AGL c)=D i->vE T n m G pv e as=D (AM j,cs,as')->i=j) e q (λc k p q h a=>?_) q;have h:=h;cases c with
  |int x=>
   obtain rfl:=AE h;cases m with
   |zero=>cases a
   |succ m=>cases a;rfl
  |_=>exact EN h
 ·exact EN h
theorem Nl(h:O2 l c v=D cs)(a:∀i,l=D i->i=v)(hc:ER cs):c v=true:=by
 unfold O2 at h;cases l with
 |none=>obtain rfl:=AE h;exact hc.1
 |some i=>
  obtain rfl:=a i B;have h:(bif c i then D []else AQ)=D cs:=h;cases e:c i with
  |true=>rfl
  |false=>(rw[e]at h;cases h)
theorem uz.no(h:Nj j=J):LK i j=false:=by
 have y:=Nj.le h;unfold LK;have: ¬((if(j==0)=J then 0 else j.natAbs.log2/30+1)>300):=by
  split
  ·decide
  ·rename_i h0
   have u:j.natAbs≠0:=by intro q;apply h0;simpa using q
   have:j.natAbs.log2<64:=(Nat.log2_lt u).mpr y;exact G6.mpr<|AO (Dk<|QX _ _)<|AO this<|by decide
 simp only[this,decide_false,ACb]
theorem vF(h:HX a b=D cs):∃x y,a=D x/\b=D y/\cs=x++y:=by
 cases a with
 |none=>cases h
 |some x=>
  cases b with
  |none=>cases h
  |some y=>obtain rfl:=AE h;exact(Ki _ _ B B B)
theorem vG(q:∀x,g=D x->x=i)(l:∀x,e=D x->x=j)(h:HX (O2 g c i) (O2 e d j)=D cs)(hc:ER cs):c i=J/\d j=true:=by
 (refine Bk (vF h) λx y e1 e2 a=>?_;subst a)
 exact⟨Nl e1 q hc.app.1,Nl e2 l hc.app.2⟩
theorem Ok.gI(h:∀cs,g=D cs->ER cs->P (AM r)):Ok (gI g r as) P:=by
 cases g with
 |none=>exact Ok.no
 |some c=>exact .one<|h c B
theorem Sl(h:VO j=J):0<=j/\j<=1000000:=(Ew h).imp E8 E8
theorem kC(h:Nj i=J):AIi i<=64:=by have:=Nj.le h;exact intBits_le_64 (by omega)<|by omega
theorem AAs(g:∀x,r=D x->x=i)(d:∀x,q=D x->x=j):Ok (AGM r q l i j as) (SU T n l (AM i) (AM j)):=by
 cases l with
 |Add=>exact .pure AAU
 |Sub=>exact .pure AAV
 |BitAnd=>exact .pure AAX
 |BitOr=>exact .pure ADm
 |BitXor=>exact .pure AAY
 |Mult=>exact .gI λcs e a=>Yz<|.of_left<|kC<|Nl e g a
 |Mod=>exact .gI λcs e a=>AAW<|ADQ<|(CR _).mp<|Nl e d a
 |FloorDiv=>exact .gI λcs e a=>have h:=Ew<|Nl e d a;bQ (ADQ<|(CR _).mp h.1) (uz.no h.2)
 |RShift=>exact .gI λcs e a=>AAZ<|E8<|Nl e d a
 |LShift=>exact .gI λcs e a=>have h:=vG g d e a;AAa (Sl h.2).1 (Sl h.2).2 (Nj.le h.1)
 |Pow=>exact .gI λcs e a=>have h:=vG g d e a;AAb (Sl h.2).1 (Sl h.2).2 (Nj.le h.1)
 |_=>exact Ok.no
theorem eV(h:vA o=J):o=iY:=by cases o<;>first|rfl|exact Pm h
theorem AAt(z:∀x i,u=D x->a=AM i->x=i)(v:∀x i,r=D x->b=AM i->x=i):Ok (AGN T n u r e a b as) (SU T n e a b):=by have h:Ok (L3 as λd=>[SU T n e a b d]) (SU T n e a b):=.L3 λd hc=>hc.1;have g:Ok (ADt T n e a b as) (SU T n e a b):=.opt (λx e1=>.opt (λy e2=>.cond λq=>eV q▸SP e1▸SP e2▸ .one λhc=>Y0 hc.1) λ_=>h) λ_=>h;refine .opt (λi e1=>.opt (λj e2=>?_) λ_=>g) λ_=>g;have e1:=G8 e1;have e2:=G8 e2;exact e1▸e2▸AAs (λx l=>z x i l e1) (λx l=>v x j l e2)
theorem nz:Ok (ADu T n h a b as) (Cg T n h a b):=
 have g:=.iR λd hc=>hc.1
 .ite (λ_=>.opt (λr e=>.pure<|AAl e) λ_=>.ADM λ_=>g) λ_=>g
theorem Nm:Ok (UM T n d as) (FP T n d):=by
 have a:∀d,Ok (iR as λc=>[FP T n d c]) (FP T n d):= λd=>.iR λd hc=>hc.1;cases d with
 |none=>exact .pure jg
 |bool=>exact .pure jf
 |int=>exact .pure qZ
 |_=>exact a _
end
section
set_option backward.match.sparseCases true
set_option tactic.hygienic true
theorem JJ(g:∀e as,Ok (f e as) (Ev T n env pv e)):∀ {es:I A2} {as:I Ja},Ok (Rl f es as) (GH T n env pv es):=by
 intro es;induction es with
 |nil=>exact .pure .nil
 |cons e r a=>exact .cond λhp=>.bind (g e _) λd as h=>.bind a λds as hs=>.pure<|Qt h (qc hp) hs
theorem M1(h:UN a=AQ):dF a AB o i=operate [o,i] (getItem o i):=by cases a<;>first|rfl|exact Tt h
theorem ADy(O:Cr T)(hi:UN i=AQ)(h1:Ev T n env pv v a)(h2:Ev T n env pv i b)(h:CC T n a b d):Ev T n env pv (H9 v i pos) d:=by
 intro A X ad s Q E R k;rw[jI];refine AD<|h1 A X ad s _ E R λu L j l G=>AD<|BV<|h2 A X ad L _ E (R.ext O j l) λw s₂ g a0 C=>AD<|Dq ?_;have a2:=R.ext O j l;refine Bk (h A X s₂ u w Q E R.a a0 (a2.x.ext l g) (G.up O<|g.up R.x.tab) C λr e y N z=>k r e ((j.trans g).trans y) N z) λTy id hl hT hg=>?_;refine AD ?_;rw[SH hT.not_modules];refine AD<|R7 hT hl ?_;have q:Ao (M T) A (dF i AB u w) (λr e=>Ao (M T) A (jJ v u r>>= λ_=>Ce r) Q E e) E s₂:=by rw[M1 hi];exact dT<|DF hg (λr e a1=>AD<|T6<|AP a1) λ_ _ x=>x
 first
  |exact AP<|AD q
  |exact AD<|AP<|AD q
  |exact AD q
theorem AAu(O:Cr T)(C:Ev T n env pv (Bu x p) a)(h:Ey T n a y d):Ev T n env pv (CO (Bu x p) y pos) d:=by intro A X ad s Q E R k;refine jK<|C A X ad s _ E R λu q e z j=>?_;exact h A X q u Q E R.a z (R.x.ext R.inv e) j λr l g v i=>k r l (e.trans g) v i
theorem oA{c and:Ba}(d:c=and->Ok x P)(a:c= !and->Ok y P):Ok (match c==and with|true=>x|false=>y) P:=by
 cases c<;>cases and
 ·exact d B
 ·exact a B
 ·exact a B
 ·exact d B
theorem AAv{and:Ba}{ad:Bt->I Az}(z:∀e as,Ok (f e as) (bN T n env pv e))(O:Cr T)(R:Ar T n A X env pv ad s)
  (stop:∀e es s₁,Ao (M T) A (uD e env (IC e env)) (λb a=>if b=and then Ao (M T) A (Ym u es env) Q E a else Q b a) E s₁->Ao (M T) A (Ym u (e::es) env) Q E s₁)(l:∀s₁,Q and s₁->Ao (M T) A (Ym u [] env) Q E s₁):
  ∀es e as,Ok (ADv f and e es as) λb=>(∀s',C1 T s.heap s'.heap->Cm T s'->Q b s')->∀s₁,C1 T s.heap s₁.heap->Cm T s₁->Ao (M T) A (Ym u (e::es) env) Q E s₁:=by
 intro es;induction es with
 |nil=>
  intro e as b cs as' h hc k s₁ x i;refine stop e [] s₁<|z e as b cs as' h hc A X ad s₁ _ E (R.ext O x i) λa g j=>?_;have q:=k a (x.trans g) j
  split
  ·rename_i e;exact l _<|e▸q
  ·exact q
 |cons y r G=>
  intro e as;refine .bind (z e as) λb as C=>.ZU λc as=>oA (λv=>.bind (G y as) λd as L=>.one λhc k s₁ x i=>?_) λv=>.one λhc k s₁ x i=>?_
  ·refine stop e (y::r) s₁ (C A X ad s₁ _ E (R.ext O x i) λa g j=>?_);rw[Dh<|hc.1.trans v];exact L k a (x.trans g) j
  ·refine stop e (y::r) s₁ (C A X ad s₁ _ E (R.ext O x i) λa g j=>?_);rw[CQ<|by rw[hc.1,v];cases and<;>nofun,hc.1];exact k a (x.trans g) j
theorem eW{and:Ba}(i:∀e as,Ok (f e as) (bN T n env pv e))(O:Cr T):Ok (vB f and es as) (bN T n env pv (.BoolOp (qd and) es pos)):=by
 intro b cs as' h g A X ad s Q E R k;refine wpAny_isTrue_BoolOp ?_;have stop:∀e es s₁,Ao (M T) A (uD e env<|IC e env) (λb a=>if b=and then Ao (M T) A (Ym (qd and) es env) Q E a else Q b a) E s₁->Ao (M T) A (Ym (qd and) (e::es) env) Q E s₁:= λe es s₁ h=>by
  cases and with
  |true=>exact wpAny_allTrue_And_cons<|DF h (λb a q=>by cases b<;>exact q) λ_ _ q=>q
  |false=>exact wpAny_allTrue_Or_cons<|DF h (λb a q=>by cases b<;>exact q) λ_ _ q=>q
 have d:∀s₁,Q and s₁->Ao (M T) A (Ym (qd and) [] env) Q E s₁:= λs₁ q=>by
  cases and with
  |true=>exact wpAny_allTrue_And_nil q
  |false=>exact wpAny_allTrue_Or_nil q
 cases es with
 |nil=>exact d _<|(Ok.pure (P:= λb=>Q b s->Q and s) λq=>q) b cs as' h g<|k s (C1.refl _) R.inv
 |cons e r=>exact AAv i O R stop d r e as b cs as' h g k s (C1.refl _) R.inv
theorem oF(h:∀b,d=BZ b->Ok (f b) P):Ok (ADw d f) P:=GY λb e=>h b<|dm e
theorem eX(a:∀e as,Ok (f e as) (Ev T n env pv e)){and:Ba} :∀es e as,Ok (vC f and e es as) (ON T n env pv and (e::es)):=by
 intro es;induction es with
 |nil=>exactλe as=>.bind (a e as) λd as h=>oF λb q=>.pure<|.one<|q▸h
 |cons j r g=>
  exactλe as=>.bind (a e as) λd as h=>oF λb q=>.ZU λc as=>oA (λ_=>.bind (g j as) λw as i=>.one λhc=>.on (hc.1▸q▸h) i) λ_=>.one λhc=>.stop<|hc.1▸q▸h
theorem oH(a:∀e as,Ok (f e as) (Ev T n env pv e)):Ok (ADx f e as) (Ww T n env pv e):=by
 cases e with
 |none=>exact .pure .none
 |some e=>
  exact .bind (a e as) λd as h=>GY λi q=>.pure<|.some<|G8 q▸h
theorem kD(h:Vo o=J):∃a,o=D a:=by
 cases o with
 |none=>cases h
 |some a=>exact⟨a,B⟩
theorem kF(h:Vo o=AB):o=none:=by
 cases o with
 |none=>rfl
 |some a=>exact nY h
theorem bc(g:EV k 1000=J):k<=sizeLine:=AO (Be g)<|by decide
theorem vH(O:Cr T)(K:DG T env G)(i:∀e as,Ok (v e as) (Ev T n env pv e)):Ok (ACs T n G pv v (El f g [] p) f g p as) (Ev T n env pv (El f g [] p)):=by
 have h:Ok (L3 as λd=>[Ms T n G pv (El f g [] p) d]) (Ev T n env pv<|El f g [] p):=.L3 λd hc=>hc.1 env K;cases f with
 |Attribute o x r=>
  refine .cond λj=>?_;have h1:=Ew j;have h2:=Ew h1.2;have h3:=Ew h2.2;exact .bind (i o as) λa as l=>.bind (JJ i) λds as hs=>GY λq _=>.one λhc=>AAj O h1.1 h2.1 h3.1 h3.2 l hs hc.1 hc.2.1 hc.2.2.1
 |Name f q=>
  exact GY λc e=>.bind (JJ i) λds as hs=>.L3 λd hc=>AAf O (HZ O K e) hs hc.1 hc.2.1
 |_=>exact h
theorem Io(O:Cr T)(K:DG T env G):∀m,(∀e as,Ok (vE T n m G pv e as) (Ev T n env pv e))/\(∀e as,Ok (vT T n m G pv e as) (bN T n env pv e)):=by
 intro m;induction m with
 |zero=>exact⟨λe as=>.no,λe as=>.no⟩
 |succ m j=>
  refine F3 j λj L=>?_;have z:∀e as,Ok (L3 as λd=>[Ms T n G pv e d]) (Ev T n env pv e):= λe as=>.L3 λd hc=>hc.1 env K;refine⟨λe as=>?_,λe as=>?_⟩
  ·cases e with
   |Constant c k p=>
    exact GY λd e=>.pure<|qb O e
   |Name x p=>
    exact GY λd e=>.pure<|HZ O K e
   |BinOp l C r p=>
    exact .zE λa c1 a4 h1 k1=>.zE λb c2 a3 h2 k2=> λd cs as' h hc=>ud O (j _ _ _ _ _ h1 k1) (j _ _ _ _ _ h2 k2)<|AAt (λx i hx e=>eU hx<|e▸h1) (λx i hx e=>eU hx<|e▸h2) d cs as' h hc
   |UnaryOp C x p=>
    cases C with
    |USub=>
     exact .bind (j x as) λd as h=>GY λi q=>.pure<|ADq O<|G8 q▸h
    |Not=>exact .bind (j x as) λd as h=>.bind Nm λb as hb=>.pure<|ADr O h hb
    |_=>exact z _ as
   |Compare l a1 rs p=>
    refine .opt (λC e1=>.opt (λr e2=>?_) λ_=>z _ as) λ_=>z _ as;rw[M0 e1,M0 e2];exact .bind (j l as) λa as N=>.bind (j r as) λb as hb=>.cond λhm=>.bind nz λc as hc=>.pure<|ADn O N hb hc<|(CR _).mp hm
   |IfExp c x y p=>
    refine .bind (L c as) λt as ht=>.ZU λw as=>?_;cases w with
    |true=>exact .bind (j x as) λd as h=>.one λhc=>dw O ht (λ_=>h) λq=>Iv<|hc.1.symm.trans q
    |false=>exact .bind (j y as) λd as h=>.one λhc=>dw O ht (λq=>Iv<|hc.1.symm.trans q) λ_=>h
   |Tuple es k p=>exact .bind (JJ j) λds as h=>.gd λg=>ue O h<|bc g
   |List es p=>exact .bind (JJ j) λds as h=>.gd λg=>AAe O h<|bc g
   |Subscript v i p=>
    refine .opt (λq e=>?_) λhi=>.bind (j v as) λa as N=>.bind (j i as) λb as hb=>.L3 λd hc=>ADy O hi N hb hc.1
    ·(refine Dx (qf e) λp a0=>?_;subst a0)
     refine .ADM λh=>?_;rw[kF h];exact .bind (j v as) λa as N=>.bind (oH j) λl as hl=>.bind (oH j) λu as hu=>.L3 λd hc=>uy O N hl hu hc.1
   |BoolOp C es p=>
    cases C with
    |And=>
     refine .bind (Q:=ON T n env pv J es) ?_ λb as h=>.pure<|eS (and:=J) O h;cases es with
     |nil=>exact .no
     |cons e r=>exact eX j r e as
    |Or=>
     refine .bind (Q:=ON T n env pv AB es) ?_ λb as h=>.pure<|eS (and:=AB) O h;cases es with
     |nil=>exact .no
     |cons e r=>exact eX j r e as
   |Call f a2 ks p=>
    cases ks with
    |nil=>exact vH O K j
    |cons=>exact z _ as
   |Attribute o x p=>
    refine .cond λh=>.bind (j o as) λa as N=>.L3 λd hc=>?_;refine Dx (kD h) λy h=>?_
    (refine Dx (K5 h) λq a0=>?_;subst a0)
    exact AAu O N hc.1
   |_=>exact z _ as
  ·cases e with
   |Compare l a1 rs p=>
    refine GY λC e1=>GY λr e2=>?_;rw[M0 e1,M0 e2];exact .bind (j l as) λa as N=>.bind (j r as) λb as hb=>.cond λhm c cs as' h hc=>AAc O N hb (nz c cs as' h hc)<|(CR _).mp hm
   |BoolOp C es p=>
    cases C with
    |And=>exact eW L O
    |Or=>exact eW L O
   |UnaryOp C x p=>
    cases C with
    |Not=>exact .bind (L x as) λb as h=>.pure<|AAd O h
    |_=>exact .no
   |Name x p=>exact .bind (j _ as) λd as h b cs as' e hc=>Qb O h<|Nm b cs as' e hc
   |Call f a w p=>exact .bind (j _ as) λd as h b cs as' e hc=>Qb O h<|Nm b cs as' e hc
   |Subscript v i p=>exact .bind (j _ as) λd as h b cs as' e hc=>Qb O h<|Nm b cs as' e hc
   |Attribute o x p=>exact .bind (j _ as) λd as h b cs as' e hc=>Qb O h<|Nm b cs as' e hc
   |_=>exact .no
end
section
set_option tactic.hygienic true
def Fn(T:Th)(k:Aj)(G:GV)(pv:BD)(st:Ct)(fl:Fl)(EA:BD):Prop:= ∀env,DG T env G->SX T k env pv st (atR fl EA)
noncomputable def kG(o:AW Et):Bool:=o.elim AB λk=>k== .local||k==BX
theorem vJ(h:kG o=J):o=D .local\/o=D BX:=by
 cases o with
 |none=>cases h
 |some k=>cases k<;>first|exact Ax B|exact BC B|exact Pm h
noncomputable def JK(G:GV)(x:Bt):Bool:=kG<|CY x G.names
noncomputable def KY(x:Bt):I Bt->Ba
 |[] =>AB
 |y::r=>bif Jm x y then J else KY x r
theorem vK(h:Jm x y=J):KY x (y::r)=true:=by show(bif Jm x y then J else KY x r)=_;rw[h];rfl
theorem eY(h:Jm x y=AB):KY x (y::r)=KY x r:=by show(bif Jm x y then J else KY x r)=_;rw[h];rfl
noncomputable def eZ:I Ja->BD->BD×I Ja
 |.fz x::as,pv=>eZ as (Yc x pv)
 |.fc x::as,pv=>eZ as (iu x pv)
 |as,pv=>(pv,as)
noncomputable def Qy(f:BD->Ct->I Ja->LR (Fl×BD)):I Ct->BD->I Ja->LR (Fl×BD)
 |[],pv,as=>D ((Aq,pv),[],as)
 |st::r,pv,as=>Cs (f (eZ as pv).1 st (eZ as pv).2) λq as=>match q with
  |(Aq,EA)=>Qy f r EA as
  |(.brk,EA)=>D ((.brk,EA),[],as)
  |(RW,EA)=>D ((RW,EA),[],as)
  |(JF d,EA)=>D ((JF d,EA),[],as)
  |(mx,EA)=>D ((mx,EA),[],as)
noncomputable def hdV:I Ja->AW ((Fl×BD)×I Ja)
 |.v fl pv::as=>D ((fl,pv),as)
 |_=>AQ
noncomputable def Pw(T:Th)(k:Aj)(G:GV)(pv:BD)(st:Ct)(as:I Ja):LR (Fl×BD):=(hdV as).bind λq=>D (q.1,[Fn T k G pv st q.1.1 q.1.2],q.2)
noncomputable def AGQ:I Ja->Ba
 |.bw::_=>J
 |_=>AB
noncomputable def vL(T:Th)(k m:Aj)(G:GV)(pv:BD)(e:A2)(as:I Ja):LR DV:=match AGQ as with
 |true=>Cs (vE T k m G (lend pv) e as.tail) λd as=>gd (Sh d) (d,[],as)
 |false=>vE T k m G pv e as
noncomputable def vO(T:Th)(k m:Aj)(G:GV)(pv:BD)(e:A2)(as:I Ja):LR K2:=match e with
 |.List es _=>Cs (Rl (vE T k m G pv) es as) λds as=>gd (EV (U ds) 1000) (JW ds,[],as)
 |.Dict ks vs _=>(match ks,vs with|[],[] =>D (nD [] [],[],as)|_,_=>AQ)
 |.BinOp l d r _=>bif vA d then Cs (vE T k m G pv l as) λa as=>Cs (vE T k m G pv r as) λb as=>(U5 a).bind λxs=>(U5 b).bind λys=>D (JW<|xs++ys,[U xs+U ys<=AY],as)else AQ
 |_=>AQ
noncomputable def vP(T:Th)(k m:Aj)(G:GV)(pv:BD)(x:Bt)(e:A2)(as:I Ja):LR PV:=match KY x G.Fe with
 |true=>Cs (vO T k m G pv e as) λo as=>D (BP AQ o,[],as)
 |false=>Cs (vE T k m G pv e as) λd as=>D (mw d,[],as)
noncomputable def Px(names:I (Bt×Et)):Env:= {(BN:Pc)with scope:= {(BN:R4)with kind:=BY,names:=names} }
noncomputable def UO(x:Sem α):AW α:=if h:x.ctorIdx=0 then YX (motive:= λ_=>AW α) x h D else AQ
theorem Zo{a:d}(h:UO x=D a):x=Ce a:=
 let⟨q,h⟩:=Em h
 YX (motive:= λx=> ∀q,YX (motive:= λ_=>AW d) x q D=D a->x=av a) x q (λb q h=>AE h▸B) q h
noncomputable def KC(G:GV):I Bt->Ba
 |[] =>J
 |x::r=>(JK G x&& !KY x G.Fe)&&KC G r
noncomputable def Je(G:GV):I Bt->Ba
 |[] =>J
 |x::r=>JK G x&&Je G r
noncomputable def Wx(pv:BD):I Bt->Ba
 |[] =>J
 |x::r=>nf pv x&&Wx pv r
noncomputable def isV:I Ja->Ba
 |.v .. ::_=>J
 |_=>AB
noncomputable def ACt(T:Th)(k m:Aj)(G:GV)(pv:BD)(st:Ct)(x:Bt)(e:A2)(as:I Ja):LR (Fl×BD):=bif Qd e&&(JK G x&&nf pv x)then
  (bif KY x G.Fe then(bif isV as then Pw T k G pv st as else Cs (vO T k m G pv e as) λo as=>D ((Aq,D3 x (BP AQ o) pv),[],as))
  else Cs (vL T k m G pv e as) λd as=>D ((Aq,D3 x (mw d) pv),[],as))
 else Pw T k G pv st as
noncomputable def be(e:A2):AW (I A2):=if h:e.ctorIdx=25 then Il (motive_1:= λ_=>AW<|I A2) e h λes _ _=>D es else AQ
noncomputable def ADz:A2->Aj
 |.Tuple _ k _=>k
 |_=>0
noncomputable def AD0:A2->LH
 |.Tuple _ _ p=>p
 |_=>BN
noncomputable def kH(l:I d):AW (d×d):=l.head?.bind λa=>(bb l.tail).bind λb=>D (a,b)
noncomputable def vM(a:AW e)(b:AW d):AW (e×d):=a.bind λx=>b.bind λy=>D (x,y)
noncomputable def ACu(e:A2):AW (A2×A2):=(be e).bind kH
noncomputable def AGR(T:Th)(k m:Aj)(G:GV)(pv:BD)(ts:I A2)(tk:Aj)(tp:LH)(e:A2)(as:I Ja):LR (Fl×BD):=(Jr ts).bind λxs=>
 (UO<|KG [KU ts tk tp] e<|Px G.names).bind λo=>o.elim
  (bif KC G xs&&Wx pv xs then Cs (vL T k m G pv e as) λd as=>(Wo d).bind λds=>gd (C8 (U ds)<|U xs) ((Aq,Wn xs ds pv),[],as)else AQ)
  λys=>(vM (kH ys)<|ACu e).elim
   (bif KC G ys&&Wx pv ys then Cs (vE T k m G pv e as) λd as=>(SQ d).bind λds=>gd (C8 (U ds)<|U ys) ((Aq,Wn ys.reverse ds.reverse pv),[],as)else AQ)
   λp=>bif D6 [p.2.1,p.2.2] &&(Je G [p.1.1,p.1.2] &&(Wx pv [p.1.1,p.1.2] && !(Jm p.1.1 p.1.2)))then Cs (vP T k m G pv p.1.1 p.2.1 as) λg as=>Cs (vP T k m G pv p.1.2 p.2.2 as) λa as=>D ((Aq,D3 p.1.1 g<|D3 p.1.2 a pv),[],as)else AQ
noncomputable def AGS(x:PV):AW (AW (I Az)×K2):=if h:x.ctorIdx=1 then PV.own.elim (motive:= λ_=>AW<|AW (I Az)×K2) x h λf o=>D (f,o)else AQ
theorem AAw(h:AGS x=D r):x=BP r.1 r.2:=
 let⟨q,h⟩:=Em h
 PV.own.elim (motive:= λx=> ∀q,PV.own.elim (motive:= λ_=>AW<|AW (I Az)×K2) x q (λf o=>D (f,o))=D r->x=BP r.1 r.2) x q (λf o q h=>AE h▸B) q h
noncomputable def AD1(o:AW PV):AW (AW (I Az)×K2):=o.bind AGS
theorem oJ(h:AD1 o=D q):o=D (BP q.1 q.2):=
 (by refine Ap (Gd h) λ_ d a=>?_;exact d.trans<|BI D<|AAw a)
noncomputable def AGT(x:K2):AW (I (I BB)×I DV):=if h:x.ctorIdx=1 then K2.Ft.elim (motive:= λ_=>AW<|I (I BB)×I DV) x h λks ds=>D (ks,ds)else AQ
theorem AAx(h:AGT x=D r):x=nD r.1 r.2:=
 let⟨q,h⟩:=Em h
 K2.Ft.elim (motive:= λx=> ∀q,K2.Ft.elim (motive:= λ_=>AW<|I (I BB)×I DV) x q (λks ds=>D (ks,ds))=D r->x=nD r.1 r.2) x q (λks ds q h=>AE h▸B) q h
noncomputable def AGU(x:K2):AW (I DV):=if h:x.ctorIdx=0 then K2.lst.elim (motive:= λ_=>AW<|I DV) x h λds=>D ds else AQ
theorem AAy(h:AGU x=D r):x=JW r:=
 let⟨q,h⟩:=Em h
 K2.lst.elim (motive:= λx=> ∀q,K2.lst.elim (motive:= λ_=>AW<|I DV) x q (λds=>D ds)=D r->x=JW r) x q (λds q h=>AE h▸B) q h
noncomputable def AD2(T:Th)(k m:Aj)(G:GV)(pv:BD)(x:Bt)(a e:A2)(as:I Ja):LR (Fl×BD):=(AD1<|CY x pv).bind λq=>(AGT q.2).bind λw=>
 bif C9 x&&Qd e then Cs (vL T k m G pv e as) λd as=>Cs (vE T k m G pv a as) λg as=>(dn g).bind λkb=>D ((Aq,D3 x (BP q.1<|nD (kb::w.1)<|d::w.2) pv),[U w.1<=AY],as)else AQ
noncomputable def ACv(e:A2):AW (A2×Bt×LH×I A2×I Mh×LH):=if h:e.ctorIdx=16 then Dr (motive_1:= λ_=>AW<|A2×Bt×LH×I A2×I Mh×LH) e h λf as ks cp=>if h:f.ctorIdx=20 then EW (motive_1:= λ_=>AW<|A2×Bt×LH×I A2×I Mh×LH) f h λo x a=>D (o,x,a,as,ks,cp)else AQ else AQ
noncomputable def AGV(e:A2):AW (Bt×Bt×A2×Ba):=(ACv e).bind λq=>(Mz q.1).bind λx=>(bb q.2.2.2.1).bind λa=>bif q.2.2.2.2.1.isEmpty then D (x,q.2.1,a,q.2.2.1.endLine==q.2.2.2.2.2.line)else AQ
noncomputable def ACw(T:Th)(k m:Aj)(G:GV)(pv:BD)(st:Ct)(x L4:Bt)(e:A2)(a:Ba)(as:I Ja):LR (Fl×BD):=bif isV as then Pw T k G pv st as else(AD1<|CY x pv).bind λq=>(AGU q.2).bind λds=>
 bif C9 x&&(D6 [e] &&a)then(bif Jm L4 "append" then Cs (vL T k m G pv e as) λd as=>D ((Aq,D3 x (BP q.1<|JW<|ds++[d]) pv),[U ds<=AY],as)
  else bif Jm L4 "extend" then Cs (vE T k m G pv e as) λd as=>(U5 d).bind λes=>D ((Aq,D3 x (BP q.1<|JW<|ds++es) pv),[U ds+U es<=AY],as)else AQ)else AQ
noncomputable def isStr:Const->Ba
 |.str _=>J
 |_=>AB
noncomputable def AGW(e:A2):Bool:=if h:e.ctorIdx=19 then DK (motive_1:= λ_=>Ba) e h λc _ _=>isStr c else AB
noncomputable def AGX(e:A2):AW (Bt×A2):=if h:e.ctorIdx=21 then Dv (motive_1:= λ_=>AW<|Bt×A2) e h λb a _=>(Mz b).bind λx=>D (x,a)else AQ
noncomputable def AGY(T:Th)(k m:Aj)(G:GV)(pv:BD)(st:Ct)(t e:A2)(as:I Ja):LR (Fl×BD):=
 (Mz t).elim ((be t).elim ((AGX t).elim (Pw T k G pv st as) λq=>AD2 T k m G pv q.1 q.2 e as) λts=>AGR T k m G pv ts (ADz t) (AD0 t) e as) λx=>ACt T k m G pv st x e as
noncomputable def AGZ(T:Th)(k m:Aj)(G:GV)(pv:BD)(st:Ct)(e:A2)(as:I Ja):LR (Fl×BD):=
 (AGV e).elim (bif AGW e then D ((Aq,pv),[],as)else Pw T k G pv st as) λq=>ACw T k m G pv st q.1 q.2.1 q.2.2.1 q.2.2.2 as
noncomputable def vS(T:Th)(k:Aj):Aj->GV->BD->Ct->I Ja->LR (Fl×BD)
 |0,_,_,_,_=>AQ
 |m+1,G,pv,st,as=>match st with
  |.Assign ts e _=>(bb ts).elim (Pw T k G pv st as) λt=>AGY T k m G pv st t e as
  |.Expr e _=>AGZ T k m G pv st e as
  |.If c a b _=>Cs (vT T k m G (lend pv) c as) λt as=>ZU as λw as=>(match w with
   |true=>Cs (Qy (λpv st as=>vS T k m G pv st as) a pv as) λq as=>D (q,[t=J],as)
   |false=>Cs (Qy (λpv st as=>vS T k m G pv st as) b pv as) λq as=>D (q,[t=AB],as))
  |.Return e _=>(match e with
   |some e=>Cs (vL T k m G pv e as) λd as=>D ((JF d,pv),[],as)
   |none=>Pw T k G pv st as)
  |.Pass _=>D ((Aq,pv),[],as)
  |.Assert c o _=>(match o with
   |none=>Cs (vT T k m G (lend pv) c as) λt as=>D ((Aq,pv),[t=J],as)
   |some _=>Pw T k G pv st as)
  |st=>Pw T k G pv st as
theorem DG.stores(K:DG T env G)(h:JK G x=J):env.kindOf x=D .local\/(env.kindOf x=D BX/\(env.cells.lookup x).isSome=J):=
 (vJ h).imp (λi=>(K.kindOf x).trans i) λi=>⟨(K.kindOf x).trans i,K.cells x<|Ax<|(K.kindOf x).trans i⟩
theorem DG.Je(K:DG T env G):∀ {xs:I Bt},Je G xs=J->Wx pv xs=J->UJ env pv xs:=by
 intro xs;induction xs with
 |nil=>exactλ_ _=>IL
 |cons x r i=>
  intro h h';have h:=Ew h;have h':=Ew h';exactλy j=>(DO j).elim (λq=>q▸⟨K.stores h.1,Nf h'.1⟩) λq=>i h.2 h'.2 y q
theorem Wy:∀ {xs:I Bt},KC G xs=J->Je G xs=true:=by
 intro xs;induction xs with
 |nil=>exactλ_=>B
 |cons x r a=>exactλh=>have h:=Ew h;IZ.mpr ⟨(Ew h.1).1,a h.2⟩
theorem DG.KC(K:DG T env G)(h:(KC G xs&&Wx pv xs)=J):UJ env pv xs:=K.Je (Wy (Ew h).1) (Ew h).2
theorem DG.pZ(K:DG T env G):env.kindOf=(Px G.names).kindOf:=uC λx=>BI (AFw x) K.names
theorem DG.iU(K:DG T env G):env.blockKind=(Px G.names).blockKind:=by unfold Env.blockKind;rw[K.kind];rfl
theorem DG.cu(K:DG T env G)(h:UO (KG ts e (Px G.names))=D r):KG ts e env=Ce r:=by rw[<-Zo h];unfold KG;rw[K.pZ,K.iU]
theorem Wz(O:Cr T):∀ {as:I Ja} {pv:BD},Ex T n env (eZ as pv).1 ss R->Ex T n env pv ss R
 |[],pv,h=>h
 |a::as,pv,h=>by
  cases a with
  |fz x=>exact Zk O (Wz O (as:=as) (pv:=Yc x pv) h)
  |fc x=>exact Wl O (Wz O (as:=as) (pv:=iu x pv) h)
  |_=>exact h
theorem Sm(O:Cr T)(l:∀pv st as,Ok (f pv st as) λq=>SX T n env pv st (atR q.1 q.2)):∀ss pv as,Ok (Qy f ss pv as) λq=>Ex T n env pv ss (atR q.1 q.2):=by
 intro ss;induction ss with
 |nil=>exactλpv as=>.pure<|jk ⟨B,B⟩
 |cons st r j=>
  refineλpv as=>.bind (l _ _ _) λq g h=>?_;have i:∀ {R:Fl->BD->Prop},(match q.1 with|.next=>Ex T n env q.2 r R|fl=>R fl q.2)->Ex T n env pv (st::r) R:= λ {R} k=>Wz O (as:=as) (My (h.weak λd Fh ⟨e1,e2⟩=>by
   subst e1 e2;cases e:q.1 with
   |next=>rw[e]at k;exact k
   |_=>rw[e]at k;exact k))
  obtain⟨fl,BE⟩:=q;cases fl with
  |next=>exactλa cs as' e u=>i<|j BE g a cs as' e u
  |_=>exact .pure<|i ⟨B,B⟩
theorem Nn(K:DG T env G){st:Ct} :Ok (Pw T n G pv st as) λq=>SX T n env pv st (atR q.1 q.2):=GY λq _=>.one λa=>a.1 env K
theorem ee(O:Cr T)(K:DG T env G):Ok (vL T n m G pv e as) (Ev T n env pv e):=by
 unfold vL;cases AGQ as with
 |true=>exact .bind ((Io O K m).1 e _) λd as h=>.gd λg=>nq O h g
 |false=>exact(Io O K m).1 e _
theorem ACx(O:Cr T)(K:DG T env G):Ok (vO T n m G pv e as) (ur T n env pv e):=by
 have d:=(Io (n:=n) (pv:=pv) O K m).1;cases e with
 |List es p=>exact .bind (JJ d) λds as h=>.gd λg=>Sk O h<|bc g
 |Dict ks vs p=>
  cases ks with
  |cons=>exact .no
  |nil=>
   cases vs with
   |cons=>exact .no
   |nil=>exact .pure<|eQ O
 |BinOp l u r p=>
  exact .cond λq=>eV q▸ .bind (d l as) λa as j=>.bind (d r as) λb as i=>GY λxs e1=>GY λys e2=>.one λhc=>AAp O (MI e1▸j) (MI e2▸i) hc.1
 |_=>exact .no
theorem ACy(O:Cr T)(K:DG T env G):Ok (vP T n m G pv x e as) (EvS T n env pv e):=by
 unfold vP;cases KY x G.Fe with
 |true=>exact .bind (ACx O K) λo as h=>.pure<|AGK h
 |false=>exact .bind ((Io O K m).1 e as) λd as h=>.pure<|AGJ O h
abbrev ef(T:Th)(n:Aj)(env:Pc)(pv:BD)(st:Ct)(q:Fl×BD):Prop:=SX T n env pv st<|atR q.1 q.2
theorem vN(O:Cr T)(K:DG T env G):Ok (ACt T n m G pv (Fg [Bu x a] e p) x e as) (ef T n env pv (Fg [Bu x a] e p)):=by
 refine .ite (λg=>?_) λ_=>Nn K;have h1:=Ew g;have h2:=Ew h1.2;refine .ite (λ_=>.ite (λ_=>Nn K) λ_=>.bind (ACx O K) λd as h=>.pure ?_) λ_=>.bind (ee O K) λd as h=>.pure ?_
 ·exact MO O K.kind h ⟨K.stores h2.1,Nf h2.2⟩ ⟨B,B⟩<|Pr h1.1
 ·exact Wg O K.kind h ⟨K.stores h2.1,Nf h2.2⟩ ⟨B,B⟩<|Pr h1.1
theorem Vp(h:be e=D es):e=KU es (ADz e) (AD0 e):=
 let⟨q,h⟩:=Em h
 Il (motive_1:= λe=> ∀q,Il (motive_1:= λ_=>AW<|I A2) e q (λes _ _=>D es)=D es->e=KU es (ADz e) (AD0 e)) e q (λa k p q h=>AE h▸B) q h
theorem bf(h:kH l=D a):l=[a.1,a.2] :=by
 refine Ap (Gd h) λx e h=>?_;refine Ap (Gd h) λy d g=>?_;cases l with
 |nil=>cases e
 |cons z r=>
  have d:r=[y] :=M0 d;rw[d,<-AE g,<-AE e]
theorem vQ(h:vM a b=D p):a=D p.1/\b=D p.2:=by refine Ap (Gd h) λx e h=>?_;refine Ap (Gd h) λy d h=>?_;exact AE h▸⟨e,d⟩
theorem AAz(O:Cr T)(K:DG T env G):Ok (AGR T n m G pv ts tk tp e as) (ef T n env pv (Fg [KU ts tk tp] e p)):=by
 refine GY λxs j=>GY λo a=>?_;cases o with
 |none=>exact .cond λg=>.bind (ee O K) λd as h=>GY λds e1=>.gd λl=>Ws O K.kind j (K.KC g) h e1 (DJ l) (K.cu a) ⟨B,B⟩
 |some ys=>
  show Ok ((vM (kH ys)<|ACu e).elim _ _) _;refine .opt (λq hq=>?_) λ_=>.cond λg=>.bind ((Io O K m).1 e as) λd as h=>GY λds e1=>.gd λl=>Wt O K.kind (K.KC g) (Nc e1▸h) (DJ l) (K.cu a) ⟨B,B⟩;have hq:=vQ hq;rw[bf hq.1]at a;refine Ap (Gd hq.2) λes i v=>?_;have i:=Vp i;rw[bf v]at i;refine .cond λg=>.bind (ACy O K) λy as u=>.bind (ACy O K) λx as r=>.pure ?_;have g1:=Ew g;have g2:=Ew g1.2;have g3:=Ew g2.2;rw[i];exact ux O K.kind (K.Je g2.1 g3.1) (λq=>by rw[sEq_iff.mpr q]at g3;cases g3.2) u r g1.1 (K.cu<|i▸a) ⟨B,B⟩
theorem AA0(O:Cr T)(K:DG T env G):Ok (AD2 T n m G pv x a e as) (ef T n env pv (Fg [H9 (Bu x l) a j] e p)):=by unfold AD2;refine GY λq e1=>GY λw e2=>.cond λg=>.bind (ee O K) λd as h=>.bind ((Io O K m).1 a as) λr as i=>GY λkb e3=>.one λhc=>?_;have g:=Ew g;exact U7 O K.kind g.1 (FF▸AAx e2▸oJ e1) h (SP e3▸i) hc.1 ⟨B,B⟩<|Pr g.2
theorem vR(h:ACv e=D q):e=El (CO q.1 q.2.1 q.2.2.1) q.2.2.2.1 q.2.2.2.2.1 q.2.2.2.2.2:=by refine Dx (Em h) λt h=>?_;revert h;refine Dr (motive_1:= λe=> ∀t,Dr (motive_1:= λ_=>AW<|A2×Bt×LH×I A2×I Mh×LH) e t _=D q->e=_) e t (λf as ks cp t h=>?_) t;refine Dx (Em<|show(if h:f.ctorIdx=20 then EW (motive_1:= λ_=>AW<|A2×Bt×LH×I A2×I Mh×LH) f h λo x a=>D (o,x,a,as,ks,cp)else AQ)=D q from h) λu h=>?_;revert h;refine EW (motive_1:= λf=> ∀u,EW (motive_1:= λ_=>AW<|A2×Bt×LH×I A2×I Mh×LH) f u _=D q->El f as ks cp=_) f u (λo x a u h=>?_) u;exact AE h▸B
theorem AA1(h:AGV e=D q):∃p ap cp,e=El (CO (Bu q.1 p) q.2.1 ap) [q.2.2.1] [] cp/\q.2.2.2=(ap.endLine==cp.line):=by refine Ap (Gd h) λw d h=>?_;refine Ap (Gd h) λx g h=>?_;refine Ap (Gd h) λa i h=>?_;refine Dx (K5 g) λp g=>?_;have d:=vR d;rw[g,M0 i,Ou.mp (Y8 h).1]at d;exact AE (Y8 h).2▸(Rh p _ _ d B)
theorem vU(O:Cr T)(K:DG T env G):Ok (ACw T n m G pv (NC (El (CO (Bu x p) L4 ap) [e] [] cp) pos) x L4 e (ap.endLine==cp.line) as) (ef T n env pv (NC (El (CO (Bu x p) L4 ap) [e] [] cp) pos)):=by
 refine .ite (λ_=>Nn K) λ_=>GY λq e1=>GY λds e2=>.cond λg=>?_;have g1:=Ew g;have g2:=Ew g1.2;have i:=FF▸AAy e2▸oJ e1;refine .ite (λa=>.bind (ee O K) λd as h=>.one λhc=>?_) λ_=>.cond λa=>.bind ((Io O K m).1 e as) λd as h=>GY λes e3=>.one λhc=>?_
 ·rw[sEq_iff.mp a];exact js O K.kind g1.1 i g2.1 g2.2 h hc.1 ⟨B,B⟩
 ·rw[sEq_iff.mp a];exact jz O K.kind g1.1 i g2.1 g2.2 (MI e3▸h) hc.1 ⟨B,B⟩
theorem AA2(h:AGW e=J):∃x k p,e=Gj (ACZ x) k p:=by
 have a:∀t,DK (motive_1:= λ_=>Ba) e t (λc _ _=>isStr c)=J->∃x k p,e=Gj (ACZ x) k p:= λt=>
  DK (motive_1:= λe=> ∀t,DK (motive_1:= λ_=>Ba) e t (λc _ _=>isStr c)=J->∃x k p,e=Gj (ACZ x) k p) e t (λc k p t h=>by
   cases c with
   |str x=>exact(dh x k p B)
   |_=>exact Pm h) t
 by_cases t:e.ctorIdx=19
 ·exact a t<|(dif_pos t).symm.trans h
 ·exact Pm<|(dif_neg t).symm.trans h
theorem AA3(h:AGX e=D q):∃a p,e=H9 (Bu q.1 a) q.2 p:=by refine Dx (Em h) λt h=>?_;revert h;refine Dv (motive_1:= λe=> ∀t,Dv (motive_1:= λ_=>AW<|Bt×A2) e t _=D q->∃a p,e=H9 (Bu q.1 a) q.2 p) e t (λb i p t h=>?_) t;refine Ap (Gd h) λx d h=>?_;refine Dx (K5 d) λa g=>?_;exact AE h▸(NJ a p<|g▸B)
theorem AA4(O:Cr T)(K:DG T env G):Ok (AGY T n m G pv (Fg [t] e p) t e as) (ef T n env pv (Fg [t] e p)):=by
 refine .opt (λx h=>?_) λ_=>.opt (λts h=>?_) λ_=>.opt (λq h=>?_) λ_=>Nn K
 ·refine Dx (K5 h) λa e1=>?_;rw[e1];exact vN O K
 ·rw[Vp h];exact AAz O K
 ·refine E0 (AA3 h) λa d e2=>?_;rw[e2];exact AA0 O K
theorem AA5(O:Cr T)(K:DG T env G):Ok (AGZ T n m G pv (NC e p) e as) (ef T n env pv (NC e p)):=by
 refine .opt (λq h=>?_) λ_=>.ite (λh=>?_) λ_=>Nn K
 ·refine Hr (AA1 h) λ_ _ _ e1 h=>?_;rw[e1,h];exact vU O K
 ·refine nS (AA2 h) λx k q e3=>?_;rw[e3];refine .pure λA X Z ad s Q E a K' d=>jF (Ke ?_)<|by unfold PU;rw[K.kind];rfl
  exact K' Aq HK _ X ad _ ⟨B,B⟩ .refl Mg<|a.ext O (C1.refl _)<|a.inv.toks _
theorem oM(O:Cr T)(K:DG T env G):∀m pv st as,Ok (vS T n m G pv st as) (ef T n env pv st):=by
 intro m;induction m with
 |zero=>exactλpv st as=>.no
 |succ m j=>
  intro pv st as;have g:∀st,Ok (Pw T n G pv st as) (ef T n env pv st):= λst=>Nn K;cases st with
  |Assign ts e p=>
   refine .opt (λt h=>?_) λ_=>g _;rw[M0 h];exact AA4 O K
  |Expr e p=>exact AA5 O K
  |If c a b p=>
   refine .bind ((Io O K m).2 c as) λt as i=>.ZU λw as=>?_;cases w with
   |true=>
    refine .bind (Sm O j a pv as) λq as h=>.one λhc=>?_;exact jm O (MM O i) (λ_=>h) λq=>Iv<|hc.1.symm.trans q
   |false=>
    refine .bind (Sm O j b pv as) λq as h=>.one λhc=>?_;exact jm O (MM O i) (λq=>Iv<|hc.1.symm.trans q) λ_=>h
  |Return e p=>
   cases e with
   |some e=>
    refine .bind (ee O K) λd as h=>.pure ?_;exact jl O h ⟨B,B⟩
   |none=>exact g _
  |Pass p=>exact .pure<|uh ⟨B,B⟩
  |Assert c o p=>
   cases o with
   |none=>
    refine .bind ((Io O K m).2 c as) λt as i=>.one λhc=>?_;exact kB O (MM O<|hc.1▸i) ⟨B,B⟩
   |some=>exact g _
  |_=>exact g _
theorem oN(F:Pt T f fd)(hs:OK fd.scope=J)(W:∀x d,glob x=D d->Kj T x d)(a:∀p,cq=D p->fd.code=p.1/\fd.qualname++ ".<locals>." =p.2):DG T (zt fd L f) ⟨fd.scope.names,glob,Fe,cq⟩:=by
 have hs:=Ew hs;have e:=Kz (Ew (Ew hs.1).1).1;refine⟨F7 hs.2,B,λp hp=>(Ew<|e p hp).1,F.dO,F.blt,λx hx=>?_,W,a⟩;rcases hx with hx|hx
 ·rw[Fy];exact UK<|Ax<|BW hx
 ·exact Pm (Ew<|e _<|BW hx).2
theorem tZ{sc:R4}{ps:I Bt}(a:ps.all (λx=>kG (CY x sc.names))=J):∀x∈ps,sc.names.lookup x=D .local\/(sc.names.lookup x=D BX/\((B3 0 sc.names []).lookup x).isSome=J):= λx e=>by rw[<-FF];refine(vJ<|Kz a x e).imp_right λd=>⟨d,?_⟩;rw[Fy];exact UK<|Ax<|FQ d
noncomputable def VP(x:LR (Fl×BD)):AW (Fl×I Prop):=x.bind λq=>bif q.2.2.isEmpty then D (q.1.1,q.2.1)else AQ
theorem Zp(h:VP x=D (fl,cs)):∃EA,x=D ((fl,EA),cs,[]):=by refine Ap (Eo h) λq e h=>?_;have h:=Y8 h;have e1:=FL<|AE h.2;exact⟨q.1.2,e.trans<|by rw[<-e1.1,<-e1.2,<-Ou.mp h.1]⟩
theorem bg(O:Cr T){ps locs Fe:I Bt}(F:Pt T f fd)(W:∀x d,glob x=D d->Kj T x d)
  (e:fd.body=KS body)(g:JI fd ps)(hs:OK fd.scope=J)(r:U ps=U ds)(l:(ps++locs).Nodup)
  (j:ps.all (λx=>kG (CY x fd.scope.names))=J)
  (a:VP (Qy (vS T n m ⟨fd.scope.names,glob,Fe,cq⟩) body (EB ps ds locs) as)=D (JF d,cs))(u:ER cs)(q:∀p,cq=D p->fd.code=p.1/\fd.qualname++ ".<locals>." =p.2):jh T (n+1) (Ah (AH f)) ds d:=by
 have h:=hs;simp only[OK,A4,Cu,CR,Bh]at h
 (refine F3 h λi v=>?_;obtain⟨⟨C,z⟩,y⟩:=i)
 refine Dx (Zp a) λEA a=>?_;refine eC O ⟨F.obj,F.tab,F.code,F.Te,F.Cd,z,y,v⟩ e r g l (tZ j) λL=>?_
 ·refine Ex.weak (Sm O (oM O (oN F hs W q) m) _ _ _ _ _ _ a u) λfl pv ⟨e1,e2⟩=>?_;subst e1;rfl
theorem vV(O:Cr T){ps locs Fe:I Bt}(F:Pt T f fd)(W:∀x d,glob x=D d->Kj T x d)
  (a:fd.body=KS body)(e:JI fd ps)(hs:OK fd.scope=J)(l:U ps=U ds)(i:(ps++locs).Nodup)
  (h:ps.all (λx=>kG (CY x fd.scope.names))=J)
  (g:VP (Qy (vS T n m ⟨fd.scope.names,glob,Fe,cq⟩) body (EB ps ds locs) as)=D (JF d,cs))(q:ER cs)(j:∀p,cq=D p->fd.code=p.1/\fd.qualname++ ".<locals>." =p.2):CP T (n+1) (Ah (AH f)) ds d:=
 (bg O F W a e hs l i h g q j).app
theorem JS(O:Cr T){ps locs Fe:I Bt}(F:Pt T f fd)(W:∀x d,glob x=D d->Kj T x d)
  (a:fd.body=KS body)(e:JI fd ps)(hs:OK fd.scope=J)(l:U ps=U ds)(j:(ps++locs).Nodup)
  (i:ps.all (λx=>kG (CY x fd.scope.names))=J)
  (g:VP (Qy (vS T n m ⟨fd.scope.names,glob,Fe,AQ⟩) body (EB ps ds locs) as)=D (JF d,cs))(q:ER cs):CP T (n+1) (Ah (AH f)) ds d:=
 vV O (cq:=AQ) F W a e hs l j i g q (λ_ h=>EN h)
noncomputable def Sn(env:Pc):I (Bt×Et)->I (Bt×Az)->I (Bt×Az)
 |[],cs=>cs
 |p::r,cs=>bif p.2==Bm then Sn env r ((p.1,(env.cells.lookup p.1).getD 0)::cs)else Sn env r cs
theorem ZA(h:∀p∈scope.names,p.2=Bm->(env.cells.lookup p.1).isSome=J):OF scope env=Ce (Sn env scope.names []):=by
 unfold OF;generalize([]:I (Bt×Az))=cs;generalize scope.names=a at h;induction a generalizing cs with
 |nil=>rfl
 |cons p r d=>
  cases p with
  |mk x k=>
   have d:= λcs=>d cs λq i=>h q<|Cb _ i
   dsimp only
   rw[Gu]
   dsimp only
   cases e:k==Bm with
   |true=>
    refine Dx (SN<|h (x,k) (B0 _)<|F7 e) λc g=>?_;rw[Dh B,show ADR env x=Ce c by unfold ADR;rw[g]];simp only[Uy];refine(d _).trans<|BI Ce ?_;show _=bif k==Bm then Sn env r ((x,(env.cells.lookup x).getD 0)::cs)else _
    rw[e,g];rfl
   |false=>
    rw[CQ CD];simp only[Uy];refine(d _).trans<|BI Ce ?_;show _=bif k==Bm then _ else Sn env r cs
    rw[e];rfl
theorem kJ(env:Pc)(a:I (Bt×Et)):∀cs,(∀z d,cs.lookup z=D d->env.cells.lookup z=D d)->(∀p∈a,p.2=Bm->(env.cells.lookup p.1).isSome=J)->(Sn env a cs).lookup y=D c->env.cells.lookup y=D c:=by
 induction a with
 |nil=>exactλcs h _ e=>h y c e
 |cons p r q=>
  intro cs h j e;have e:(bif p.2==Bm then Sn env r ((p.1,(env.cells.lookup p.1).getD 0)::cs)else Sn env r cs).lookup y=D c:=e;cases l:p.2==Bm with
  |true=>
   rw[l]at e;refine q _ (λz d hz=>?_) (λp hp=>j p<|Cb _ hp) e;rw[CE]at hz;cases g:z==p.1 with
   |true=>
    rw[g]at hz;refine Dx (SN<|j p (B0 _)<|F7 l) λu i=>?_;rw[F7 g,i,<-AE hz,i];rfl
   |false=>rw[g]at hz;exact h z d hz
  |false=>rw[l]at e;exact q cs h (λp hp=>j p<|Cb _ hp) e
theorem eh(env:Pc)(a:I (Bt×Et)):∀cs,((y,Bm)∈a\/(cs.lookup y).isSome=J)->((Sn env a cs).lookup y).isSome=true:=by
 induction a with
 |nil=>exactλcs h=>h.resolve_left Au
 |cons p r d=>
  intro cs h;show((bif p.2==Bm then Sn env r ((p.1,(env.cells.lookup p.1).getD 0)::cs)else Sn env r cs).lookup y).isSome=J;cases g:p.2==Bm with
  |true=>
   refine d _ (h.elim (λh=>(DO h).elim (λe=>BC ?_) Ax) λh=>BC ?_)<;>rw[CE]
   ·rw[<-e,Cz];rfl
   ·cases y==p.1 with
    |true=>rfl
    |false=>exact h
  |false=>exact d _<|h.imp_left λh=>(DO h).resolve_left λe=>nY<|(BI (λq:Bt×Et=>q.2==Bm) e).trans g
noncomputable def ei(k:Et)(o:AW Et):NameKind:=bif k==Bm&&o==D BX then BX else k
theorem oO(k:Et)(o:AW Et):ei k o=k\/(k=Bm/\ei k o=BX):=by
 unfold ei;cases h:k==Bm&&o==D BX with
 |true=>exact BC ⟨F7 (Ew h).1,B⟩
 |false=>exact Ax B
noncomputable def IG(a d:I (Bt×Et)):I (Bt×Et):=d.map λp=>(p.1,ei p.2<|CY p.1 a)
theorem O3:(IG a d).lookup y=(CY y d).map λk=>ei k (CY y a):=by
 induction d with
 |nil=>rfl
 |cons p r g=>
  show AFw y ((p.1,ei p.2<|CY p.1 a)::IG a r)=_;rw[CE,Tj];cases e:Jm y p.1 with
  |true=>rw[SV e,sEq_iff.mp e];rfl
  |false=>rw[SW e];exact g
theorem M2(e:env.scope.kind=BY)(d:env.scope.names=a):(relabel scope env).names=IG a scope.names:=by
 skip;refine qG λp hp=>?_;cases p with
 |mk x k=>
  show(if(k==Bm&&env.scope.kind==BY&&env.kindOf x==D BX)=J then(x,BX)else(x,k))=(x,ei k<|CY x a);rw[e,show env.kindOf x=CY x a from FF▸d▸B,show(BY==BY)=J from B,dG];unfold ei;cases k==Bm&&CY x a==D BX<;>rfl
noncomputable def DA(G:GV)(pv:BD):I (Bt×Et)->BD
 |[] =>[]
 |p::r=>bif p.2==Bm then((CY p.1 pv).bind Zl).elim (DA G pv r) λt=>(p.1,mw t)::DA G pv r else DA G pv r
theorem ej(h:p∈DA G pv a):(p.1,Bm)∈a/\ ∃t,p.2=mw t/\CY p.1 pv=D (mw t):=by
 induction a with
 |nil=>exact Ay h Au
 |cons q r i=>
  have h:p∈(bif q.2==Bm then((CY q.1 pv).bind Zl).elim (DA G pv r) λt=>(q.1,mw t)::DA G pv r else DA G pv r):=h;have d:p∈DA G pv r->(p.1,Bm)∈q::r/\ ∃t,p.2=mw t/\CY p.1 pv=D (mw t):= λh=>⟨Cb _ (i h).1,(i h).2⟩;cases g:q.2==Bm with
  |false=>rw[g]at h;exact d h
  |true=>
   rw[g]at h;cases e:(CY q.1 pv).bind Zl with
   |none=>rw[e]at h;exact d h
   |some t=>
    rw[e]at h;rcases DO h with h|h
    ·refine Ap (Eo e) λw e1 e2=>?_;rw[h];exact⟨(show(q.1,Bm)=q from F7 g▸B)▸B0 _,t,B,e1.trans<|BI D<|Wp e2⟩
    ·exact d h
noncomputable def EY(G:GV)(scope:R4):GV:=⟨IG G.names scope.names,G.glob,[],AQ⟩
noncomputable def AD3(ts:I A2)(d:DV):AW BD:=(Jr ts).bind λxs=>(Wo d).bind λds=>bif C8 (U ds) (U xs)then D (xs.zip<|Se ds)else AQ
noncomputable def oP(e:A2)(d:DV):AW BD:=match Mz e with
 |some x=>D [(x,mw d)]
 |none=>(be e).bind λts=>AD3 ts d
noncomputable def Ju:Et->Ba
 |.cell=>J
 |_=>AB
noncomputable def isK(k:Et):AW Et->Ba
 |some a=>a==k
 |none=>AB
theorem UP(h:isK k o=J):o=D k:=by
 cases o with
 |none=>exact Pm h
 |some a=>exact BI D<|Bh.mp h
noncomputable def oQ(x:Bt):I (Bt×Et)->Ba
 |[p] =>Jm p.1 x
 |_=>AB
theorem kK(h:oQ x l=J):∃k,l=[(x,k)] :=by
 cases l with
 |nil=>exact Pm h
 |cons p r=>
  cases r with
  |nil=>exact⟨p.2,BI (λy=>[(y,p.2)])<|sEq_iff.mp h⟩
  |cons _ _=>exact Pm h
noncomputable def oR(scope:R4)(FG:A2):Bool:=match Mz FG with
 |some x=>(isK .local (CY x scope.names)&&scope.names.all λp=> !Ju p.2)||(isK BX (CY x scope.names)&&oQ x (scope.names.filter λp=>Ju p.2))
 |none=>match(be FG).bind Jr with
  |some xs=>(scope.names.all λp=> !Ju p.2)&&((xs.all λx=>isK .local (CY x scope.names))&&Bx xs.Nodup)
  |none=>AB
noncomputable def Rm(G:GV)(scope:R4)(FG:A2):Bool:=
 (scope.kind==BY)&&(oR scope FG&&
 scope.names.all λp=>C9 p.1&&(isK p.2 (CY p.1 scope.names)&&(!(p.2==Bm)||(isK BX (CY p.1 G.names)||isK Bm (CY p.1 G.names)))))
def ek(T:Th)(k:Aj)(G:GV)(pv:BD)(a:I A2)(b:Ba):Prop:=
 ∀env,DG T env G->∀A X ad s Q E,Ar T k A X env pv ad s->
  (∀s',C1 T s.heap s'.heap->Cm T s'->Q b s')->Ao (M T) A (tQ a J λc r=>if r=J then do let d<-uD c env (IC c env);Ce (JG d)else Ce (JG r)) Q E s
theorem vW:ek T k G pv [] true:= λenv K A X ad s Q E R h=>wpAny_tests_nil<|h s (C1.refl _) R.inv
theorem vX(h:∀env,DG T env G->bN T k env pv c b):ek T k G pv [c] b:= λenv K A X ad s Q E R a=>wpAny_tests_one<|h env K A X ad s Q E R a
inductive EO(T:Th)(k:Aj)(G:GV)(cv:BD)(FG:A2)(ifs:I A2)(elt:A2):I DV->I DV->Prop
 |nil:EO T k G cv FG ifs elt [] []
 |skip {d:DV} {tv:BD} {ds vs:I DV} :oP FG d=D tv->ek T k G (tv++cv) ifs AB->EO T k G cv FG ifs elt ds vs->EO T k G cv FG ifs elt (d::ds) vs
 |take {d v:DV} {tv:BD} {ds vs:I DV} :oP FG d=D tv->ek T k G (tv++cv) ifs J->Ms T k G (tv++cv) elt v->EO T k G cv FG ifs elt ds vs->EO T k G cv FG ifs elt (d::ds) (v::vs)
open Mine.EO renaming nil->Mi,skip->ay,take->HL
theorem EO.le(h:EO T k G y FG j u ds vs):U vs<=U ds:=by
 induction h with
 |nil=>exact BO _
 |skip _ _ _ i=>exact IQ i
 |take _ _ _ _ i=>exact Dk i
noncomputable def MQ(e:A2):Bool:= !(C8 e.ctorIdx 7)
theorem Zq(h:MQ e=J):∀x,AFD e env x=Ce x:=by intro x;cases e<;>first|rfl|exact Pm h
end
open Mine.EO renaming nil->Mi,skip->ay,take->HL
inductive AA6(scope:R4):A2->Prop
 |name {x:Bt} {p:LH} :CY x scope.names=D .local->(∀p∈scope.names,p.2≠BX)->AA6 scope (Bu x p)
 |cell {x:Bt} {p:LH} :CY x scope.names=D BX->(∃k,scope.names.filter (λp=>Ju p.2)=[(x,k)])->AA6 scope (Bu x p)
 |tup {ts:I A2} {xs:I Bt} {k:Aj} {p:LH} :Jr ts=D xs->(∀x∈xs,CY x scope.names=D .local)->xs.Nodup->(∀p∈scope.names,p.2≠BX)->AA6 scope (KU ts k p)
structure UQ(G:GV)(scope:R4)(FG:A2):Prop where
 kind:scope.kind=BY
 FG:AA6 scope FG
 ok:∀p∈scope.names,C9 p.1=J
 self:∀p∈scope.names,CY p.1 scope.names=D p.2
 free:∀p∈scope.names,p.2=Bm->CY p.1 G.names=D BX\/CY p.1 G.names=D Bm
theorem oS{a:I (Bt×Et)}(h:(a.all λp=> !Ju p.2)=J):∀p∈a,p.2≠BX:= λp hp q=>by have:=Kz h p hp;rw[q]at this;cases this
theorem qg(h:Rm G d FG=J):UQ G d FG:=by
 refine F3 (Ew h) λu h=>?_;refine F3 (Ew h) λh2 g=>?_;have g:= λp hp=>Ew<|Kz g p hp;refine⟨Bh.mp u,?_,λp hp=>(g p hp).1,λp hp=>UP (Ew (g p hp).2).1,λp hp l=>?_⟩
 ·unfold oR at h2;cases e:Mz FG with
  |some x=>
   rw[e]at h2;refine Dx (K5 e) λp e=>?_;rw[e];rcases MC.mp h2 with h2|h2
   ·exact F3 (Ew h2) λa b=>.name (UP a)<|oS b
   ·exact F3 (Ew h2) λa b=>.cell (UP a)<|kK b
  |none=>
   rw[e]at h2;cases e2:(be FG).bind Jr with
   |none=>rw[e2]at h2;exact Pm h2
   |some xs=>
    rw[e2]at h2;refine Ap (Gd e2) λts r q=>?_;rw[Vp r];refine F3 (Ew h2) λy i=>F3 (Ew i) λi v=>?_;exact .tup q (λx j=>UP<|Kz i x j) (E8 v)<|oS y
 ·rcases MC.mp (Ew (g p hp).2).2 with h|h
  ·rw[l]at h;exact Pm h
  ·exact(MC.mp h).imp UP UP
theorem UQ.cellsOf{FG:A2}(c:UQ G scope FG)(K:DG T env G):∀p∈scope.names,p.2=Bm->(env.cells.lookup p.1).isSome=true:= λp hp h=>K.cells p.1<|by rw[K.kindOf];exact c.free p hp h
theorem OO(h:p∈IG a d):∃k,(p.1,k)∈d/\(k=Bm\/p.2=k):=by refine Ap (JY h) λq g e=>?_;exact e▸(CB q.2 g<|(oO q.2<|CY q.1 a).elim BC λh=>Ax h.1)
theorem ZC(h:CY y d=D Bm):(IG a d).lookup y=D BX\/(IG a d).lookup y=D Bm:=by rw[O3,h];exact(oO Bm<|CY y a).elim (λe=>BC<|BI D e) λe=>Ax<|BI D e.2
theorem Py(d:∀p∈a,p.2≠BX):B3 k a acc=acc/\OA h a=h:=by
 induction a with
 |nil=>exact⟨B,B⟩
 |cons p r ih=>
  have h0: ¬(p.2==BX)=true:= λq=>d p (B0 _)<|F7 q;have ih:=ih λp hp=>d p<|Cb _ hp;exact⟨(CQ h0).trans ih.1,(CQ h0).trans ih.2⟩
theorem ZD(d:a.filter (λp=>Ju p.2)=[(x,l)]):B3 k a acc=(x,k)::acc/\OA h a=h.push {cls:=Ae "cell",data:=mu AQ} :=by
 have i:∀kd,(kd==BX)=Ju kd:= λkd=>by cases kd<;>rfl
 induction a with
 |nil=>cases d
 |cons p r ih=>
  cases e:Ju p.2 with
  |false=>
   rw[List.filter_cons_of_neg<|e▸CD]at d;have ih:=ih d;have h0: ¬(p.2==BX)=true:=(i p.2).trans e▸CD;exact⟨(CQ h0).trans ih.1,(CQ h0).trans ih.2⟩
  |true=>
   rw[List.filter_cons_of_pos (p:= λp:Bt×Et=>Ju p.2) e]at d;have h0:(p.2==BX)=true:=(i p.2).trans e;have j:∀p∈r,p.2≠BX:= λp hp q=>by have g:p∈r.filter (λp=>Ju p.2):=Hv.mpr ⟨hp,q▸B⟩;rw[(HW d).2]at g;exact Ay g Au
   have ih:=Py (k:=k+1) (acc:=(p.1,k)::acc) (h:=h.push {cls:=Ae "cell",data:=mu AQ}) j;exact⟨(Dh h0).trans<|ih.1.trans<|BI (λy=>(y,k)::acc)<|BI CZ (HW d).1,(Dh h0).trans ih.2⟩
theorem AGa(e:scope.kind=BY)
  (h:Q {scope:=scope,locals:=AK s.heap.objs,globals:=env.globals,cells:=B3 (AK s.heap.objs+1) scope.names cl,qual:=env.qual,func:=AQ,code:=env.code,frame:=env.frame,builtins:=env.builtins} {s with heap:=OA (s.heap.push {cls:=Ae "dict",data:=Gr #[] }) scope.names}):
  Ao (M T) A (LM scope env.globals cl [] env.qual AQ AN (D env)) Q E s:=by
 simp only[LM,Option.isSome_some,EU];refine AD<|wpAny_alloc ?_;refine AD<|AIk _ (λname a cells=>by cases d:a==BX<;>simp[d]) _ _ _ _ ?_;rw[show({s with heap:=s.heap.push {cls:=Ae "dict",data:=Gr #[] } } :Bq).heap.objs.size=AK s.heap.objs+1 from EM ..];refine AD ?_;rw[Mw];exact AP<|AP h
theorem kL(c:UQ G scope FG)(K:DG T env G)(d:∀y,(y,Bm)∈scope.names\/(y,BX)∈scope.names->(cl.lookup y).isSome=J):DG T (LN scope cl C env) (EY G scope)where
 kind:=c.kind
 names:=M2 K.kind K.names
 okn:= λp hp=>(by refine Ap (OO hp) λk a _=>?_;exact c.ok (p.1,k) a)
 dO:=K.dO
 blt:=K.blt
 cells:= λy hy=>by
  have g:(LN scope cl C env).kindOf y=(IG G.names scope.names).lookup y:=by rw[<-M2 K.kind K.names];rfl
  have e:∃k,(y,k)∈scope.names/\(k=Bm\/k=BX):=by
   rcases hy with hy|hy<;>rw[g]at hy
   ·refine Ap (OO<|BW hy) λk a h=>?_;rcases h with h|h
    ·exact(CB k a<|Ax h)
    ·exact(CB k a<|BC h.symm)
   ·refine Ap (OO<|BW hy) λk a h=>?_;rcases h with h|h
    ·exact(CB k a<|Ax h)
    ·exact(CB k a<|Ax h.symm)
  refine Ap e λk a h=>?_;rcases h with h|h
  ·subst h;exact d y<|Ax a
  ·subst h;exact d y<|BC a
 glob:=K.glob
 cq:=(λ_ h=>EN h)
theorem A8.snoc(t:Tr T h X d v)(r:A8 T h X ds vs):A8 T h X (ds++[d]) (vs++[v]):=r.append<|Cw t E4
structure kM(C:Az)(CL:I Az)(h:Dw):Prop where
 ns:∃m,h.Ns C m
 cells:∀c∈CL,∃v,h.IsCell c v
theorem kM.up(f:kM C j h)(k:∀a,a=C\/a∈j->∀o,AA h a=D o->AA h' a=D o):kM C j h':=
 ⟨(by refine Dx f.ns λm y=>?_;exact⟨m,y.at' λo e=>k C (Ax B) o e⟩),λc i=>(by refine I9 (f.cells c i) λv o u G=>?_;exact⟨v,o,k c (BC i) o u,G⟩)⟩
theorem kM.soft(f:kM C u h):∀a,a=C\/a∈u->∃o,AA h a=D o/\ ∀vs,o.data≠BF vs:= λa ha=>by
 rcases ha with rfl|ha
 ·refine EX f.ns λm o es y i j _=>?_;exact(CB o i<|by rw[j];exact K3 B)
 ·refine I9 (f.cells a ha) λv o i j=>?_;exact(CB o i<|by rw[j];exact K3 B)
def AGb(T:Th)(env':Pc)(FG:A2)(C:Az)(g:I Az)(e:Az->Prop):Prop:=
 ∀A d tv v s Q E,oP FG d=D tv->A.handled=AQ->Cm T s->Hs T e s.heap->Tr T s.heap e d v->kM C g s.heap->
  (∀s',(∀a o,¬T.Tab a->a≠C->a∉g->AA s.heap a=D o->AA s'.heap a=D o)->Cm T s'->kM C g s'.heap->(∀p∈tv,∃t u,p.2=mw t/\Rd env' s'.heap p.1 u/\Tr T s'.heap e t u)->Q () s')->Ao (M T) A (uG FG env' v) Q E s
theorem K6{h:Dw}(g:h.Ns C m)(j:h.IsCell c v):C≠c:=by rintro rfl;refine FW g λo es l e i _=>?_;refine Ap j λo' d a=>?_;obtain rfl:=AE<|e.symm.trans d;(rw[i]at a;cases a)
theorem qh(O:Cr T)(hC:env'.locals=C)(hk:env'.scope.kind=BY)(xC:X₂ C)(a9:AA T.H1 C=AQ)
  (N:s.heap.Ns C m)(hf:kM C CL s.heap)(g:Cm T s)(ta:A8 T s.heap X₂ ds vs)(hs:∀x∈xs,env'.kindOf x=D .local)(nd:xs.Nodup)(hl:U xs=U ds)(hp:Ds (λt x=> ∀v s Q,Ao (M T) A (Ic env' x v) Q E s->Ao (M T) A (t v) Q E s) ts xs)
  (k:∀s' z,s'.heap.Ns C z->kM C CL s'.heap->Cm T s'->(∀a o,a≠C->AA s.heap a=D o->AA s'.heap a=D o)->(∀p∈xs.zip (Se ds),∃t u,p.2=mw t/\z p.1=D u/\Tr T s'.heap X₂ t u)->(∀y,y∉xs->z y=m y)->Q () s'):Ao (M T) A (AJi ts vs) Q E s:=by
 induction hp generalizing ds vs s m with
 |nil=>exact AP<|k s m N hf g (λ_ _ _ e=>e) IL λ_ _=>B
 | @cons t x ts xs h hr ih=>
  cases ds with
  |nil=>exact Ay hl<|WD _
  |cons d ds=>
  obtain⟨v,b0,rfl,t0,tr⟩:=ta.inv;rw[Cj]at nd;refine AD<|BV<|h _ _ _ ?_;refine L6 (hs x<|B0 _) (hC▸N) (λh₂ i j=>?_)<|by simp[hk]
  rw[hC]at i j;refine FW (id N) λoC b1 b2 a0 a8 _=>?_;have G:=g.turn (s':= {s with heap:=h₂,toks:=s.toks+1}) O a9 (λo e=>by obtain rfl:=AE<|a0.symm.trans e;exact Ax<|by rw[a8];first|exact K3 B|exact RN|exact SR|nofun) λa o L e=>j.extBut a o L e;have up:Up s.heap X₂ h₂ X₂:= λa o e r=>⟨j.extBut a o (λq=>r<|q▸xC) e,r⟩;have l:kM C CL h₂:=⟨⟨_,i⟩,λc hc=>(by refine Dx (hf.cells c hc) λv hv=>?_;exact⟨v,hv.sameBut j<|Gk<|K6 N hv⟩)⟩;refine ih (s:= {s with heap:=h₂,toks:=s.toks+1}) i l G (tr.up O up) (λy hy=>hs y<|Cb _ hy) nd.2 (OB hl) λs' z a1 a2 a3 a4 a5 a6=>?_;refine k s' z a1 a2 a3 (λa o L e=>a4 a o L<|j.extBut a o L e) (λp hp=>?_) λy hy=>?_
  ·rcases DO hp with rfl|hp
   ·refine(Ki d v B (by rw[a6 _ nd.1];simp) ?_);exact(t0.up O up).up O λa o e r=>⟨a4 a o (λq=>r<|q▸xC) e,r⟩
   ·exact a5 p hp
  ·simp only[CV,ADS]at hy;rw[a6 y hy.2];simp[hy.1]
theorem ZE(h:CY y a=D BX):(IG d a).lookup y=D BX:=by rw[O3,h];rfl
theorem AA7(O:Cr T)(K:DG T env G)(c:UQ G scope FG)(xC:X₂ C)(b2:AA T.H1 C=AQ)(c1:∀x,CY x scope.names=D BX->∃b∈CL,cl.lookup x=D b/\X₂ b/\AA T.H1 b=AQ/\CL=[b]):AGb T (LN scope cl C env) FG C CL X₂:=by
 intro A d tv v s Q E L hh g xo t f k;have a8:∀y,(LN scope cl C env).kindOf y=(IG G.names scope.names).lookup y:= λy=>by rw[<-M2 K.kind K.names];rfl
 cases c.FG with
 | @name x p hl hn=>
  obtain rfl:=AE L;refine Dx f.ns λm hm=>?_;have lk:(LN scope cl C env).kindOf x=D .local:=T7<|by rw[<-FF];exact hl
  refine PW<|L6 lk hm (λj r h=>?_)<|by simp[LN,relabel,c.kind]
  skip;skip;refine FW (id hm) λoC c6 c7 b4 b8 _=>?_;have z:=g.turn (s':= {s with heap:=j,toks:=s.toks+1}) O b2 (λo e=>by obtain rfl:=AE<|b4.symm.trans e;exact Ax<|by rw[b8];exact K3 B) λa o ne e=>h.extBut a o ne e;refine k _ (λa o _ ne _ e=>h.extBut a o ne e) z ⟨⟨_,r⟩,λc hc=>(by refine Dx (f.cells c hc) λv hv=>?_;exact⟨v,hv.sameBut h<|Gk<|K6 hm hv⟩)⟩ λq hq=>?_;rw[Cx hq];exact(Ki d v B (Ax ⟨lk,_,r,by simp⟩)<|t.up O λa o e nx=>⟨h.extBut a o (λq=>nx<|q▸xC) e,nx⟩)
 | @cell x p hl hn=>
  obtain rfl:=AE L;refine bI (c1 x hl) λb hb b0 xb c0 b1=>?_;refine Dx (f.cells b hb) λc2 i=>?_;refine Dx f.ns λm hm=>?_;have lk:(LN scope cl C env).kindOf x=D BX:=by rw[a8];exact ZE hl
  refine PW<|T4 c.kind lk b0 i λj l h=>?_;refine Ap (id i) λoB b5 hdB=>?_;have z:=g.turn (s':= {s with heap:=j}) O c0 (λo e=>by obtain rfl:=AE<|b5.symm.trans e;exact Ax<|by rw[hdB];exact K3 B) λa o ne e=>h.extBut a o ne e;refine k _ (λa o _ _ nc e=>h.extBut a o (λq=>nc<|q▸hb) e) z ⟨⟨m,hm.sameBut h<|K6 hm i⟩,λc hc=>?_⟩ λq hq=>?_
  ·rw[b1]at hc;rw[Cx hc];exact⟨_,l⟩
  ·rw[Cx hq];exact(Ki d v B (BC ⟨Ax lk,b,b0,l⟩)<|t.up O λa o e nx=>⟨h.extBut a o (λq=>nx<|q▸xb) e,nx⟩)
 | @tup ts xs kk p hn a0 nd c5=>
  have L:=L;refine Ap (Gd L) λc4 b7 b3=>?_;obtain rfl:=AE<|hn.symm.trans b7;refine Ap (Gd b3) λds hd L=>?_
  ·cases hb:C8 (U ds) (U xs)with
   |false=>(rw[hb]at L;cases L)
   |true=>
    rw[hb]at L;obtain rfl:=AE L;have hlen:=DJ hb;refine NZ (Lx (T:=T) (env:=LN scope cl C env) (A:=A) (E:=E) hn) λn1 n2 n3=>?_;rw[uH];refine AD<|Dq ?_;unfold unpack;rw[n2,n3,<-hlen];refine AD<|BV<|Jt (X:=X₂) O hd hh g xo t λvs c3 N a9 ta=>?_;have f₂:=f.up λa ha o e=>N a o ((by refine Ap (f.soft a ha) λo' b6 b9=>?_;exact g.Bn b6 b9)) e;refine Dx f₂.ns λm hm=>?_;refine qh O (env':=LN scope cl C env) (C:=C) B c.kind xC b2 hm f₂ a9 ta (λx hx=>T7<|by rw[<-FF];exact a0 x hx) nd hlen.symm n1 λs' m' a1 a2 a3 a4 a5 a6=>?_;refine k s' (λa o nt ne _ e=>a4 a o ne<|N a o nt e) a3 a2 λp hp=>?_;refine Bk (a5 p hp) λt' u h1 h2 h3=>?_;refine(Ki t' u h1 (Ax ⟨T7<|by rw[<-FF];exact a0 p.1 (Df (a:=p.1) (b:=p.2) hp).1,m',a1,h2⟩) h3)
theorem bh(a:Aj->Bq->Prop)
  (L:∀n s,a n s->Ao (Gi prog w) A (T8 it) (λr j=>match r with
   |none=>R (zr HK) j
   |some v=>Ao (Gi prog w) A (ND d it v) (λ_ i=>Ao (Gi prog w) A (uG d env v) (λ_ u=>
     Ao (Gi prog w) A (tQ Q J λc r=>if r=J then do let N<-uD c env (IC c env);Ce (JG N)else Ce (JG r)) (λN g=>
      if N=J then Ao (Gi prog w) A (IC a3 env) (λx q=>
       Ao (Gi prog w) A (RV (AS "list.append") [acc,x]) (λ_ l=> ∃m,m<n/\a m l) (Yn (Gi prog w) A env λe s'=>R (ib e) s') q) (Yn (Gi prog w) A env λe s'=>R (ib e) s') g
      else∃m,m<n/\a m g) (Yn (Gi prog w) A env λe s'=>R (ib e) s') u) (Yn (Gi prog w) A env λe s'=>R (ib e) s') i) (Yn (Gi prog w) A env λe s'=>R (ib e) s') j) (Yn (Gi prog w) A env λe s'=>R (ib e) s') s)
  (n:Aj)(h:a n s):
  Mf (Gi prog w) A (.compLoop (Kf a3 [⟨d,O,Q,0⟩] C pos) 0 it acc env) R s:=by
 refine codeAny_loop B a (λn s hI=>?_) n h;show Ao _ A ((compTurn (Kf a3 [⟨d,O,Q,0⟩] C pos) 0 it acc env).onRaise λx=>do aw x env;dU x) _ _ s;refine wpAny_noted ?_;rw[compTurn_list];refine AD<|Dq<|AD<|DF (L n s hI) (λr j z=>?_) λ_ _ h'=>h';cases r with
 |none=>exact AP z
 |some v=>
  refine AD<|DF z (λ_ i G=>?_) λ_ _ h'=>h';refine AD<|DF G (λ_ u a2=>AD<|DF a2 (λN g y=>?_) λ_ _ h'=>h') λ_ _ h'=>h';cases N with
  |false=>exact AP ⟨B,y⟩
  |true=>
   exact AD<|AD<|DF y (λx q a1=>AD<|DF a1 (λ_ l a0=>AP<|AP ⟨B,a0⟩) λ_ _ h'=>h') λ_ _ h'=>h'
structure AD5(T:Th)(n:Aj)(G':GV)(cv:BD)(FG:A2)(ifs:I A2)(elt:A2)(ds vs:I DV)(X₂:Az->Prop)(i9 C d9:Az)(CL:I Az)(St:Aj->Dw->Prop)(h₂:Dw)(i:Aj)(s':Bq):Prop where
 le:i<=U ds
 st:St i s'.heap
 acc:∃ys rs rest,s'.heap.PlainList d9 ys/\A8 T s'.heap X₂ rs ys.toList/\EO T n G' cv FG ifs elt (ds.drop i) rest/\vs=rs++rest
 fr:kM C CL s'.heap
 inv:Cm T s'
 keep:∀a o,AA h₂ a=D o-> ¬T.Tab a->a≠i9->AA s'.heap a=D o
theorem et(c:UQ G scope FG)(h:Dw):∃g,(∀a∈g,a=AK h.objs+1)/\
  kM (AK h.objs) g (OA (h.push {cls:=Ae "dict",data:=Gr #[] }) scope.names)/\(∀a o,AA h a=D o->(OA (h.push {cls:=Ae "dict",data:=Gr #[] }) scope.names).get? a=D o)/\
  (∀x,CY x scope.names=D BX->∃b∈g,(B3 (AK h.objs+1) scope.names cl).lookup x=D b/\g=[b])/\
  (∀y b,cl.lookup y=D b->CY y scope.names=D Bm->(B3 (AK h.objs+1) scope.names cl).lookup y=D b):=by
 have j:(h.push {cls:=Ae "dict",data:=Gr #[] }).Ns (AK h.objs) λ_=>none:=⟨_,#[],0,A1 _ B,B,λ_ N=>by simp at N,λ_=>B⟩;have d:(∀p∈scope.names,p.2≠BX)->∃g,(∀a∈g,a=AK h.objs+1)/\
  kM (AK h.objs) g (OA (h.push {cls:=Ae "dict",data:=Gr #[] }) scope.names)/\(∀a o,AA h a=D o->(OA (h.push {cls:=Ae "dict",data:=Gr #[] }) scope.names).get? a=D o)/\
  (∀x,CY x scope.names=D BX->∃b∈g,(B3 (AK h.objs+1) scope.names cl).lookup x=D b/\g=[b])/\
  (∀y b,cl.lookup y=D b->CY y scope.names=D Bm->(B3 (AK h.objs+1) scope.names cl).lookup y=D b):= λi=>by
  obtain⟨e1,e2⟩:=Py (k:=AK h.objs+1) (acc:=cl) (h:=h.push {cls:=Ae "dict",data:=Gr #[] }) i;rw[e1,e2];refine(bL [] IL ⟨⟨_,j⟩,IL⟩ (λa o e=>AX _ e) (λx C=>?_) λy b e _=>e);exact Ay B<|i _<|FQ C
 cases c.FG with
 |name _ i=>exact d i
 |tup _ _ _ i=>exact d i
 | @cell x p L i=>
  obtain⟨O,v⟩:=i;obtain⟨e1,e2⟩:=ZD (k:=AK h.objs+1) (acc:=cl) (h:=h.push {cls:=Ae "dict",data:=Gr #[] }) v;rw[e1,e2];have hsz:(h.push {cls:=Ae "dict",data:=Gr #[] }).objs.size=AK h.objs+1:=EM ..;refine(bL [AK h.objs+1] (λa r=>Cx r) ⟨⟨_,j.at' λo e=>AX _ e⟩,λa r=>?_⟩ (λa o e=>AX _<|AX _ e) (λy l=>?_) λy b e l=>?_)
  ·rw[Cx r,<-hsz];exact⟨AQ,_,A1 _ B,B⟩
  ·have u:(y,BX)∈scope.names.filter (λp=>Ju p.2):=Hv.mpr ⟨FQ l,B⟩;rw[v]at u;have:=BI CZ<|Cx u
   dsimp only at this
   subst this;exact(K0 _ (by simp) (by simp[CE]) B)
  ·rw[CE];have:(y==x)=false:=by
    cases q:y==x with
    |false=>rfl
    |true=>
     have z:y=x:=by simpa using q
     rw[z,L]at l;cases l
   rw[this];exact e
theorem Zr(O:Cr T)(K:DG T env G)(dN:Rm G scope FG=J)(hs:MQ b1=J)
  (hi:ItG T n env pv b1 ds)(hR:EO T n (EY G scope) (DA G pv scope.names) FG c4 f8 ds vs)(hsz:U ds<=AY)
  {ad:Bt->I Az}(R:Ar T n A X env pv ad s)
  (g6:∀g C s',C1 T s.heap s'.heap->Cm T s'->AA s.heap C=AQ->(∃m,s'.heap.Ns C m)->Tr T s'.heap (Jn X [C]) (AL vs) (AH g)->compPost (M T) A E use Q (AH g) C (zr HK) s'):
  Ao (M T) A (comprehension (Kf f8 [⟨FG,b1,c4,0⟩] scope pos) scope env (firstIterPos [⟨FG,b1,c4,0⟩] pos) (uF []) (firstAsync [⟨FG,b1,c4,0⟩]) (firstIter [⟨FG,b1,c4,0⟩] env) use) Q E s:=by
 have c:=qg dN;refine wpAny_comprehension_free (use:=use) (cl:=Sn env scope.names []) B (Zq hs) (ZA<|c.cellsOf K) c.kind (λy hy hl=>by rw[<-FF,c.self y hy,hl]) ?_;show Ao (M T) A (IC b1 env) _ E s;refine hi A X ad s _ E R λL fp P St s₀ s₂ c5 b8 a8 b7 it=>?_;have b4:=R.ext O c5 b8;refine ET<|AGa c.kind ?_
 dsimp only
 generalize f6:s₂.heap.push {cls:=Ae "list",dict:=AQ,data:=Gz ([]:I Am).toArray} =H2;refine bI (et (cl:=Sn env scope.names []) c H2) λCL i0 h5 c8 c2 c1=>?_;have c9:AK H2.objs=AK s₂.heap.objs+1:=by rw[<-f6,EM]
 generalize j0:OA (H2.push {cls:=Ae "dict",data:=Gr #[] }) scope.names=c3 at h5 c8⊢;generalize j7:B3 (AK H2.objs+1) scope.names (Sn env scope.names [])=i5 at c2 c1⊢;generalize hD:AK s₂.heap.objs=g at c9;generalize hC:AK H2.objs=C at*;have b3:∀a,g<=a->AA s₂.heap a=none:= λa ha=>by
  cases e:AA s₂.heap a with
  |none=>rfl
  |some o'=>have a9:=BS e;rw[hD]at a9;exact Ay a9<|G6.mpr ha
 have fC:=b3 C<|DT [_,_] [.e A9<|.a BQ DB] BQ A9 [-1] B c9;have i4:∀a∈CL,AA s₂.heap a=none:= λa ha=>b3 a<|by rw[i0 a ha];exact DT [_,_] [.e A9<|.a BQ DB] BQ (.a A9 DB) [-1] B c9
 have a0:∀a o,AA s₂.heap a=D o->(a≠C/\a∉CL)/\a≠g:= λa o e=>⟨⟨λq=>EN<|fC.symm.trans<|q▸e,λq=>EN<|(i4 a q).symm.trans e⟩,λq=>EN<|(b3 g<|BO _).symm.trans<|q▸e⟩;have f7:g≠C:= λq=>WE g<|c9.symm.trans q.symm;have h9:g∉CL:= λq=>by have:=i0 g q;exact lnF [_,_] [.e A9<|.a BQ DB,.e BQ<|.a A9 DB] [-1,-1] B c9 this
 have hI1:=Du b8 it.new;have hC1:=Du b7 fC;have d0:∀a∈CL,AA T.H1 a=AQ/\ ¬T.Tab a:= λa ha=>Du b7<|i4 a ha;have hD1:=Du b7<|b3 g<|BO _;refine Ap (it.soft 0 _ it.st) λoI h0 _=>?_;have hIW:=(a0 L oI h0).1;have f5:L≠g:=(a0 L oI h0).2;have d2:∀a o,AA s₂.heap a=D o->AA c3 a=D o:= λa o e=>c8 a o<|f6▸AX _ e;have h8:c3.PlainList g #[] :=⟨_,c8 _ _<|f6▸hD▸A1 _ B⟩
 let X₂:Az->Prop:= λa=>X a\/a=L\/a=g\/a=C\/a∈CL
 have g4:∀a o,AA s₀.heap a=D o-> ¬X a->AA s₂.heap a=D o/\a≠L:= λa o e nx=>⟨a8 a o (λq=>nx<|b4.x.tab a q) e,λq=>by rw[q,it.new]at e;exact EN e⟩;have up:∀h',(∀a o,AA s₂.heap a=D o-> ¬T.Tab a->a≠L->AA h' a=D o)->Up s₀.heap X h' X₂:= λh' c7 a o e nx=>by
  refine F3 (g4 a o e nx) λe2 ne=>?_;refine⟨c7 a o e2 (λq=>nx<|b4.x.tab a q) ne,λq=>?_⟩;rcases q with q|q|q|q|q
  ·exact nx q
  ·exact ne q
  ·exact(a0 a o e2).2 q
  ·exact(a0 a o e2).1.1 q
  ·exact(a0 a o e2).1.2 q
 have K':DG T (LN scope i5 C env) (EY G scope):=kL c K λy hy=>by
  rcases hy with hy|hy
  ·refine Dx (SN<|eh env scope.names []<|Ax hy) λb hb=>?_;rw[c1 y b hb<|c.self _ hy];rfl
  ·refine Dg (c2 y<|c.self _ hy) λb _ hb _=>?_;rw[hb];rfl
 let env':=LN scope i5 C env
 have j6:AGb T env' FG C CL X₂:=AA7 O K c (BC<|BC<|BC<|Ax B) hC1.1 λx hx=>(by refine Dg (c2 x hx) λb h1 h2 h3=>?_;exact(bL b h1 h2 (BC<|BC<|BC<|BC h1) ((d0 b h1).1) h3));have d7:∀s₃,s₃= {s₂ with heap:=c3} ->
   Mf (M T) A (.compLoop (Kf f8 [⟨FG,b1,c4,0⟩] scope pos) 0 (AH L) (AH g) env') (compPost (M T) A E use Q (AH g) C) s₃:=by
  rintro s₃ rfl;have d6:=b7.keeps (s':= {s₂ with heap:=c3}) O d2;refine bh (λq s'=> ∃i,q=U ds-i/\AD5 T n (EY G scope) (DA G pv scope.names) FG c4 f8 ds vs X₂ L C g CL St s₂.heap i s') ?_ (U ds)
   ⟨0,B,D1 _,it.w.frame 0 _ _ it.st λb _ o e=>d2 b o e,(WX (#[]) [] vs h8 (E4) hR B),h5,d6,λa o e _ _=>d2 a o e⟩
  rintro q s' ⟨i,rfl,N⟩;refine EJ N.acc λys rs rest g7 trs hcr d3=>?_;refine Dg (it.soft i _ N.st) λj9 e1 sI _=>?_;have e4:∀(s'':Bq) j,(∀a o,AA s₂.heap a=D o-> ¬T.Tab a->a≠L->AA s''.heap a=D o)->St j s''.heap->kM C CL s''.heap->(∃ys,s''.heap.PlainList g ys)->Hs T X₂ s''.heap:= λs'' j c7 st hf hl=>by
   refine⟨λa ha=>Ax<|b4.x.tab a ha,λa ha=>?_⟩;rcases ha with ha|q|q|ha
   ·rcases b4.x.kind a ha with h|⟨h1,o,ho,so⟩
    ·exact Ax h
    ·have nt:=b8.KA ho so;exact BC ⟨h1,o,c7 a o (a8 a o nt ho) nt λq=>by rw[q,it.new]at ho;exact EN ho,so⟩
   ·rw[q];refine Dg (it.soft _ _ st) λo ho so _=>?_;exact BC ⟨hI1.1,o,ho,so⟩
   ·rw[q];refine E0 hl λj8 n' ho=>?_;exact BC ⟨hD1.1,_,ho,Ax λvs=>by simp⟩
   ·refine Ap (hf.soft a ha) λo ho hd=>?_;exact BC ⟨ha.elim (λq=>q▸hC1.1) λha=>(d0 a ha).1,o,ho,Ax hd⟩
  by_cases a9:i<U ds
  ·refine it.w.item i s' _ _ a9 N.st λv h' tk j5 e5 kp=>?_;have b0:∀a o,a≠L->AA s'.heap a=D o->AA h' a=D o:= λa o ne e=>kp a o (by simpa using ne) e;have Ia:Cm T {s' with heap:=h',toks:=tk} :=N.inv.turn O hI1.1 (λo e=>by obtain rfl:=AE<|e1.symm.trans e;exact sI) b0;refine it.go FG (i+1) {s' with heap:=h',toks:=tk} v _ _ e5 ?_;have c0:∀a o,AA s₂.heap a=D o-> ¬T.Tab a->a≠L->AA h' a=D o:= λa o e nt ne=>b0 a o ne<|N.keep a o e nt ne;have i3:=N.fr.up λa ha o e=>b0 a o (λq=>ha.elim (λh=>hIW.1<|q▸h) λh=>hIW.2<|q▸h) e;have e0:=g7.at λo e=>b0 g o (Gk f5) e;have f9:=e4 {s' with heap:=h',toks:=tk} (i+1) c0 e5 i3 ⟨_,e0⟩;have g1:=it.tr i a9 v j5 h' X₂<|up h' c0;have f4:=E9 a9;rw[f4]at hcr;obtain⟨tv,e9⟩:∃tv,oP FG ds[i] =D tv:=by cases hcr with
    |skip h _ _=>exact⟨_,h⟩
    |take h _ _ _=>exact⟨_,h⟩
   refine j6 A ds[i] tv v {s' with heap:=h',toks:=tk} _ _ e9 R.a.handled Ia f9 g1 i3 λsb kb Ib i2 e8=>?_;have b6:∀a o,AA s₂.heap a=D o-> ¬T.Tab a->a≠L->AA sb.heap a=D o:= λa o e nt ne=>kb a o nt (a0 a o e).1.1 (a0 a o e).1.2<|c0 a o e nt ne;have i7:=up sb.heap b6;have g3:=it.w.frame (i+1) _ _ e5 λb hb o e=>by
    by_cases b5:b=L
    ·exact kb b o (b5▸hI1.2) (b5▸hIW.1) (b5▸hIW.2) e
    ·(refine F3 (it.fp b hb b5) λe3 nt=>?_;obtain⟨ob,f1⟩:=e3)
     have y:=(a0 b ob<|a8 b ob nt f1).1;exact kb b o nt y.1 y.2 e
   have d9:=e0.at λo e=>kb g o hD1.2 f7 h9 e
   let d5:Bt->I Addr:= λ_=>[]
   have Rb:Ar T n A X₂ env' (tv++DA G pv scope.names) d5 sb:=by
    refine⟨R.a,Ib,e4 _ (i+1) b6 g3 i2 ⟨_,d9⟩,λp hp=>?_⟩;rcases IF hp with hp|hp
    ·refine Bk (e8 p hp) λt u h1 h2 h3=>?_;unfold NK;rw[h1];exact(CB u h2 h3)
    ·refine nR (ej hp) λhf t ht hl=>?_;obtain⟨y,w⟩:=p
     dsimp only at hf ht hl
     subst ht;refine Ap (b4.f _<|FQ hl) λu ru tu=>?_;refine⟨u,?_,tu.up O i7⟩;have hk:=c.free _ hf B
     dsimp only at hk
     rcases ru with⟨f3,_⟩|⟨_,cc,j3,j1⟩
     ·rw[K.kindOf]at f3;rcases hk with hk|hk<;>((rw[hk]at f3;cases f3))
     ·have hn:env'.kindOf y=(IG G.names scope.names).lookup y:=by rw[<-M2 K.kind K.names];rfl
      have j2:env'.cells.lookup y=D cc:=by refine Dx (SN<|eh env scope.names []<|Ax hf) λc' h7=>?_;have:=kJ env scope.names [] (λz d hz=>by exact EN hz) (c.cellsOf K) h7;rw[j3]at this;obtain rfl:=AE this;exact c1 y cc h7<|c.self _ hf
      refine Ap j1 λoc d4 h6=>?_;have g5:=b8.Bn d4<|by rw[h6];exact K3 B
      have j4:cc≠L:= λq=>by rw[q,it.new]at d4;exact EN d4
      exact BC ⟨by rw[hn];exact ZC<|c.self _ hf,cc,j2,⟨oc,b6 cc oc (a8 cc oc g5 d4) g5 j4,h6⟩⟩
   have d1:∀sc,C1 T sb.heap sc.heap->Cm T sc->Hs T X₂ sc.heap/\St (i+1) sc.heap/\sc.heap.PlainList g ys/\kM C CL sc.heap/\(∀a o,AA s₂.heap a=D o-> ¬T.Tab a->a≠L->AA sc.heap a=D o)/\Up s'.heap X₂ sc.heap X₂:= λsc xc ic=>by
    have c6:∀a o,AA s₂.heap a=D o-> ¬T.Tab a->a≠L->AA sc.heap a=D o:= λa o e nt ne=>xc a o nt<|b6 a o e nt ne;have g2:=it.w.frame (i+1) _ _ g3 λb hb o e=>by
     by_cases b5:b=L
     ·exact xc b o (b5▸hI1.2) e
     ·exact xc b o (it.fp b hb b5).2 e
    have g8:=d9.at λo e=>xc g o hD1.2 e;have i1:=i2.up λa ha o e=>xc a o (ha.elim (λq=>q▸hC1.2) λha=>(d0 a ha).2) e;refine⟨e4 sc (i+1) c6 g2 i1 ⟨_,g8⟩,g2,g8,i1,c6,λa o e nx=>⟨?_,nx⟩⟩;have nt: ¬T.Tab a:= λq=>nx<|Ax<|b4.x.tab a q;have nI:a≠L:= λq=>nx<|BC<|Ax q;exact xc a o nt<|kb a o nt (λq=>nx<|BC<|BC<|BC<|Ax q) (λq=>nx<|BC<|BC<|BC<|BC q)<|b0 a o nI e
   have k0:U rs+U rest<=U ds+U rs:=by have:=hcr.le;simp only[Ac,Eg]at this;exact AO (F0 (AO this<|AO (B8 (jd a9).symm)<|LJ ..) _)<|B8<|Pb ..
   cases hcr with
   |skip b9 ht hr=>
    rw[e9]at b9;obtain rfl:=AE b9;refine ht env' K' A X₂ d5 _ _ _ Rb λsc xc ic=>?_;obtain⟨a1,a2,a3,a4,a5,a6⟩:=d1 sc xc ic;simp only[DW,Ho];exact⟨U ds-(i+1),dg a9,i+1,B,a9,a2,(WX ys rs rest a3 (trs.up O a6) hr d3),a4,ic,a5⟩
   | @take _ v' _ _ e6 b9 ht he hr=>
    rw[e9]at b9;obtain rfl:=AE b9;refine ht env' K' A X₂ d5 _ _ _ Rb λsc xc ic=>?_;simp only[EU];refine he env' K' A X₂ d5 sc _ _ (Rb.ext O xc ic) λr sd xd id td=>?_;obtain⟨a1,a2,a3,a4,a5,a6⟩:=d1 sd (xc.trans xd) id;have i8:AK ys<=sizeLine:=by have h1:=trs.length;have h2:=hR.le;rw[d3]at h2;simp only[Array.length_toList,Ad,Ac]at h1 h2;exact DT [_,_,_,_,_] [.l A9 BQ,.e B5 Jj,.l (.a Jj<|.a df DB) A9] B5 BQ [1,1,1] B hsz h1 h2
    refine wpAny_list_append_plain (hsz:=i8) a3 λd8 f2 b2=>?_;have ie:=id.turn (s':= {sd with heap:=d8}) O hD1.1 (λo e=>by refine Dx a3 λn' i9=>?_;obtain rfl:=AE<|i9.symm.trans e;exact Ax λvs=>by simp) λa o ne e=>b2.extBut a o ne e;have g0:Up sd.heap X₂ d8 X₂:= λa o e nx=>⟨b2.extBut a o (λq=>nx<|BC<|BC<|Ax q) e,nx⟩;refine⟨U ds-(i+1),dg a9,i+1,B,a9,?_,(WX (ys.push r) (rs++[v']) e6 f2 ?_ hr<|by rw[d3];simp),?_,ie,λa o e nt ne=>b2.extBut a o (a0 a o e).2<|a5 a o e nt ne⟩
    ·refine it.w.frame (i+1) _ _ a2 λb hb o e=>b2.extBut b o (λq=>?_) e;by_cases b5:b=L
     ·exact f5<|b5▸q
     ·(refine F3 (it.fp b hb b5) λe3 nt=>?_;obtain⟨ob,f1⟩:=e3)
      exact(a0 b ob<|a8 b ob nt f1).2 q
    ·rw[Array.toList_push];exact A8.snoc (td.up O g0)<|(trs.up O a6).up O g0
    ·exact a4.up λa ha o e=>b2.extBut a o (λq=>ha.elim (λh=>f7<|q▸h) λh=>h9<|q▸h) e
  ·have h4:i=U ds:=by have:=N.le;exact Yb [_,_] [.q A9 BQ,.l A9 BQ] A9 BQ [0,1] [1,0] B B a9 this
   refine it.w.done s' _ _ (h4▸N.st) λh' tk kp=>?_;have b0:∀a o,a≠L->AA s'.heap a=D o->AA h' a=D o:= λa o ne e=>kp a o (by simpa using ne) e;have Ia:Cm T {s' with heap:=h',toks:=tk} :=N.inv.turn O hI1.1 (λo e=>by obtain rfl:=AE<|e1.symm.trans e;exact sI) b0;have f0:rest=[] :=by rw[h4,zT]at hcr;cases hcr;rfl
   have g9:vs=rs:=by rw[d3,f0,Fi]
   have e7:∀a o,AA s₂.heap a=D o-> ¬T.Tab a->a≠L->AA h' a=D o:= λa o e nt ne=>b0 a o ne<|N.keep a o e nt ne;refine g6 g C {s' with heap:=h',toks:=tk} (c5.trans λa o nt e=>e7 a o (a8 a o nt e) nt λq=>by rw[q,it.new]at e;exact EN e) Ia (OM (c5.trans a8) b7 fC) ?_ ?_
   ·refine Dx N.fr.ns λm hm=>?_;exact⟨m,hm.at' λo e=>b0 C o (Gk hIW.1) e⟩
   ·have i6:Up s'.heap X₂ h' (Jn X [C]):= λa o e nx=>⟨b0 a o (λq=>nx<|BC<|Ax q) e,λq=>q.elim (λq=>nx<|Ax q) λq=>nx<|BC<|BC<|BC<|Ax<|Cx q⟩;rw[g9];refine dD (vs:=ys.toList) ?_ (λq=>?_)<|trs.up O i6
    ·have:=(g7.at (h':=h') λo e=>b0 g o (Gk f5) e).isList;simpa using this
    ·rcases q with q|q
     ·rcases b4.x.kind g q with h|⟨_,o,ho,so⟩
      ·exact hD1.2 h
      ·have:=a8 g o (b8.KA ho so) ho;rw[b3 g<|BO _]at this;exact EN this
     ·exact f7<|Cx q
 refine codeAny_compStart_list (d7 _ B)<|it.w.self 0 _ _ _ (it.w.frame 0 _ _ it.st λb _ o e=>d2 b o e)<|d7 _ B
theorem AA8(O:Cr T)(K:DG T env G)(dN:Rm G scope FG=J)(hs:MQ h=J)
  (hi:ItG T n env pv h ds)(hR:EO T n (EY G scope) (DA G pv scope.names) FG j y ds vs)(hsz:U ds<=AY):Ev T n env pv (Kf y [⟨FG,h,j,0⟩] scope pos) (AL vs):=by
 intro A X ad s Q E R k;rw[eval_ListComp];refine Zr O K dN hs hi hR hsz R λd C s' x i N r t=>?_;refine Dx r λm L=>?_;refine⟨m,L,λv g=>?_⟩;have hC1:=Du R.inv N;refine FW (id L) λoC a0 a1 l u _=>?_;have I':=i.turn (s':= {s' with heap:=v}) O hC1.1 (λo e=>by obtain rfl:=AE<|l.symm.trans e;exact Ax<|by rw[u];exact K3 B) λa o ne e=>g.extBut a o ne e;refine k _ _ (λa o nt e=>g.extBut a o (λq=>by rw[q,N]at e;exact EN e)<|x a o nt e) I' ?_;exact t.up O λa o e z=>⟨g.extBut a o (λq=>z<|BC<|by simp[q]) e,λq=>z<|Ax q⟩
theorem Sx.AHX(O:Cr T){ad:Bt->I Az}(i:Sx T n A (Jn X [C]) env pv Z ad s)(hm:s.heap.Ns C m)(hs:Hg C s.heap h')(nX: ¬X C)(nL:env.locals≠C)(nA:∀ {f} y o,(y,BP f o)∈pv->C∉ad y)(h1:AA T.H1 C=AQ)(nZ:Z C=AQ)(L:∀a,T.Tab a->X a):
  Sx T n A X env pv Z ad {s with heap:=h'} :=by
 refine FW (id hm) λoC a8 a9 a2 a6 _=>?_;have I':=i.inv.turn (s':= {s with heap:=h'}) O h1 (λo e=>by obtain rfl:=AE<|a2.symm.trans e;exact Ax<|by rw[a6];first|exact K3 B|exact RN|exact SR|nofun) λa o ne e=>hs.extBut a o ne e;have up:Up s.heap (Jn X [C]) h' X:= λa o e nx=>⟨hs.extBut a o (λq=>nx<|BC<|by simp[q]) e,λq=>nx<|Ax q⟩;have j:∀ {c v},s.heap.IsCell c v->h'.IsCell c v:= λ {c v} h=>h.sameBut hs<|Gk<|K6 hm h;have Q:∀ {m},s.heap.Ns env.locals m->h'.Ns env.locals m:= λ {m} h=>h.sameBut hs nL;have rd:∀ {y u},Rd env s.heap y u->Rd env h' y u:=by
  rintro y u (⟨hk,m,hm,G⟩|⟨hk,c,hc,G⟩)
  ·exact Ax ⟨hk,m,Q hm,G⟩
  ·exact BC ⟨hk,c,hc,j G⟩
 refine⟨⟨i.a,I',⟨L,λa ha=>?_⟩,λp hp=>?_⟩,⟨i.wr.nd,(by refine Dx i.wr.ns λm h=>?_;exact⟨m,Q h⟩),?_,i.wr.zl,λy c g1 g2=>?_,i.wr.apart,i.wr.own,i.wr.inj,λa o e t=>hs.extBut a o (λq=>by rw[q,nZ]at e;exact EN e)<|i.wr.keep a o e t,i.wr.base⟩⟩
 ·rcases i.x.kind a (Ax ha)with h|⟨g1,o,g2,g3⟩
  ·exact Ax h
  ·exact BC ⟨g1,o,hs.extBut a o (λq=>nX<|q▸ha) g2,g3⟩
 ·have N:=i.f p hp;obtain⟨y,w⟩:=p;cases w with
  |no=>trivial
  |d t=>refine Ap N λu r tr=>?_;exact⟨u,rd r,tr.up O up⟩
  |own fx ow=>
   refine FD N λr xa w a5=>?_;exact⟨rd r,λb hb=>(xa b hb).elim id λq=>Ay (Cx q▸hb)<|nA y ow hp,w.up O up λb hb o ho=>hs.extBut b o (λq=>nA y ow hp<|q▸hb) ho,a5⟩
 ·exact i.wr.xl.elim id λq=>Ay (Cx q) nL
 ·(refine F3 (i.wr.cell y c g1 g2) λa0 a1=>?_;obtain⟨v,G⟩:=a0)
  exact⟨⟨v,j G⟩,a1.imp (λa4=>(by refine F3 a4 λr1 r2=>?_;exact⟨r1.elim id λq=>Ay (Cx q).symm<|K6 hm G,r2⟩)) λa3=>(by refine F3 a3 λq nx=>?_;exact⟨q,λh=>nx<|Ax h⟩)⟩
theorem VQ(O:Cr T)(K:DG T env G)(hx:(JK G x&&nf pv x)=J)(dN:Rm G scope FG=J)(hs:MQ g=J)
  (hi:ItG T n env pv g ds)(hR:EO T n (EY G scope) (DA G pv scope.names) FG z a0 ds vs)(hsz:U ds<=AY)
  (a2:HC (Kf a0 [⟨FG,g,z,0⟩] scope a1) (D (Bu x px)) pos.line env=Ce J)(kR:R Aq (D3 x (mw (AL vs)) pv)):SX T n env pv (Fg [Bu x px] (Kf a0 [⟨FG,g,z,0⟩] scope a1) pos) R:=by
 intro A X Z ad s Q E a KQ KE;rw[exec_Assign_Name_used _ _ _ _ a2];refine AD<|Dq<|AD ?_;skip;refine AD<|DF (Zr (use:=D<|uG (Bu x px) env) (Q:= λ_ s'=>Q HK s') O K dN hs hi hR hsz a.toAr λd C s' xe i j a5 t=>?_) (λ_ s' hq=>AP<|AP hq) λ_ _ e=>e;refine Dx a5 λm hm=>?_;refine FW (id hm) λoC b4 b6 a4 a6 _=>?_;have hC1:=Du a.inv j;obtain⟨S',hu⟩:=a.grow O xe i (F:=[C]) (λb hb=>by rw[Cx hb];exact j) λb hb=>by rw[Cx hb];exact(CB oC a4<|Ax<|by rw[a6];nofun)
 skip;refine PW<|SY (pv:=mw<|AL vs) (Ez:=ad) O S' (λh' up _ r=>⟨_,r,t.up O up⟩) (λo e=>by cases e) (λ_ _=>B) K.kind ⟨K.stores (Ew hx).1,Nf (Ew hx).2⟩ λa9 up u a8=>?_;obtain⟨mL,oL,b3,b5,a3,b1,b0⟩:=a.wr.ns;have nL:env.locals≠C:= λq=>by rw[<-q,a3]at j;exact Tt j
 have l:∀y c,env.kindOf y=D BX->env.cells.lookup y=D c->C≠c:= λy c h1 h2 q=>by obtain⟨⟨v,oc,hc,_⟩,_⟩:=a.wr.cell y c h1 h2;rw[q,hc]at j;exact Tt j
 have N:=hm.at' λo e=>(u C (Gk nL) l).trans e;refine(CB m N λb2 L=>?_);refine KQ Aq HK _ X ad _ kR .refl Mg<|a8.AHX O N L (λq=>?_) nL (λ {f} y o hy hb=>?_) hC1.1 (MN a.inv a.wr j) a.x.tab
 ·rcases a.x.kind C q with h|⟨_,o,ho,_⟩
  ·exact hC1.2 h
  ·exact EN<|j.symm.trans ho
 ·rcases Nd a.wr.nd _ hy with e|⟨e,_⟩
  ·cases e
  ·obtain⟨_,_,w,_⟩:=a.f _ e;obtain⟨ob,g1,_⟩:=w.fields C hb;exact EN<|j.symm.trans g1
theorem Ep:AY<2^62:=by rw[Ak];decide
theorem A8.at(t:A8 T h X ds vs){k:Aj}(e:ds[k]? =D d):∃v,vs[k]? =D v/\Tr T h X d v:=by
 refine Dx (Pl e) λj e1=>?_;have i:k<U vs:=by rw[t.length];exact j
 exact(CB (vs[k]) (AR i)<|e1▸t.get k j i)
theorem vY(h:a<=AY):(a:Aa)<2^63:=Kd.mpr<|Bj h<|Ak▸(by decide:16777216<2^63)
theorem ACz{k:Aa}(h0:0<=k)(h:Bp k<a)(hz:a<=AY):k<2^63:=Int.lt_trans (ACp h0 h)<|vY hz
theorem Er{k:Aa}(h0:0<=k)(i:ds[Bp k]? =D d)(hz:U ds<=AY):CC T n (AL ds) (AM k) d:=by
 intro A X s u v Q E a e x t1 t2 K
 (refine Dx t2.inv λtk r=>?_;subst r)
 (refine BU t1.inv λ_ _ h hl y q=>?_;subst h)
 ·refine Ap (q.at i) λw l j=>?_;refine⟨"list","list.__getitem__",Yo.lookup,hl.typeIs,?_⟩;have g:Bp k<U ds:=(Pl i).1;have:=Ep;exact ADT hl h0 (ACz h0 g hz) (by simpa using l)<|K w s (C1.refl _) e j
theorem vZ{d:DV}(h0:0<=k)(i:ds[Bp k]? =D d)(hz:U ds<=AY):CC T n (FI ds) (AM k) d:=by
 intro A X s u v Q E a e x t1 t2 K
 (refine Dx t2.inv λtk y=>?_;subst y)
 (refine BU t1.inv λ_ _ h hl z ha=>?_;subst h)
 ·refine Ap (ha.at i) λw q l=>?_;refine⟨"tuple","tuple.__getitem__",F.slot_tuple_getitem.lookup,hl.typeIs,?_⟩;have g:Bp k<U ds:=(Pl i).1;have:=Ep;have hlen:=ha.length;refine AHv hl (ix (by decide) h0) (ACz h0 g hz) (j:=Bp k) ?_ (by simpa using q)<|K w s (C1.refl _) e l;unfold seqIndex?;have r:=Tu.mpr h0;simp only[r,Ho,Ab,A4,CX];rw[Dh ⟨h0,ACp h0<|FN g hlen.symm⟩]
theorem W0{k:Aa}(h0:0<=k)(g:k<U b)(hz:U b<=AY):CC T n (AJ b) (AM k) (AM (b.getD (Bp k) 0).toNat):=by
 intro A X s u v Q E a d x t1 t2 K
 (refine Dx t2.inv λtk h=>?_;subst h)
 (refine Dx t1.inv λi e=>?_;subst e)
 ·refine⟨"bytes","bytes.__getitem__",Q6.lookup,Ek _ _ _,?_⟩;have:=Ep;have hs:=Ak;exact getItem_bytes (by exact AO (by assumption)<|by decide) h0 g<|K _ _ (C1.refl _) (d.toks _)<|dC _ _
theorem FR(hz:U ds<=AY):CP T n (Ah (AS "len")) [AL ds] (AM (U ds)):=by
 intro A X s f vs Q E a d x tf ta K;obtain rfl:=tf.inv
 (refine Bk ta.inv λ_ _ g t r=>?_;subst g)
 ·obtain rfl:=r.inv
  (refine BU t.inv λ_ _ g h i ha=>?_;subst g)
  ·have:=Ep;have e:=ha.length;refine AHw h (by simp only[Ab];exact vY<|AO (B8 e) hz) ?_;simp only[Ab,e];exact K _ _ (C1.refl _) (d.toks _)<|dC _ _
theorem ZF(hz:U b<=AY):CP T n (Ah (AS "len")) [AJ b] (AM (U b)):=by
 intro A X s f vs Q E a d x tf ta K;obtain rfl:=tf.inv
 (refine Bk ta.inv λ_ _ e t r=>?_;subst e)
 ·obtain rfl:=r.inv
  (refine Dx t.inv λh g=>?_;subst g)
  ·have:=Ep;refine call_len_gives (Ek s _ h) FB.slot_bytes_len FB.entry_bytes_len (FB.args_bytes_len_1 _) (gives_bytes_len _ h) (by simp only[Ab];exact ADg) (by simp only[Ab];exact AIW.mpr<|vY hz) ?_;simp only[Ab];exact K _ _ (C1.refl _) (d.toks _)<|dC _ _
noncomputable def AZ(ns:I Aa):I DV:=ns.map AM
theorem W1:∀ {ns:I Aa} {vs:I Am},A8 T h X (AZ ns) vs->AFE vs ns:=by
 intro ns;induction ns with
 |nil=>
  exact @λ_ t=>by obtain rfl:=t.inv;exact .nil
 |cons n r e=>
  exact @λ_ t=>by
   (refine Bk t.inv λ_ _ d a b=>?_;subst d)
   ·cases a;exact .cons _ _<|e b
noncomputable def IU(ns:I Aa):I UInt8:=ns.map λn=>n.toNat.toUInt8
theorem Pz(O:Cr T)(i:∀n∈ns,0<=n/\n<256)(hz:U ns<=AY):CP T n (Ah (Ae "bytes")) [AL (AZ ns)] (AJ (IU ns)):=by
 intro A X s f vs Q E a d x tf ta K;obtain rfl:=tf.inv
 (refine Bk ta.inv λ_ _ g t r=>?_;subst g)
 ·obtain rfl:=r.inv
  (refine BU t.inv λu vs' g j q ha=>?_;subst g)
  ·have e:U vs'=U ns:=by rw[ha.length];simp[AZ]
   exact call_bytes_ints j (W1 ha) i (DT [_,_,_] [.l A9 BQ,.e B5 A9] B5 BQ [1,1] B hz e) a.handled λh' t k h=>K _ _ (C1.of_keeps h) (d.keeps (s':= {s with heap:=h',toks:=k}) O h)<|Vc (IU ns) t
noncomputable def eu(FG:A2)(d:DV)(pv:BD):AW BD:=match Mz FG with
 |some x=>bif nf pv x then D (D3 x (mw d) pv)else AQ
 |none=>(be FG).bind λts=>(Jr ts).bind λxs=>(Wo d).bind λds=>bif C8 (U ds) (U xs)&&Wx pv xs then D (Wn xs ds pv)else AQ
noncomputable def Zs(G:GV)(FG:A2):Bool:=match Mz FG with
 |some x=>JK G x
 |none=>match(be FG).bind Jr with
  |some xs=>KC G xs
  |none=>AB
theorem fA{d:Type}{a r:d}(h:(bif b then D a else AQ)=D r):b=J/\a=r:=by
 cases b with
 |true=>exact⟨B,AE h⟩
 |false=>exact EN h
section
theorem Rn(O:Cr T)(K:DG T env G){ad:Bt->I Az}(i:Zs G FG=J)(hp:eu FG d pv=D EA)(g:Sx T n A X env pv Z ad s)(t:Tr T s.heap X d v)
  (k:∀s',Sx T n A X env EA Z ad s'->Q () s'):Ao (M T) A (uG FG env v) Q E s:=by
 unfold eu at hp;unfold Zs at i;cases e:Mz FG with
 |some x=>
  rw[e]at hp i
  (refine Dx (K5 e) λp h=>?_;subst h)
  (refine F3 (fA hp) λu h=>?_;subst h)
  exact PW<|MJ O g t K.kind ⟨K.stores i,Nf u⟩ k
 |none=>
  rw[e]at hp i;refine Ap (Eo hp) λts e1 hp=>?_;refine Ap (Eo hp) λxs u hp=>?_;refine Ap (Eo hp) λds hd hp=>?_
  (refine F3 (fA hp) λhb h=>?_;subst h)
  have hb:=Ew hb;rw[show(be FG).bind Jr=D xs by rw[e1];exact u]at i;rw[Vp e1,uH];refine NZ (Lx (T:=T) (env:=env) (A:=A) (E:=E) u) λN L C=>?_;refine AD<|Dq ?_;unfold unpack;rw[L,C,<-DJ hb.1];refine AD<|BV<|Jt O hd g.a.handled g.inv g.x t λvs y j q z=>?_;exact Pq O K.kind (g.ext O j q) z (K.Je (Wy i) hb.2) N λl _ r=>k l r
def Ge(T:Th)(k:Aj)(G:GV)(pv:BD)(ss:I Ct)(fl:Fl)(EA:BD):Prop:= ∀env,DG T env G->Ex T k env pv ss (atR fl EA)
def kN(a:Prop)(fl:Fl)(Fh BE:BD):Fl->Prop
 |.next=>a
 |.cont=>a
 |.brk=>fl=Aq/\Fh=BE
 |.ret r=>fl=JF r/\Fh=BE
 |.exc=>Yd
def MR(RS:BD->Prop)(T:Th)(k:Aj)(G:GV)(FG:A2)(body:I Ct)(pv:BD):I DV->Fl->BD->Prop:= λds fl Fh=>
 List.rec (motive:= λ_=>BD->Prop) (λpv=>fl=Aq/\Fh=pv) (λd _ e pv=> ∃Ec,eu FG d pv=D Ec/\((∃a BE,Ge T k G Ec body a BE/\kN (e BE) fl Fh BE a)\/(RS Ec/\fl=mx/\Fh=Ec))) ds pv
theorem MR.inv(h:MR RS T k G FG body pv (d::ds) fl Fh):∃Ec,eu FG d pv=D Ec/\((∃i BE,Ge T k G Ec body i BE/\kN (MR RS T k G FG body BE ds fl Fh) fl Fh BE i)\/(RS Ec/\fl=mx/\Fh=Ec)):=h
theorem MR.nil(h:MR RS T k G FG body pv [] fl Fh):fl=Aq/\Fh=pv:=h
theorem MR.done:MR RS T k G FG body pv [] Aq pv:=⟨B,B⟩
theorem MR.step(a:eu FG d pv=D Ec)(b:Ge T k G Ec body Aq BE)(c:MR RS T k G FG body BE ds fl Fh):MR RS T k G FG body pv (d::ds) fl Fh:=⟨_,a,Ax<|RD _ _ b c⟩
theorem MR.cont(a:eu FG d pv=D Ec)(b:Ge T k G Ec body RW BE)(c:MR RS T k G FG body BE ds fl Fh):MR RS T k G FG body pv (d::ds) fl Fh:=⟨_,a,Ax<|RD _ _ b c⟩
theorem MR.exc(a:eu FG d pv=D Ec)(b:RS Ec):MR RS T k G FG body pv (d::ds) mx Ec:=⟨_,a,BC ⟨b,B,B⟩⟩
abbrev KN:=MR λ_=>Yd
theorem KN.done:KN T k G FG body pv [] Aq pv:=MR.done
theorem KN.step(a:eu FG d pv=D Ec)(b:Ge T k G Ec body Aq BE)(c:KN T k G FG body BE ds fl Fh):KN T k G FG body pv (d::ds) fl Fh:=MR.step a b c
theorem Ei.zG(w:Ei T X h F o)(u:a∈F)(e:AA h a=D ob)(y:ob.data=BF vs):False:=by refine Ap (w.fields a u) λi C j=>?_;obtain rfl:=AE<|e.symm.trans C;exact j _ y
theorem Cm.turns(O:Cr T){wr:I Az}(i:Cm T s)(h1:∀b∈wr,AA T.H1 b=AQ)(y:∀b∈wr,∀o,AA s.heap b=D o->KJ o)(hs:∀a o,a∉wr->AA s.heap a=D o->AA s'.heap a=D o)(e1:s'.os=s.os:=by rfl)(e2:s'.gens=s.gens:=by rfl):Cm T s':=by
 have L:∀b∈wr,¬T.Tab b:= λb Q q=>by refine Ap (i.tab b q) λvs e _=>?_;exact i.KA e (y b Q _ e) q
 refine⟨λa o t e=>hs a o (λq=>by exact EN<|(h1 a q).symm.trans e)<|i.ext a o t e,λa u=>?_,e1.trans i.os,e2▸i.gens⟩;refine Ap (i.tab a u) λvs e t=>?_;exact⟨vs,hs a _ (λq=>L a q u) e,O.Us _ _ _ _ t λc G fs C j N=>hs c G (λq=>by
  rcases y c q _ C with h|h
  ·exact h _ N
  ·exact h.2 j) C⟩
def Wk(o:NU):Prop:=(∃vs,o.data=BF vs)\/(o.cls=Ae "tuple" /\ ∃a n,o.data=Gz a n)
theorem Wk.notDict(w:Wk o)(j:o.data=Gr es u):False:=by rcases w with⟨vs,h⟩|⟨_,i,n,h⟩<;>rw[j]at h<;>cases h
theorem Wk.Ti(w:Wk o)(j:o.data=mu v):False:=by rcases w with⟨vs,h⟩|⟨_,i,n,h⟩<;>rw[j]at h<;>cases h
theorem Ei.AHV(w:Ei T X h F o)(u:a∈F)(e:AA h a=D ob)(y:ob.cls=Ae "tuple")(i:ob.data=Gz j n):False:=by
 rcases w.AHU u e with⟨h,_⟩|⟨_,_,h⟩|h
 ·exact Ay (Uw<|h.symm.trans y)<|by decide
 ·exact HH<|h.symm.trans i
 ·exact HH<|h.symm.trans i
theorem Ei.AE1(w:Ei T X h F o)(j:a∈F)(e:AA h a=D u)(k:Wk u):False:=by
 rcases k with⟨vs,i⟩|⟨C,y,n,i⟩
 ·exact w.zG j e i
 ·exact w.AHV j e C i
def So(h:Dw)(wr:I Az):Prop:= ∀b∈wr,∃o,AA h b=D o/\KJ o/\Wk o
theorem Sx.ADL(O:Cr T){ad:Bt->I Az}{wr:I Az}(i:Sx T n A X env pv Z ad s)(hX:∀b∈wr,X b)(hZ:∀b∈wr,Z b=AQ)(h1:∀b∈wr,AA T.H1 b=AQ)
  (hf:So s.heap wr)(a5:∀b∈wr,∃o,AA s'.heap b=D o/\KJ o)(hs:∀a o,a∉wr->AA s.heap a=D o->AA s'.heap a=D o)(e1:s'.os=s.os:=by rfl)(e2:s'.gens=s.gens:=by rfl):Sx T n A X env pv Z ad s':=by
 have a3:=i.inv.turns O h1 (λb hb o e=>by refine Dg (hf b hb) λo' j so _=>?_;obtain rfl:=AE<|e.symm.trans j;exact so) hs e1 e2;have up:Up s.heap X s'.heap X:= λa o e nx=>⟨hs a o (λq=>nx<|hX a q) e,nx⟩;have Q:∀ {a m},s.heap.Ns a m->a∉wr:=by rintro a m ⟨o,es,ep,G,hd,_⟩ q;refine Dg (hf a q) λo' j _ L=>?_;obtain rfl:=AE<|j.symm.trans G;exact L.notDict hd
 have a2:∀ {a v},s.heap.IsCell a v->a∉wr:=by rintro a v ⟨o,G,hd⟩ q;refine Dg (hf a q) λo' j _ L=>?_;obtain rfl:=AE<|j.symm.trans G;exact L.Ti hd
 have C:∀ {a v},s.heap.IsCell a v->s'.heap.IsCell a v:= λ {a v} h=>let⟨o,G,hd⟩:=h;⟨o,hs a o (a2 h) G,hd⟩;have rd:∀ {y u},Rd env s.heap y u->Rd env s'.heap y u:=by
  rintro y u (⟨hk,m,hm,hv⟩|⟨hk,c,hc,hv⟩)
  ·exact Ax ⟨hk,m,hm.at' λo e=>hs _ o (Q hm) e,hv⟩
  ·exact BC ⟨hk,c,hc,C hv⟩
 refine⟨⟨i.a,a3,⟨i.x.tab,λa ha=>?_⟩,λp hp=>?_⟩,⟨i.wr.nd,?_,i.wr.xl,i.wr.zl,λy c h1 h2=>?_,i.wr.apart,i.wr.own,i.wr.inj,λa o e t=>hs a o (λq=>by exact EN<|(hZ a q).symm.trans e)<|i.wr.keep a o e t,i.wr.base⟩⟩
 ·rcases i.x.kind a ha with h|⟨hn,o,G,so⟩
  ·exact Ax h
  ·by_cases q:a∈wr
   ·refine Ap (a5 a q) λo' j a1=>?_;exact BC ⟨hn,o',j,a1⟩
   ·exact BC ⟨hn,o,hs a o q G,so⟩
 ·have N:=i.f p hp;obtain⟨y,w⟩:=p;cases w with
  |no=>trivial
  |d t=>refine Ap N λu r tr=>?_;exact⟨u,rd r,tr.up O up⟩
  |own fx ow=>
   refine FD N λr xa w a4=>?_;exact⟨rd r,xa,w.up O up λb hb o G=>hs _ o (λq=>(by refine Dg (hf b q) λo' j _ L=>?_;exact w.AE1 hb j L)) G,a4⟩
 ·refine Dx i.wr.ns λm hm=>?_;exact⟨m,hm.at' λo e=>hs _ o (Q hm) e⟩
 ·(refine F3 (i.wr.cell y c h1 h2) λa0 r=>?_;obtain⟨v,hv⟩:=a0)
  exact⟨⟨v,C hv⟩,r⟩
theorem Sx.drop(O:Cr T){ad:Bt->I Az}{wr:I Az}(i:Sx T n A X env pv Z ad s)(hX:∀b∈wr,X b)(hZ:∀b∈wr,Z b=AQ)(h1:∀b∈wr,AA T.H1 b=AQ)
  (hf:So s.heap wr)(hs:∀a o,a∉wr->AA s.heap a=D o->AA s'.heap a=D o)(e1:s'.os=s.os:=by rfl)(e2:s'.gens=s.gens:=by rfl):Sx T n A (λa=>X a/\a∉wr) env pv Z ad s':=by
 have a5:=i.inv.turns O h1 (λb G o e=>by refine Dg (hf b G) λo' j so _=>?_;obtain rfl:=AE<|e.symm.trans j;exact so) hs e1 e2;have a4:∀b∈wr,¬T.Tab b:= λb G=>by refine Dg (hf b G) λo' j so _=>?_;exact i.inv.KA j so
 have N:∀ {a m},s.heap.Ns a m->a∉wr:=by rintro a m ⟨o,es,ep,L,hd,_⟩ q;refine Dg (hf a q) λo' j _ wk=>?_;obtain rfl:=AE<|j.symm.trans L;exact wk.notDict hd
 have a1:∀ {a v},s.heap.IsCell a v->a∉wr:=by rintro a v ⟨o,L,hd⟩ q;refine Dg (hf a q) λo' j _ wk=>?_;obtain rfl:=AE<|j.symm.trans L;exact wk.Ti hd
 have C:∀ {a v},s.heap.IsCell a v->s'.heap.IsCell a v:= λ {a v} h=>let⟨o,L,hd⟩:=h;⟨o,hs a o (a1 h) L,hd⟩;have rd:∀ {y u},Rd env s.heap y u->Rd env s'.heap y u:=by
  rintro y u (⟨hk,m,hm,Q⟩|⟨hk,c,hc,Q⟩)
  ·exact Ax ⟨hk,m,hm.at' λo e=>hs _ o (N hm) e,Q⟩
  ·exact BC ⟨hk,c,hc,C Q⟩
 have up:Up s.heap X s'.heap (λa=>X a/\a∉wr):= λa o e nx=>⟨hs a o (λq=>nx<|hX a q) e,λq=>nx q.1⟩;refine Dx i.wr.ns λm hm=>?_;refine⟨⟨i.a,a5,⟨λa ha=>⟨i.x.tab a ha,λq=>a4 a q ha⟩,λa ha=>?_⟩,λp hp=>?_⟩,⟨i.wr.nd,⟨m,hm.at' λo e=>hs _ o (N hm) e⟩,⟨i.wr.xl,N hm⟩,i.wr.zl,λy c h1 h2=>?_,i.wr.apart,i.wr.own,i.wr.inj,λa o e t=>hs a o (λq=>by exact EN<|(hZ a q).symm.trans e)<|i.wr.keep a o e t,i.wr.base⟩⟩
 ·rcases i.x.kind a ha.1 with h|⟨hn,o,L,so⟩
  ·exact Ax h
  ·exact BC ⟨hn,o,hs a o ha.2 L,so⟩
 ·have a0:=i.f p hp;obtain⟨y,w⟩:=p;cases w with
  |no=>trivial
  |d t=>refine Ap a0 λu r tr=>?_;exact⟨u,rd r,tr.up O up⟩
  |own fx ow=>
   refine FD a0 λr xa w a9=>?_;have ne:∀b∈ad y,b∉wr:= λb G q=>(by refine Dg (hf b q) λo' j _ wk=>?_;exact w.AE1 G j wk);exact⟨rd r,λb G=>⟨xa b G,ne b G⟩,w.up O up λb G o L=>hs _ o (ne b G) L,a9⟩
 ·(refine F3 (i.wr.cell y c h1 h2) λa2 a3=>?_;obtain⟨v,Q⟩:=a2)
  exact⟨⟨v,C Q⟩,a3.imp (λa8=>(by refine F3 a8 λr1 r2=>?_;exact⟨⟨r1,a1 Q⟩,r2⟩)) λa6=>(by refine F3 a6 λq nx=>?_;exact⟨q,λh=>nx h.1⟩)⟩
structure AIy(T:Th)(A:Hk)(X:Az->Prop)(FG:A2)(ds:I DV)(i9:Az)(fp wr:I Az)(Mid:Aj->Am->Dw->Prop)(St:Aj->Dw->Prop)(s₀ s:Bq):Prop where
 frame:∀i h h',St i h->(∀b∈fp,∀o,AA h b=D o->AA h' b=D o)->St i h'
 item:∀i s Q E hi,St i s.heap->
  (∀v h' tk,Mid i v h'->(∀a o,a∉wr->AA s.heap a=D o->AA h' a=D o)->(∀X',(∀a,X' a->T.Tab a\/ ∃o,AA s.heap a=D o)->(∀b∈wr,X' b)->Cm T {s with heap:=h',toks:=tk} ->Up s₀.heap X h' X'->Tr T h' X' ds[i] v)->Q (D v) {s with heap:=h',toks:=tk})->Ao (M T) A (T8 (AH i9)) Q E s
 go:∀i v s Q E,Mid i v s.heap->(∀h',St (i+1) h'->(∀a o,a∉wr->AA s.heap a=D o->AA h' a=D o)->Q () {s with heap:=h'})->Ao (M T) A (ND FG (AH i9) v) Q E s
 done:∀s Q E,St (U ds) s.heap->(∀h' tk,(∀a o,a∉wr->AA s.heap a=D o->AA h' a=D o)->Q AQ {s with heap:=h',toks:=tk})->Ao (M T) A (T8 (AH i9)) Q E s
 st:St 0 s.heap
 new:∀b∈wr,AA s₀.heap b=AQ
 soft:∀i h,St i h->So h wr
 ADN:∀i v h,Mid i v h->So h wr
 fp:∀b∈fp,b∉wr->(∃o,AA s₀.heap b=D o)/\ ¬T.Tab b
def ItZ(T:Th)(n:Aj)(env:Pc)(pv:BD)(FG iter:A2)(ds:I DV):Prop:=
 ∀A X ad s Q E,Ar T n A X env pv ad s->
  (∀a g wr e St s₀ s₂,C1 T s.heap s₀.heap->Cm T s₀->C1 T s₀.heap s₂.heap->Cm T s₂->AIy T A X FG ds a g wr e St s₀ s₂->(∀b∈g,b∉wr-> ¬X b)->Q (AH a) s₂)->
  Ao (M T) A (IC iter env) (λu d=>Ao (M T) A (jH u) Q E d) E s
theorem ItF.toZ(h:ItF T n env pv iter ds):ItZ T n env pv FG iter ds:= λA X ad s Q E R k=>h A X ad s Q E R λj fp P St s₀ C a b c d it ho=>k j fp [j] (λi v h=>St (i+1) h) St s₀ C a b c d
 {frame:=it.w.frame
  item:= λi s Q E hi st G=>it.w.item i s Q E hi st λv h' tk hv L N=>G v h' tk L N λX' _ _ _ u=>it.tr i hi v hv h' X' u
  go:= λi v s Q E st G=>it.go FG (i+1) s v Q E st<|G s.heap st λ_ _ _ e=>e
  done:= λs Q E st G=>it.w.done s Q E st λh' tk N=>G h' tk N
  st:=it.st
  new:= λb y=>by rw[Cx y];exact it.new
  soft:= λi h st b y=>by rw[Cx y];exact(by refine Dg (it.soft i h st) λo h1 h2 h3=>?_;exact(K0 o h1 h2<|Ax h3))
  ADN:= λi v h st b y=>by rw[Cx y];exact(by refine Dg (it.soft (i+1) h st) λo h1 h2 h3=>?_;exact(K0 o h1 h2<|Ax h3))
  fp:= λb y hn=>it.fp b y λq=>hn (by simp[q])} λb y hn=>ho b y λq=>hn<|by simp[q]
inductive AD6(RS:BD->Prop)(T:Th)(n:Aj)(A:Hk)(env:Pc)(G:GV)(FG:A2)(body:I Ct)(ds:I DV)(fl:Fl)(EA:BD)(St:Aj->Dw->Prop)(Zb:Az->AW NU)(X₁:Az->Prop)(wr:I Az)(q:Aj)(s':Bq):Prop
 |mk (i:Aj) (pvj:BD) (Xj:Az->Prop) (adj:Bt->I Az):q=U ds-i->i<=U ds->St i s'.heap->Sx T n A Xj env pvj Zb adj s'->Rj X₁ Xj Zb->(∀b∈wr,Xj b)->MR RS T n G FG body pvj (ds.drop i) fl EA->AD6 RS T n A env G FG body ds fl EA St Zb X₁ wr q s'
open Classical in
theorem AC0 (O:Cr T) (K:DG T env G) (hx:Zs G FG=true) (hs:MQ iter=true) (hi:ItZ T n env pv FG iter ds) (hR:MR RS T n G FG body pv ds fl EA)
  {ad:Str->List Addr} (s9:Sx T n A X env pv Z ad s)
  (KQ:∀fl' f vars' X' Ez s',atR fl EA fl' vars'->Rj X X' Z->bV T s'.heap X' fl' f->Sx T n A X' env vars' Z Ez s'->Q f s')
  (KX:∀Ec X' Zc Ez s',fl= .exc->RS Ec->Sx T n A X' env Ec Zc Ez s'->(∀a o,Z a=some o-> ¬T.Tab a->Zc a=some o)->wpAny (M T) A (execs body env) (λ_ _=>False) (notedBy (M T) A env λe s''=>cameBackBy (M T) A env E e s'') s'):
  wpAny (M T) A (exec (.For FG iter body [] pos) env) Q E s:=by
 refine wpAny_For (hi A X ad s _ _ s9.toAr λi9 fp wr Mid St s₀ s₂ x₀ i₀ x₂ i₂ it hoff=>?_) (Zq hs);have S₀:=s9.ext O x₀ i₀;have hI1:∀b∈wr,T.H1.get? b=none/\ ¬T.Tab b:= λb hb=>Du i₀ (it.new b hb);have hH:∀b∈wr,T.H1.get? b=none:= λb hb=>(hI1 b hb).1;have inS0:∀a,X a->a∉wr:= λa ha q=>by
  rcases S₀.x.kind a ha with h|⟨_,o,ho,_⟩
  ·exact(hI1 a q).2 h
  ·exact EN ((it.new a q).symm.trans ho)
 let bad:Addr->Prop:= λa=>a=env.locals\/(∃y,env.kindOf y=some .cell/\env.cells.lookup y=some a/\X a)\/(∃y f o,(y,PV.own f o)∈pv/\a∈ad y)\/a∈wr
 let Zb:Addr->Option Obj:= λa=>if bad a then none else s₂.heap.get? a
 have zpos:∀a,bad a->Zb a=none:= λa h=>if_pos h;have zneg:∀a,¬bad a->Zb a=s₂.heap.get? a:= λa h=>if_neg h;have zsome:∀a o,Zb a=some o-> ¬bad a/\s₂.heap.get? a=some o:= λa o h=>ug h;have badX:∀a,bad a->X a\/a∈wr:= λa h=>by
  rcases h with h|⟨y,h1,h2,h3⟩|⟨y,_,o,h1,h2⟩|h
  ·exact .inl (h▸s9.wr.xl)
  ·exact .inl h3
  ·exact .inl ((s9.f _ h1).2.1 a h2)
  ·exact .inr h
 let X₁:Addr->Prop:=Jn X wr
 have Sb:Sx T n A X₁ env pv Zb ad s₂:=(S₀.grow O x₂ i₂ it.new λb hb=>(it.soft 0 _ it.st b hb).imp λo h=>⟨h.1,h.2.1⟩).1.reZ (zpos _ (.inl rfl)) (λy c h1 h2 q _=>zpos _ (q.elim (λq=>.inr (.inl (K0 y h1 h2 q))) λq=>.inr (.inr (.inr q)))) (λy o hm b hb _=>zpos _ (.inr (.inr (.inl (Rh y _ o hm hb))))) (λa o e _=>(zsome a o e).2) λa o e t=>(zneg a λq=>by
   rcases badX a q with q|q
   ·rcases s9.x.kind a q with h|⟨h,_⟩
    ·exact t h
    ·exact EN (h.symm.trans e)
   ·exact EN ((hH a q).symm.trans e)).trans (i₂.ext a o t e)
 have zz:∀a o,Z a=some o-> ¬T.Tab a->Zb a=some o:= λa o e t=>(zneg a λq=>by
   rcases q with q|⟨y,h1,h2,h3⟩|⟨y,_,o',h1,h2⟩|q
   ·exact EN (s9.wr.zl.symm.trans (q▸e))
   ·rcases(s9.wr.cell y a h1 h2).2 with⟨_,zc⟩|⟨_,nx⟩
    ·exact EN (zc.symm.trans e)
    ·exact nx h3
   ·exact EN ((s9.wr.own y o' h1 a h2).1.symm.trans e)
   ·exact EN ((it.new a q).symm.trans (S₀.wr.keep a o e t))).trans ((S₀.ext O x₂ i₂).wr.keep a o e t)
 have zn:∀c,¬T.Tab c->Zb c=none->Z c=none:= λc t q=>by
  cases e:Z c with
  |none=>rfl
  |some ob=>exact EN (q.symm.trans (zz _ ob e t))
 have back:∀ {X' Ez s'} {EA:BD},(∀a,X a->Zb a≠none->X' a)->(∀a,X' a->X₁ a\/Zb a=none)->Sx T n A X' env EA Zb Ez s'->Rj X X' Z/\Sx T n A X' env EA Z Ez s':= λ {X' Ez s' EA} hup hnew S'=>by
  refine⟨⟨λa ha hz=>?_,λa ha=>?_⟩,S'.reZ s9.wr.zl (λy c h1 h2 _ q'=>?_) (λy o hm b hb q=>zn b ?_ q) (λa o e t=>S'.wr.keep a o (zz a o e t) t) s9.wr.base⟩
  ·by_cases t:T.Tab a
   ·exact S'.x.tab a t
   ·exact hup a ha λq=>hz (zn a t q)
  ·by_cases t:T.Tab a
   ·exact .inl (s9.x.tab a t)
   ·rcases hnew a ha with(q|q)|q
    ·exact .inl q
    ·exact .inr (zn a t (zpos a (.inr (.inr (.inr q)))))
    ·exact .inr (zn a t q)
  ·(refine F3 (S'.wr.cell y c h1 h2) λz0_ _=>?_;obtain⟨v,oc,hoc,hdc⟩:=z0_)
   exact zn c (S'.inv.Bn hoc (by rw[hdc];exact K3 rfl)) q'
  ·refine FD (S'.f _ hm) λ_ _ w _=>?_;refine Ap (w.fields b hb) λo' h1 h2=>?_;exact S'.inv.Bn h1 h2
 have hZI:∀b∈wr,Zb b=none:= λb hb=>zpos b (.inr (.inr (.inr hb)));refine codeAny_forLoop_any (AD6 RS T n A env G FG body ds fl EA St Zb X₁ wr) ?_ ds.length ⟨0,pv,X₁,ad,rfl,Nat.zero_le _,it.st,Sb,.refl,λb hb=>.inr hb,hR⟩;rintro q s' ⟨i,pvj,Xj,adj,rfl,hi',st,Sj,hu,hXI,hR⟩;by_cases hlt:i<ds.length
 ·refine it.item i s' _ _ hlt st λv h' tk hMid kp htr=>?_;have fm:=it.ADN i v _ hMid;have Sa:=Sj.ADL (s':= {s' with heap:=h',toks:=tk}) O hXI hZI hH (it.soft i _ st) (λb hb=>(fm b hb).imp λo h=>⟨h.1,h.2.1⟩) kp;have upv:Up s₀.heap X h' Xj:= λa o e nx=>by have ne:a∉wr:= λq=>EN ((it.new a q).symm.trans e);have nt: ¬T.Tab a:= λq=>nx (S₀.x.tab a q);have hz:Zb a=some o:=(zneg a λq=>(badX a q).elim nx ne).trans (x₂ a o nt e);exact⟨Sa.wr.keep a o hz nt,λq=>(hu.new a q).elim (λq=>q.elim nx ne) λq=>EN (q.symm.trans hz)⟩
  have tv:=htr Xj (λa ha=>(Sj.x.kind a ha).imp id λh=>h.2.imp λo h=>h.1) hXI Sa.inv upv;refine it.go i v {s' with heap:=h',toks:=tk} _ _ hMid λh'' st' kp'=>?_;have fs:=it.soft (i+1) _ st';have Sg:=Sa.ADL (s':= {s' with heap:=h'',toks:=tk}) O hXI hZI hH fm (λb hb=>(fs b hb).imp λo h=>⟨h.1,h.2.1⟩) kp';have tg:=tv.up O λa o e nx=>⟨kp' a o (λq=>nx (hXI a q)) e,nx⟩
  let Zc:Addr->Option Obj:= λa=>if a∈wr then h''.get? a else Zb a
  have cpos:∀a,a∈wr->Zc a=h''.get? a:= λa h=>if_pos h;have cneg:∀a,a∉wr->Zc a=Zb a:= λa h=>if_neg h;have Sc:=Sg.reZ ((cneg _ (inS0 _ s9.wr.xl)).trans Sg.wr.zl) (λy c h1 h2 _ q'=>(cneg c λq=>by
    (refine F3 (Sg.wr.cell y c h1 h2) λz0_ _=>?_;obtain⟨v,oc,hoc,hdc⟩:=z0_)
    refine Dg (fs c q) λo' ho' _ wk=>?_;exact(Option.some.inj (hoc.symm.trans ho')▸wk).Ti hdc).trans q') (λy o hm b hb q'=>(cneg b λq=>by
    refine FD (Sg.f _ hm) λ_ _ w _=>?_;refine Dg (fs b q) λo' ho' _ wk=>?_;exact w.AE1 hb ho' wk).trans q') (λa o e t=>by
     by_cases q:a∈wr
     ·exact(cpos a q).symm.trans e
     ·exact Sg.wr.keep a o ((cneg a q).symm.trans e) t) λa o e t=>(cneg a λq=>EN ((hH a q).symm.trans e)).trans (Sg.wr.base a o e t)
  have zc':∀a o,Zb a=some o->Zc a=some o:= λa o h=>(cneg a λq=>EN ((hZI a q).symm.trans h)).trans h;have zc:∀a,Zc a=none->Zb a=none:= λa h=>by
   cases e:Zb a with
   |none=>rfl
   |some o=>exact EN (h.symm.trans (zc' a o e))
  refine Ap ((List.drop_eq_getElem_cons hlt▸hR).inv) λEc hset hh=>?_;refine Rn O K hx hset Sc tg λs₅ S₅=>?_;rcases hh with⟨f1,BE,hb,haft⟩|⟨hr,e1,_⟩
  ·refine hb env K A Xj Zc adj s₅ _ _ S₅ (λfl' f vars' X' ad'' s₆ e12 hx' hf S₆=>?_) λe _ _ _ _ e12=>(e12.1▸haft:kN _ fl EA BE .exc).elim;refine F3 (e12) λe1 e2=>?_;subst e1 e2;have u1:=hu.trans ⟨λa ha hz=>hx'.up a ha λq=>hz (zc a q),λa ha=>(hx'.new a ha).imp id (zc a)⟩;have u2:=S₆.reZ (zc _ S₆.wr.zl) (λy c _ _ _ q=>zc c q) (λy o _ b _ q=>zc b q) (λa o e t=>S₆.wr.keep a o (zc' a o e) t) Sb.wr.base;have go:MR RS T n G FG body vars' (ds.drop (i+1)) fl EA->∃m,m<ds.length-i/\AD6 RS T n A env G FG body ds fl EA St Zb X₁ wr m s₆:= λhr=>⟨_,Nat.sub_succ_lt_self _ _ hlt,i+1,_,X',ad'',rfl,hlt,it.frame (i+1) _ _ st' λb hb o e=>?_,u2,u1,λb hb=>hx'.up b (hXI b hb) ?_,hr⟩
   ·cases hf with
    |next=>exact go haft
    |cont=>exact go haft
    |brk=>
     (refine F3 (haft) λe0_ e1_=>?_;subst e0_;subst e1_)
     refine F3 (back (λa h z=>u1.up a (.inl h) z) u1.new u2) λw1 w2=>?_;exact KQ .next .next _ X' ad'' s₆ ⟨rfl,rfl⟩ w1 .next w2
    |ret t=>
     (refine F3 (haft) λe0_ e1_=>?_;subst e0_;subst e1_)
     refine F3 (back (λa h z=>u1.up a (.inl h) z) u1.new u2) λw1 w2=>?_;exact KQ (.ret _) (.ret _) _ X' ad'' s₆ ⟨rfl,rfl⟩ w1 (.ret t) w2
   ·by_cases hbI:b∈wr
    ·exact S₆.wr.keep b o ((cpos b hbI).trans e) (hI1 b hbI).2
    ·(refine F3 (it.fp b hb hbI) λz0_ nt=>?_;obtain⟨ob,hob⟩:=z0_)
     have hz:Zb b=some ob:=(zneg b λq=>(badX b q).elim (hoff b hb hbI) hbI).trans (x₂ b ob nt hob);obtain rfl:=Option.some.inj ((Sg.wr.keep b ob hz nt).symm.trans e);exact S₆.wr.keep b _ (zc' b _ hz) nt
   ·refine Ap (fs b hb) λo ho _=>?_;rw[cpos b hb,ho];exact SR
  ·exact wpAny_mono (KX _ Xj Zc adj s₅ e1 hr S₅ λa o e t=>zc' a o (zz a o e t)) (λ_ _ h=>h.elim) λ_ _ h=>h
 ·obtain rfl:=Nat.le_antisymm hi' (bK hlt);refine it.done s' _ _ st λh' tk kp=>?_
  (refine F3 ((List.drop_length▸hR).nil) λe0_ e1_=>?_;subst e0_;subst e1_)
  have Sd:=Sj.drop (s':= {s' with heap:=h',toks:=tk}) O hXI hZI hH (it.soft _ _ st) kp;refine F3 (back (λa h z=>⟨hu.up a (.inl h) z,inS0 a h⟩) (λa h=>hu.new a h.1) Sd) λw1 w2=>?_;exact wpAny_execs_nil (KQ .next .next _ _ adj _ ⟨rfl,rfl⟩ w1 .next w2)
theorem oU(O:Cr T)(K:DG T env G)(d:Zs G FG=J)(hs:MQ iter=J)(e:ItZ T n env pv FG iter ds)(g:KN T n G FG body pv ds fl EA):
  SX T n env pv (.For FG iter body [] pos) (atR fl EA):= λA X Z ad s Q E a i j=>AC0 O K d hs e g a i λ_ _ _ _ _ _ h=>h.elim
end
noncomputable def GX(fd:T1)(dc pm:Am):FuncData:= {fd with doc:=dc,pyModule:=pm}
def MZ(a:Az):Prop:=a=1136\/a=1257\/a=1269
structure HN(T:Th):Prop where
 O:Cr T
 Tf:∀a o,(a,o)∈Lb.zip K1->∃o',AA T.H1 a=D o'/\U4 o'=o
 glob:∀x v,(x,v)∈Zd->T.mg x=v
 tab:∀a,T.Tab a↔MZ a
 Tg:AA T.H1 1203=D {cls:=Ae "list",data:=Gz (L9 GA 2032).toArray}
noncomputable def kZ:I (Bt×Am):=[(S "len",AS "len"),(S "range",Ae "range"),(S "bytes",Ae "bytes"),(S "sum",AS "sum"),(S "zip",Ae "zip"),(S "divmod",AS "divmod"),(S "isinstance",AS "isinstance"),(S "bool",Ae "bool"),(S "list",Ae "list"),(S "ValueError",Ae "ValueError"),(S "KeyError",Ae "KeyError"),(S "super",Ae "super")]
noncomputable def HA(x:Bt):AW DV:=match Jm x (S "_law_table")with
 |true=>D<|AL<|GA.map AJ
 |false=>(match CY x Zd with
  |some (D v)=>D<|Ah v
  |some AQ=>(match CY x kZ with|some v=>D (Ah v)|none=>AQ)
  |none=>AQ)
theorem vm:∀p∈kZ,uB p.1=D p.2/\p.1≠ "__name__" :=by decide+kernel
theorem bq:∀l t,A8 T h X (l.map AJ) (L9 l t):=by
 intro l;induction l with
 |nil=>
  exactλ_=>E4
 |cons b r a=>
  exactλt=>Cw (Vc b t)<|a<|t+1
theorem B9(P:HN T)(x:Bt)(d:DV)(h:HA x=D d):Kj T x d:=by
 unfold HA at h;cases e:Jm x (S "_law_table")with
 |true=>
  rw[e]at h;obtain rfl:=AE h;obtain rfl:=sEq_iff.mp e;refine⟨AH 1203,Ax<|P.glob _ _<|BJ (i:=2) B,λs X a x=>?_⟩;have g: ¬T.Tab 1203:= λq=>by rcases(P.tab _).mp q with q|q|q<;>cases q
  have l:=a.ext _ _ g P.Tg;refine dD ⟨_,l,B,0,B⟩ (λq=>?_)<|bq _ _;rcases x.kind _ q with q|⟨q,_⟩
  ·exact g q
  ·exact Tt<|P.Tg.symm.trans q
 |false=>
  rw[e]at h
  dsimp only at h
  cases e2:CY x Zd with
  |none=>(rw[e2]at h;cases h)
  |some o=>
   rw[e2]at h;have j:=P.glob _ _<|FQ e2;cases o with
   |some v=>obtain rfl:=AE h;exact⟨v,Ax j,λ_ _ _ _=>ACX v⟩
   |none=>
    dsimp only at h
    cases e3:CY x kZ with
    |none=>(rw[e3]at h;cases h)
    |some v=>
     rw[e3]at h;obtain rfl:=AE h;have:=vm _<|FQ e3;exact⟨v,BC ⟨j,this.1,this.2⟩,λ_ _ _ _=>ACX v⟩
theorem Zu(P:HN T){a c:Az}{st:Ct}{q:Bt}{dflt ct:Am}{Cd:I (Bt×Az)}{fs:Ef Am}(h:(a,(⟨Ae "function",AQ,IB (LP st q Cd dflt (AH c) ct),#[]⟩:NU))∈Lb.zip K1)(g: ¬MZ a):
  ∃dc pm,∃o,AA T.H1 a=D o/\o.data=IB (GX (LP st q Cd dflt (AH c) ct) dc pm):=by
 refine Ap (P.Tf _ _ h) λo e d=>?_;refine Ap (qY d B) λf e1 e2=>?_;exact(Rh f.doc f.pyModule o e<|e1.trans<|BI IB<|by rw[e2];rfl)
theorem vn(P:HN T){a c:Az}{st:Ct}{q:Bt}{dflt:Am}{fs:Ef Am}{t:Tok}(h:(a,(⟨Ae "function",AQ,IB (LP st q [] dflt (AH c) AN),#[]⟩:NU))∈Lb.zip K1)
  (j:(c,(⟨Ae "code",AQ,BF fs,#[]⟩:NU))∈Lb.zip K1)(i:fs[1]? =D (Bz q t))(g: ¬MZ a)(d: ¬MZ c):∃dc pm,Pt T a (GX (LP st q [] dflt (AH c) AN) dc pm):=by
 refine Hr (Zu P (fs:= #[]) h g) λdc pm o x v=>?_;refine Ap (P.Tf _ _ j) λo' u r=>?_;have l:o'.data=BF fs:=BI ADW<|L8 r B B;refine⟨dc,pm,(CB o x v),λq=>g<|(P.tab _).mp q,?_,λb e=>?_,B,B,B⟩
 ·exact⟨c,o',fs,t,B,u,l,i⟩
 ·cases e;exactλq=>d<|(P.tab _).mp q
noncomputable def ED(i:Aj):Ef Value:=match K1[i]?with
 |some ⟨_,_,BF vs,_⟩=>vs
 |_=> #[]
noncomputable def vo:AW Am->AW Bt
 |some (Bz x _)=>D x
 |_=>AQ
noncomputable def DI(a:Aj):Bool:= !(C8 a 1136||C8 a 1257||C8 a 1269)
theorem DI.ok(h:DI a=J): ¬MZ a:=by rintro(rfl|rfl|rfl)<;>exact Pm h
theorem CS(P:HN T)(i:Aj)(a c:Az)(st:Ct)(q:Bt)(dflt:Am)(r:(Lb.zip K1)[i]? =D (a,⟨Ae "function",AQ,IB (LP st q [] dflt (AH c) AN),#[]⟩))
  (l:(Lb.zip K1)[i+1]? =D (c,⟨Ae "code",AQ,BF (ED (i+1)),#[]⟩))(d:vo ((ED (i+1))[1]?)=D q)(j:DI a=J)(h:DI c=J):
  ∃dc pm,Pt T a (GX (LP st q [] dflt (AH c) AN) dc pm):=by
 have:∃t,(ED<|i+1)[1]? =D (Bz q t):=by
  cases e:(ED<|i+1)[1]?with
  |none=>(rw[e]at d;cases d)
  |some v=>
   rw[e]at d;cases v<;>first|((first|exact EN d|obtain rfl:=AE d);done)|(obtain rfl:=AE d;exact⟨_,B⟩)
 refine Dx this λt g=>?_;exact vn P (BJ r) (BJ l) g (DI.ok j)<|DI.ok h
theorem ka{P:I a->Prop}(h:P [])(l:I a)(e:U l=0):P l:=List.eq_nil_of_length_eq_zero e▸h
theorem US{P:I d->Prop}(h:∀a l,U l=n->P (a::l))(l:I d)(e:U l=n+1):P l:=by
 cases l with
 |nil=>exact Ay e.symm<|WD n
 |cons a l=>exact h a l<|OB e
theorem OR(h:∀u,CG fd ⟨[u],[]⟩=Ce [(a,u)]):JI fd [a] := λvs=>US (P:= λvs=>CG fd ⟨vs,[]⟩=Ce (Hw [a] vs)) (λu=>ka (P:= λvs=>CG fd ⟨u::vs,[]⟩=Ce (Hw [a]<|u::vs))<|h u) vs
theorem P9(h:∀u v,CG fd ⟨[u,v],[]⟩=Ce [(a,u),(b,v)]):JI fd [a,b] := λvs=>US (P:= λvs=>CG fd ⟨vs,[]⟩=Ce (Hw [a,b] vs)) (λu=>US (P:= λvs=>CG fd ⟨u::vs,[]⟩=Ce (Hw [a,b]<|u::vs)) λv=>ka (P:= λvs=>CG fd ⟨u::v::vs,[]⟩=Ce (Hw [a,b]<|u::v::vs))<|h u v) vs
theorem br(h:∀u v w,CG fd ⟨[u,v,w],[]⟩=Ce [(a,u),(b,v),(c,w)]):JI fd [a,b,c] := λvs=>US (P:= λvs=>CG fd ⟨vs,[]⟩=Ce (Hw [a,b,c] vs)) (λu=>US (P:= λvs=>CG fd ⟨u::vs,[]⟩=Ce (Hw [a,b,c]<|u::vs)) λv=>US (P:= λvs=>CG fd ⟨u::v::vs,[]⟩=Ce (Hw [a,b,c]<|u::v::vs)) λw=>ka (P:= λvs=>CG fd ⟨u::v::w::vs,[]⟩=Ce (Hw [a,b,c]<|u::v::w::vs))<|h u v w) vs
theorem W9(h:∀u v w x,CG fd ⟨[u,v,w,x],[]⟩=Ce [(a,u),(b,v),(c,w),(d,x)]):JI fd [a,b,c,d] := λvs=>US (P:= λvs=>CG fd ⟨vs,[]⟩=Ce (Hw [a,b,c,d] vs)) (λu=>US (P:= λvs=>CG fd ⟨u::vs,[]⟩=Ce (Hw [a,b,c,d]<|u::vs)) λv=>US (P:= λvs=>CG fd ⟨u::v::vs,[]⟩=Ce (Hw [a,b,c,d]<|u::v::vs)) λw=>US (P:= λvs=>CG fd ⟨u::v::w::vs,[]⟩=Ce (Hw [a,b,c,d]<|u::v::w::vs)) λx=>ka (P:= λvs=>CG fd ⟨u::v::w::x::vs,[]⟩=Ce (Hw [a,b,c,d]<|u::v::w::x::vs))<|h u v w x) vs
noncomputable def fI(j:Aa):Int:=1*2^Bp j
noncomputable def Dj(f k:Aa):Int:=match(f.fdiv 9).fmod 2==1 with
 |true=>BG (fI<|(f+3*k).fmod 9)<|fI<|(f.fdiv 18+5*k).fmod 9
 |false=>fI<|(f+3*k).fmod 9
theorem vp(x:Aa):VO (x.fmod 9)=true:=by
 have d:=Br x (b:=9)<|by decide
 have a:=DC x (b:=9)<|by decide
 simp only[VO,A4,CX];exact⟨d,ix (I5 a)<|by decide⟩
theorem Np(P:HN T)(n:Aj)(f k:Aa):CP T (n+1) (Ah (AH 1215)) [AM f,AM k] (AM (Dj f k)):=by
 refine E0 (CS P 14 1215 1214 (A6 72) (S "_law_turns") AN ⋯ ⋯ ⋯ B B) λdc pm F=>?_;have a:∀b d cs,VP (Qy (vS T n 20 ⟨(D2<|A6 72).names,HA,[],AQ⟩) (Cc<|A6 72) (EB [S "figure",S "k"] [AM f,AM k] [S "mask"]) [.b b])=D (JF d,cs)->ER cs->CP T (n+1) (Ah<|AH 1215) [AM f,AM k] d:= λb d cs h i=>
  JS P.O F (B9 P) B (P9 λu v=>by kernel_rfl!) ⋯ B (by decide+kernel) ⋯ h i
 cases g:(f.fdiv 9).fmod 2==1 with
 |true=>
  have e:Dj f k=BG (fI<|(f+3*k).fmod 9) (fI<|(f.fdiv 18+5*k).fmod 9):=by unfold Dj;rw[g]
  rw[e];refine a J _ [VO ((f+3*k).fmod 9)=J,VO ((f.fdiv 18+5*k).fmod 9)=J,((f.fdiv 9).fmod 2==1)=J] ⋯ ⟨vp _,vp _,g,AI⟩
 |false=>
  have e:Dj f k=fI ((f+3*k).fmod 9):=by unfold Dj;rw[g]
  rw[e];refine a AB _ [VO ((f+3*k).fmod 9)=J,((f.fdiv 9).fmod 2==1)=AB] ⋯ ⟨vp _,g,AI⟩
noncomputable def EZ(k:Aa):I UInt8:=IU [122-k]
theorem XA(P:HN T)(n:Aj)(k:Aa)(h0:0<=k)(d:k<=122):CP T (n+1) (Ah (AH 1248)) [AM k] (AJ (EZ k)):=by
 refine E0 (CS P 24 1248 1247 (A6 77) (S "_law_name") AN ⋯ ⋯ ⋯ B B) λdc pm F=>?_;refine JS (m:=20) (ps:=[S "k"]) (locs:=[]) (Fe:=[]) (as:=[.t<|AJ<|EZ k]) (cs:=[CP T n (Ah<|Ae "bytes") [AL [AM<|122-k]]<|AJ<|EZ k,Bf T<|Ah<|Ae "bytes"])
  P.O F (B9 P) B (OR λu=>by kernel_rfl!) ⋯ B (by decide+kernel) ⋯ ⋯ ⟨Pz P.O (ns:=[122-k]) (by intro i a;simp at a;exact⟨a▸Lm d,a▸Tv (Int.sub_le_self _ h0) (by decide)⟩)<|by rw[Ak];simp,MB,AI⟩
section
set_option tactic.hygienic true
noncomputable def AGc(x:DV):AW Value:=if h:x.ctorIdx=7 then DV.val.elim (motive_1:= λ_=>AW Am) x h D else AQ
theorem AA9(h:AGc x=D r):x=Ah r:=
 let⟨q,h⟩:=Em h
 DV.val.elim (motive_1:= λx=> ∀q,DV.val.elim (motive_1:= λ_=>AW Am) x q D=D r->x=Ah r) x q (λv q h=>AE h▸B) q h
noncomputable def AC1(x:Am):AW String:=if h:x.ctorIdx=8 then Tq (motive:= λ_=>AW Tx) x h D else AQ
theorem vc(h:AC1 x=D r):x=Ae r:=
 let⟨q,h⟩:=Em h
 Tq (motive:= λx=> ∀q,Tq (motive:= λ_=>AW Tx) x q D=D r->x=Ae r) x q (λv q h=>AE h▸B) q h
noncomputable def AGd(o:AW DV):AW String:=o.bind λd=>(AGc d).bind AC1
theorem ABA(h:AGd o=D c):o=D (Ah (Ae c)):=
 let⟨_,e,h⟩:=Gd h
 let⟨_,d,a⟩:=Gd h
 e.trans (BI D<|(AA9 d).trans<|BI Ah<|vc a)
noncomputable def vd(ds:I DV)(as:I Ja):LR (I DV):=match bb ds with
 |some d=>(Ld d).bind λb=>D (Dd 0<|Bp b,[-(2^62)<=b/\b<2^62],as)
 |none=>(kH ds).bind λq=>(Ld q.1).bind λa=>(Ld q.2).bind λb=>D (Dd a (b-a).toNat,[(-(2^62)<=a/\a<2^62)/\ -(2^62)<=b/\b<2^62],as)
noncomputable def AC2(e:A2):AW (A2×I A2×I Mh×LH):=if h:e.ctorIdx=16 then Dr (motive_1:= λ_=>AW<|A2×I A2×I Mh×LH) e h λf as ks cp=>D (f,as,ks,cp)else AQ
theorem ve(h:AC2 e=D q):e=El q.1 q.2.1 q.2.2.1 q.2.2.2:=
 let⟨t,h⟩:=Em h
 Dr (motive_1:= λe=> ∀t,Dr (motive_1:= λ_=>AW<|A2×I A2×I Mh×LH) e t (λf as ks cp=>D (f,as,ks,cp))=D q->e=El q.1 q.2.1 q.2.2.1 q.2.2.2) e t (λa b c d t h=>AE h▸B) t h
noncomputable def AD7:I Mh->Ba
 |[] =>J
 |_=>AB
theorem ABB(h:AD7 l=J):l=[] :=by
 cases l with
 |nil=>rfl
 |cons=>exact Pm h
noncomputable def vf(G:GV)(pv:BD)(e:A2):AW (I A2):=(AC2 e).bind λq=>(Mz q.1).bind λx=>(AGd<|O0 G pv x).bind λc=>bif c== "range" &&AD7 q.2.2.1 then D q.2.1 else AQ
noncomputable def vI(T:Th)(k m:Aj)(G:GV)(pv:BD)(a:A2)(as:I Ja):LR (I DV):=match vf G pv a with
 |some e=>Cs (Rl (vE T k m G pv) e as) vd
 |none=>Cs (vE T k m G pv a as) λd as=>match U5 d with
  |some ds=>D (ds,[],as)
  |none=>(SQ d).bind λds=>D (ds,[],as)
theorem qi(h:vf G pv e=D es):∃f p q,e=El (Bu f p) es [] q/\O0 G pv f=D (Ah (Ae "range")):=by
 refine Ap (Gd h) λq d h=>?_;refine Ap (Gd h) λx a h=>?_;refine Dx (K5 a) λp a=>?_;have d:=ve d;refine Ap (Gd h) λc g h=>?_;cases e1:(c== "range" &&AD7 q.2.2.1)with
 |false=>rw[e1]at h;cases h
 |true=>
  rw[e1]at h;obtain rfl:=AE h;have e1:=Ew e1;refine(Rh x p q.2.2.2 (d.trans ?_)<|Bh.mp e1.1▸ABA g);rw[a,ABB e1.2]
theorem GH.cons_inv(h:GH T k env pv es (d::ds)):∃e r,es=e::r/\GH T k env pv r ds:=by
 cases h with
 |cons a b r=>exact(RD _ _ B r)
theorem GH.nil_inv(h:GH T k env pv es []):es=[] :=by cases h;rfl
theorem vg(O:Cr T)(K:DG T env G):Ok (vI T k m G pv iter as) (ItF T k env pv iter):=by
 have j:=(Io (n:=k) (pv:=pv) O K m).1;unfold vI
 split
 ·rename_i u h
  (refine Hr (qi h) λf p q i l=>?_;subst i)
  refine .bind (JJ j) λds as ha=>?_;unfold vd
  split
  ·rename_i e
   obtain rfl:=M0 e;refine GY λb e=>.one λhc=>?_;obtain rfl:=G8 e
   (refine I9 ha.cons_inv λe r g h1=>?_;subst g)
   obtain rfl:=h1.nil_inv;exact jv O (HZ O K l) ha hc.1.1 hc.1.2
  ·refine GY λw e=>GY λa e1=>GY λb e2=>.one λhc=>?_;obtain rfl:=bf e;rw[G8 e1,G8 e2]at ha
   (refine I9 ha.cons_inv λe1 r g h1=>?_;subst g)
   (refine I9 h1.cons_inv λe2 r g h2=>?_;subst g)
   obtain rfl:=h2.nil_inv;exact jw O (HZ O K l) ha hc.1.1.1 hc.1.1.2 hc.1.2.1 hc.1.2.2
 ·refine .bind (j iter as) λd as h=>?_
  split
  ·rename_i e;exact .pure<|uw O<|MI e▸h
  ·exact GY λds e=>.pure<|AAo O<|Nc e▸h
noncomputable def Gm(x:LR a):AW (a×I Prop):=x.bind λq=>match q.2.2 with
 |[] =>D (q.1,q.2.1)
 |_=>AQ
theorem HM(h:Gm x=D (a,cs)):x=D (a,cs,[]):=by
 (refine Ap (Gd h) λd e h=>?_;obtain⟨b,c,as⟩:=d;subst e)
 cases as with
 |nil=>cases h;rfl
 |cons=>exact EN h
theorem Ok.only(k:Ok x P)(h:Gm x=D (a,cs))(i:ER cs):P a:=k _ _ _ (HM h) i
noncomputable def Kk(e:Ct):Expr:=if h:e.ctorIdx=9 then Qu (motive_2:= λ_=>A2) e h λt _ _ _ _=>t else Bu BN BN
noncomputable def FX(e:Ct):Expr:=if h:e.ctorIdx=9 then Qu (motive_2:= λ_=>A2) e h λ_ i _ _ _=>i else Bu BN BN
noncomputable def DR(e:Ct):I Stmt:=if h:e.ctorIdx=9 then Qu (motive_2:= λ_=>I Ct) e h λ_ _ b _ _=>b else []
noncomputable def W2(e:Ct):Pos:=if h:e.ctorIdx=9 then Qu (motive_2:= λ_=>LH) e h λ_ _ _ _ p=>p else BN
theorem JL(as ds cs){st:Ct}(O:Cr T)(a:st= .For (Kk st) (FX st) (DR st) [] (W2 st))(d:Zs G (Kk st)=J)(hs:MQ (FX st)=J)
  (e:Gm (vI T k 20 G pv (FX st) as)=D (ds,cs))(g:ER cs)(h:KN T k G (Kk st) (DR st) pv ds fl EA):Fn T k G pv st fl EA:= λenv K=>by
 rw[a];exact oU O K d hs ((vg O K).only e g).toZ h
theorem Ee(as cs)(O:Cr T)(h:Gm (Qy (vS T k 20 G) ss pv as)=D ((fl,EA),cs))(a:ER cs):Ge T k G pv ss fl EA:= λenv K=>
 (Sm O (oM O K 20) ss pv as).only h a
noncomputable def FY(e:A2):Expr:=if h:e.ctorIdx=8 then G2 (motive_1:= λ_=>A2) e h λe _ _ _=>e else e
noncomputable def PY(e:A2):Expr:=if h:e.ctorIdx=8 then G2 (motive_1:= λ_=>A2) e h λ_ a _ _=>(match a with|⟨t,_,_,_⟩::_=>t|_=>e)else e
noncomputable def OP(e:A2):Expr:=if h:e.ctorIdx=8 then G2 (motive_1:= λ_=>A2) e h λ_ a _ _=>(match a with|⟨_,i,_,_⟩::_=>i|_=>e)else e
noncomputable def FT(e:A2):I Expr:=if h:e.ctorIdx=8 then G2 (motive_1:= λ_=>I A2) e h λ_ a _ _=>(match a with|⟨_,_,i,_⟩::_=>i|_=>[])else []
noncomputable def Bd(e:A2):Scope:=if h:e.ctorIdx=8 then G2 (motive_1:= λ_=>R4) e h λ_ _ s _=>s else BN
noncomputable def vi(e:A2):Pos:=if h:e.ctorIdx=8 then G2 (motive_1:= λ_=>LH) e h λ_ _ _ p=>p else BN
structure oV(T:Th)(k:Aj)(G:GV)(pv:BD)(e:A2)(vs:I DV):Prop where
 he:e=Kf (FY e) [⟨PY e,OP e,FT e,0⟩] (Bd e) (vi e)
 dN:Rm G (Bd e) (PY e)=J
 hs:MQ (OP e)=J
 run:∃ds,(∀env,DG T env G->ItG T k env pv (OP e) ds)/\EO T k (EY G (Bd e)) (DA G pv (Bd e).names) (PY e) (FT e) (FY e) ds vs/\U ds<=AY
theorem D7(as ds cs)(O:Cr T)(d:e=Kf (FY e) [⟨PY e,OP e,FT e,0⟩] (Bd e) (vi e))(dN:Rm G (Bd e) (PY e)=J)(hs:MQ (OP e)=J)
  (a:Gm (vI T k 20 G pv (OP e) as)=D (ds,cs))(g:ER cs)(hsz:U ds<=AY)(h:EO T k (EY G (Bd e)) (DA G pv (Bd e).names) (PY e) (FT e) (FY e) ds vs):oV T k G pv e vs:=
 ⟨d,dN,hs,ds,λenv K=>((vg O K).only a g).toG,h,hsz⟩
theorem K7(O:Cr T)(h:oV T k G pv e vs):Ms T k G pv e (AL vs):= λenv K=>by refine Dg h.run λds g d a=>?_;rw[h.he];exact AA8 O K h.dN h.hs (g env K) d a
noncomputable def kO(e:Ct):Str:=if h:e.ctorIdx=5 then Gs (motive_2:= λ_=>Bt) e h λts _ _=>(match ts with|[t] =>(Mz t).getD BN|_=>BN)else BN
noncomputable def AIz(e:A2):Pos:=if h:e.ctorIdx=23 then H5 (motive_1:= λ_=>LH) e h λ_ p=>p else BN
noncomputable def AD8(e:Ct):Pos:=if h:e.ctorIdx=5 then Gs (motive_2:= λ_=>LH) e h λts _ _=>(match ts with|[t] =>AIz t|_=>BN)else BN
noncomputable def Hz(e:Ct):Expr:=if h:e.ctorIdx=5 then Gs (motive_2:= λ_=>A2) e h λ_ e _=>e else Bu BN BN
noncomputable def vj(e:Ct):Pos:=if h:e.ctorIdx=5 then Gs (motive_2:= λ_=>LH) e h λ_ _ p=>p else BN
theorem DG.zJ(K:DG T env G)(h:UO (HC e t l (Px G.names))=D r):HC e t l env=Ce r:=by rw[<-Zo h];unfold HC;rw[K.pZ,K.iU,show env.scope.kind=(Px G.names).scope.kind from K.kind]
theorem GJ{st:Ct}(O:Cr T)(g:st=Fg [Bu (kO st) (AD8 st)] (Hz st) (vj st))(d:(JK G (kO st)&&nf pv (kO st))=J)(h:oV T k G pv (Hz st) vs)
  (e:(UO (HC (Hz st) (D (Bu (kO st) (AD8 st))) (vj st).line (Px G.names))).isSome=J):Fn T k G pv st Aq (D3 (kO st) (mw (AL vs)) pv):= λenv K=>by
 refine Dg h.run λds q l j=>?_;refine Dx (SN e) λr i=>?_;have a:=K.zJ i;rw[g];cases r with
 |false=>exact Wg O K.kind (K7 O h env K) ⟨K.stores (Ew d).1,Nf (Ew d).2⟩ ⟨B,B⟩ a
 |true=>
  rw[h.he]at a⊢;exact VQ O K d h.dN h.hs (q env K) l j a ⟨B,B⟩
theorem EC(as cs)(O:Cr T)(h:Gm (vE T k 20 G pv e as)=D (d,cs))(a:ER cs):Ms T k G pv e d:= λenv K=>
 ((Io O K 20).1 e as).only h a
theorem ABC(O:Cr T)(h:Gm (vT T k m G pv e as)=D (b,cs))(a:ER cs):ek T k G pv [e] b:=
 vX λenv K=>((Io O K m).2 e as).only h a
end
noncomputable def kQ(l h:AW Aa)(ds:I DV):I DV:=
 (sliceRange (PX l h AQ<|U ds).1 (PX l h AQ<|U ds).2.1 (PX l h AQ<|U ds).2.2).filterMap (ds[·]?)
theorem A8.none(t:A8 T h X ds vs){k:Aj}(e:ds[k]? =AQ):vs[k]? =none:=by rw[List.getElem?_eq_none_iff]at e⊢;rw[t.length];exact e
theorem A8.pick(t:A8 T h X ds vs):∀(j:I Aj),A8 T h X (j.filterMap (ds[·]?)) (j.filterMap (vs[·]?))
 |[] =>E4
 |i::r=>by
  rw[HF,HF];cases e:ds[i]?with
  |none=>rw[t.none e];exact t.pick r
  |some d=>
   refine Ap (t.at e) λv u tv=>?_;rw[u];exact Cw tv (t.pick r)
theorem kT(O:Cr T){l h:AW Aa}(hz:U ds<=AY):Fm T n (AL ds) l h (AL (kQ l h ds)):=by
 intro A X s u C G L Q E a d x t g v y K
 (refine BU t.inv λal vs j hl N ha=>?_;subst j)
 ·refine⟨"list","list.__getitem__",Yo.lookup,hl.typeIs,?_⟩;have e:=ha.length;refine wpAny_getItem_list_slice hl g v y .none (by simp) ?_<|by simp only[Ab];exact DT [_,_,_] [.l A9 BQ,.e B5 A9] B5 BQ [1,1] B hz e
  have i:∀b o,AA s.heap b=D o->(s.heap.push {cls:=Ae "list",data:=Gz (tR (AU vs) l h AQ)}).get? b=D o:= λb o e=>AX _ e;refine K _ _ (C1.of_keeps i) (d.keeps O i)<|dD (vs:=(tR (AU vs) l h AQ).toList) ⟨_,A1 _ B,B,0,by simp⟩ (λq=>?_) ?_
  ·rcases x.kind _ q with h|⟨_,o,z,_⟩
   ·refine Ap (d.tab _ h) λr e _=>?_;exact Ay (BS e)<|B7 _
   ·exact Ay (BS z)<|B7 _
  ·have e2:(tR (AU vs) l h AQ).toList=(sliceRange (PX l h AQ<|U ds).1 (PX l h AQ<|U ds).2.1 (PX l h AQ<|U ds).2.2).filterMap (vs[·]?):=by unfold tR;simp only[Ab,e,FA]
   rw[e2];exact(ha.pick _).up O<|(C1.of_keeps i).up x.tab
noncomputable def De(l h:AW Aa)(xs:I α):I α:=(xs.drop<|l.elim 0<|MF<|U xs).take<|h.elim (U xs) (MF<|U xs)-l.elim 0 (MF<|U xs)
theorem Sp(O:Cr T)(hz:U b<=AY):Fm T n (AJ b) l h (AJ (De l h b)):=by
 intro A X s u y z q Q E a d x t g r v K
 (refine Dx t.inv λj i=>?_;subst i)
 ·have e:AIl (AU b) l h=(De l h b).toArray:=by rw[KBc.picked_eq];simp[De]
  refine⟨"bytes","bytes.__getitem__",Q6.lookup,Ek _ _ _,getItem_meets (Ek _ _ _) (by decide) Q6 FB.entry_bytes_getitem (FB.args_bytes_getitem_2 _ _) (KBc.meets_slice2 (AU b) j q r v) ⟨g,?_,λC k=>?_⟩⟩
  ·exact AO (KBc.size_picked_le _ l h)<|by simp only[Ab];exact hz
  ·rw[e];exact K _ _ (C1.refl _) (d.toks _)<|Vc _ _
section
namespace FC
theorem PB:Slot "bytes" "join" "bytes.join" :=
 .of (owner:= "bytes") (n:= "join") (by rw[R8,L7];kernel_rfl) (by decide+kernel) (by decide+kernel) (by decide+kernel)
  (by first|exact Ax (by decide+kernel)|exact BC<|by decide+kernel) (by rw[JP];kernel_rfl)
theorem Va:AIg (AS "bytes.join")=Ce (Ae "method_descriptor"):=by show builtinType _=_;rw[ACf];kernel_rfl
theorem Ut:Yp AFF "bytes.join" =D Builtin.«bytes.join»:=Jg<|by kernel_rfl
theorem Td(a b:Am):Pe "bytes.join" ⟨[a,b],[]⟩:=by unfold Pe;rw[Vh (id:= "bytes.join") (n:=['n','i','o','j']) (o:=['s','e','t','y','b']) (by kernel_rfl) dH];kernel_rfl
theorem Kb:Slot "bytes" "splitlines" "bytes.splitlines" :=
 .of (owner:= "bytes") (n:= "splitlines") (by rw[R8,L7];kernel_rfl) (by decide+kernel) (by decide+kernel) (by decide+kernel)
  (by first|exact Ax (by decide+kernel)|exact BC<|by decide+kernel) (by rw[JP];kernel_rfl)
theorem PO:AIg (AS "bytes.splitlines")=Ce (Ae "method_descriptor"):=by show builtinType _=_;rw[ACf];kernel_rfl
theorem Ol:Yp AFF "bytes.splitlines" =D Builtin.«bytes.splitlines»:=Jg<|by kernel_rfl
theorem N5(a b:Am):Pe "bytes.splitlines" ⟨[a,b],[]⟩:=by unfold Pe;rw[Vh (id:= "bytes.splitlines") (n:= "splitlines".toList.reverse) (o:=['s','e','t','y','b']) (by kernel_rfl) dH];kernel_rfl
end FC
def Gn:I Am->I (I BB)->Prop
 |[],[] =>True
 |v::vs,b::bs=>(∃t,v=D0 (AU b) t)/\Gn vs bs
 |_,_=>Yd
theorem Gn.length:∀ {vs:I Am} {bs:I (I BB)},Gn vs bs->U vs=U bs
 |[],[],_=>B
 |_::vs,_::bs,h=>by rw[Ac,Ac,Gn.length h.2]
 |[],_::_,h=>h.elim
 |_::_,[],h=>h.elim
theorem Gn.get:∀ {vs:I Am} {bs:I (I BB)},Gn vs bs->∀i (h:i<U bs),∃t,vs[i]? =D (D0 bs[i].toArray t)
 |[],[],_,i,h=>Ay h (H4 _)
 |_::vs,_::bs,h,0,_=>(by obtain⟨t,e⟩:=h.1;exact⟨t,by rw[e];rfl⟩)
 |_::vs,_::bs,h,i+1,j=>Gn.get h.2 i (Hn j)
 |[],_::_,h,_,_=>h.elim
 |_::_,[],h,_,_=>h.elim
section
open Builtin
theorem kU{id:Tx} :ACg id (D0 b t) a=Ce (D b):=by
 unfold ACg;rw[NF Vi,WG,AIm]
 kernel_rfl
theorem ABD{id:Tx} :dW id (D0 b t) 0=Ce (D (b,AQ)):=by unfold dW Bytes.takeBuffer?;rw[NF Vi,WG];simp-iota only[Uy,ADU,DW,Ho];rw[kU];rfl
abbrev JSt:=Ef (Ef BB)×I (Am×AW Am)
theorem qj{M:jA}{bs:I (I BB)}(f:Aj->JSt->Sem (tU JSt))(u:∀i _ b Q,(b.2.any λx=>x.1.onHeap)=AB->(∀v,v.onHeap=AB->Q (JG (b.1.push bs[i].toArray,b.2++[(v,AQ)])) s)->Ao M A (f i b) Q E s):
  ∀m i b Q,i+m=U bs->(b.2.any λx=>x.1.onHeap)=AB->(b.2.all λx=>x.2.isNone)=J->(∀tk,(tk.all λx=>x.2.isNone)=J->Q (b.1++((bs.drop i).map AU).toArray,tk) s)->Ao M A (tQ (HY i m) b f) Q E s:=by
 intro m;induction m with
 |zero=>
  exactλi b Q g h d k=>by rw[List.range'_zero,Mw];have:=k b.2 d;rw[F8<|by exact B8<|nB<|by assumption]at this;simp only[ig,Array.append_empty]at this;exact AP this
 |succ m l=>
  exactλi b Q g h d k=>by
   have j:i<U bs:=Pj [_,_,_] [.e (.a A9<|.a BQ DB) B5] A9 B5 [1] B g;rw[Ov,Gu];refine AD<|u i j b _ h λv q=>?_;skip;refine l (i+1) (b.1.push bs[i].toArray,b.2++[(v,AQ)]) Q (Yb [_,_,_] [.e (.a A9<|.a BQ DB) B5] (.a (.a A9 DB) BQ) B5 [1] [-1] B B g) ?_ ?_ λtk r=>?_
   ·rw[zx,h];simp[q]
   ·rw[List.all_append,d];simp
   ·have:=k tk r;rw[E9 j,B4]at this;have e:b.1.push bs[i].toArray++(nE AU<|bs.drop<|i+1).toArray=b.1++(bs[i].toArray::nE AU (bs.drop<|i+1)).toArray:=by simp
    skip;rw[e];exact this
theorem bk{M:jA} :∀ {tk:I (Am×AW Am)},(tk.all λx=>x.2.isNone)=J->Q () s->Ao M A (WH tk d) Q E s:=by
 intro tk;induction tk with
 |nil=>
  exactλ_ h=>AP h
 |cons a r e=>
  obtain⟨v,w⟩:=a;exactλhn h=>by
   simp only[N9,A4]at hn;have g:w=none:=by simpa using hn.1
   subst g;unfold WH;exact AD<|zy<|e hn.2 h
theorem kW(bs:I (I BB))(k:Aj):((bs.map AU).toArray.foldl (λd x2=>d+AK x2) k)=k+U bs.flatten:=by
 rw[List.foldl_toArray];induction bs generalizing k with
 |nil=>rfl
 |cons b r e=>simp only[B4,AAA,e,Ab,EI,Ad];exact Yb [_,_,_] [] (.a (.a A9 BQ) B5) (.a A9<|.a BQ B5) [] [] B B
theorem kX(bs:I (I BB)):dX #[] (bs.map AU)=AU bs.flatten:=by
 unfold dX;have d:∀(l:I (I BB)) k acc,((l.map AU).zipIdx k).foldl (λa (p,i)=>(if i>0 then a++ #[]else a)++p) acc=acc++AU l.flatten:=by
  intro l;induction l with
  |nil=>intro k acc;simp
  |cons b r e=>
   intro k acc;simp only[B4,Vj,AAA,e];simp
 rw[d];simp
theorem Zt{vs:I Am}{bs:I (I BB)}(d:U vs=U bs)(P:qH->Bq->Prop)(f:Aj->JSt->Sem (tU JSt))(g:JSt->Sem qH)
  (j:∀i _ b Q,(b.2.any λx=>x.1.onHeap)=AB->(∀v,v.onHeap=AB->Q (JG (b.1.push bs[i].toArray,b.2++[(v,AQ)])) s)->Ao (M T) A (f i b) Q E s)
  (h:∀tk,(tk.all λx=>x.2.isNone)=J->Ao (M T) A (g ((bs.map AU).toArray,tk)) P E s):
  Ao (M T) A (tQ [:AK vs.toArray] ((#[]:Ef (Ef BB)),([]:I (Am×AW Am))) f>>=g) P E s:=by
 refine AD ?_;rw[ACh];have e: [:AK vs.toArray].size=U bs:=by simp[ACi,d]
 rw[e];refine qj f j (U bs) 0 _ _ (Mm _) B B λtk a=>?_;rw[Q5,qI];exact h tk a
theorem fD{bs:I (I BB)}(hz:U bs.flatten<=AY)(P:qH->Bq->Prop)(d:I (Am×AW Am))(g:(d.all λx=>x.2.isNone)=J)(e:∀t tk,P (ax (N8 (D0 (AU bs.flatten) t))) {s with toks:=tk}):
  Ao (M T) A (do
    let a<-ij.new (dX #[] (bs.map AU).toArray.toList)
    RU (a::List.flatMap (λx=>x.fst::x.snd.toList) d) point
    WH d [a]
    ret a) P E s:=by
 rw[show(bs.map AU).toArray.toList=bs.map AU from B,kX];refine AD<|AJj ?_<|by rw[Ab];exact hz
 refine AD<|BV<|wpAny_point<|AD<|bk g<|AP<|e _ _
theorem vk(d:Gn vs bs)(a:i<U bs):∃t,vs.toArray.getD i AN=D0 bs[i].toArray t:=
 (d.get i a).imp λt e=>by rw[IA,FA,e];rfl
theorem W3{bs:I (I BB)}(hz:U bs.flatten<=AY):ACj ((bs.map AU).toArray.foldl (λd x2=>d+AK x2) ((#[]:Ef BB).size*((bs.map AU).toArray.size-1)))=false:=by rw[kW];unfold ACj;rw[show(#[]:Ef BB).size*((bs.map AU).toArray.size-1)=0 from Nat.zero_mul _];exact Bc<|lnF [_,_] [.l A9 BQ,.t BQ<|.a Mr A9] [1,1] B hz
theorem qk(y:s.heap.IsList l (AU vs))(hb:Gn vs bs)
  (hz:U bs.flatten<=AY)(k:∀t tk,Q (D0 (AU bs.flatten) t) {s with toks:=tk}):
  Ao (M T) A (RV (AS "bytes.join") [D0 #[] tk,AH l]) Q E s:=by
 refine LO (id y) λu a r G g=>?_;refine Gl FC.PB (Ek _ _ _) FC.Ut ?_<|FC.Td _ _;unfold Builtin.«bytes.join» Bytes.joinM;refine AD<|AP ?_;skip;refine C0 (CI<|by decide) ?_;unfold Bytes.joinItems;refine AD<|AD<|Yk ⟨u,a,r⟩ ?_;refine C0 (CI<|by simp) ?_;refine AP<|AD<|CA a g ?_;skip;refine C0 (CI<|by decide) ?_;cases vs with
 |nil=>
  cases bs with
  |cons _ _=>exact hb.elim
  |nil=>
   refine Zt (bs:=[]) (vs:=[]) B _ _ _ (λi q=>Ay q<|H4 _) λd j=>?_;refine AD<|AP ?_;refine B2 (Bc<|by rw[W3 hz];exact CD) ?_;exact fD hz _ d j λt tk=>(CB _ B<|k t tk)
 |cons v vs=>
  cases bs with
  |nil=>exact hb.elim
  |cons b bs=>
   cases vs with
   |nil=>
    cases bs with
    |cons _ _=>exact hb.2.elim
    |nil=>
     (refine F3 hb λh _=>?_;obtain⟨t,rfl⟩:=h)
     refine AD<|Yk (Ek _ _ _) ?_;refine C0 (CI<|by simp) ?_;refine AD<|MG<|AP<|CB _ B ?_;have:=k t s.toks;simp only[EI,List.flatten_nil,Fi]at this;exact this
   |cons C vs=>
    refine Zt hb.length _ _ _ (λi q L N z x=>?_) λd j=>?_
    ·refine AD (CA a g ?_)
     dsimp only
     refine Dx (vk hb q) λt e=>?_;rw[z,e];refine B2 (Bc<|by decide) ?_;refine AD<|BV<|CW ABD ?_;skip;refine AD<|CA a g ?_;skip;refine B2 (Bc<|by simp) ?_;exact AP<|x _ B
    ·refine AD (AP ?_);refine B2 (Bc<|by rw[W3 hz];exact CD) ?_;exact fD hz _ d j λt tk=>(CB _ B<|k t tk)
end
end
noncomputable def Bo(w:Aa)(j:Aj):Bool:=Ag (w.fdiv<|2^j) 1==1
noncomputable def NN(a:Aa)(cs:I Aa):Aj->Aj->Aa->Aa
 |_,0,t=>t
 |j,m+1,t=>NN a cs (j+1) m (match Bo a j with|true=>BG t (cs.getD j 0)|false=>t)
theorem ABF:NN a cs j (m+1) t=(NN a cs (j+1) m (match Bo a j with|true=>BG t (cs.getD j 0)|false=>t)):=B
noncomputable def Zv:Aj->Aj->PV->PV
 |_,0,a=>a
 |j,m+1,_=>Zv (j+1) m (mw (AM j))
noncomputable def Ip(st:Aa)(cs:I Aa)(a:Aa):Int:=B1 st<|NN a cs 0 (U cs) 0
noncomputable def za(st:Aa)(cs:I Aa)(a t:Aa)(d:PV):BD:=[(S "start",mw<|AM st),(S "changes",mw<|AL<|AZ cs),(S "within",mw<|AM a),(S "turned",mw<|AM t),(S "k",d)]
noncomputable def GS:GV:=⟨(D2<|A6 73).names,HA,[],AQ⟩
noncomputable def oX:Stmt:=(Cc<|A6 73).getD 1<|AHd BN
theorem qo{j:Aj}(h:j<U cs):(AZ cs)[(j:Aa).toNat]? =D (AM (cs.getD j 0)):=by show(cs.map AM)[j]? =_;rw[Bv,Al,AR h];rfl
theorem kg(P:HN T)(n:Aj)(st d:Aa)(cs:I Aa)(hz:U cs<=AY):∀m j t g,j+m=U cs->KN T n GS (Kk oX) (DR oX) (za st cs d t g) (Dd j m) Aq (za st cs d (NN d cs j m t) (Zv j m g)):=by
 intro m;induction m with
 |zero=>
  exactλj t g _=>.done
 |succ m i=>
  exactλj t g h=>by
   have r:= λv=>i (j+1) v (mw<|AM j)<|Yb [_,_,_] [.e (.a A9<|.a BQ DB) B5] (.a (.a A9 DB) BQ) B5 [1] [-1] B B h;have y:=Pj [_,_,_] [.e (.a A9<|.a BQ DB) B5] A9 B5 [1] B h;have q:KL (j:Aa)=true:=by simp[KL]
   have x:(AZ cs).length=U cs:=by simp[AZ]
   show KN T n GS _ _ _ (AM j::Dd ((j+1:Aj):Aa) m) _<|za st cs d (NN d cs (j+1) m _)<|Zv (j+1) m _;cases u:Bo d j with
   |true=>
    refine .step B (BE:=za st cs d (BG t<|cs.getD j 0)<|mw<|AM j) (Ee [.b J,.t<|AM<|cs.getD j 0] [KL j=J,CC T n (AL<|AZ cs) (AM j)<|AM<|cs.getD j 0,Bo d j=J] P.O ⋯ ⟨q,Er (by exact Av _) (qo y)<|DT [_,_,_] [.l A9 BQ,.e B5 A9] B5 BQ [1,1] B hz x,u,AI⟩)<|r _
   |false=>
    refine .step B (BE:=za st cs d t<|mw<|AM j) (Ee [.b AB] [KL j=J,Bo d j=AB] P.O ⋯ ⟨q,u,AI⟩)<|r _
theorem Qe(P:HN T)(n:Aj)(st d:Aa)(cs:I Aa)(hz:U cs<=AY):CP T (n+1) (Ah (AH 1222)) [AM st,AL (AZ cs),AM d] (AM (Ip st cs d)):=by
 refine E0 (CS P 16 1222 1221 (A6 73) (S "_law_state") AN ⋯ ⋯ ⋯ B B) λdc pm F=>?_;have g:(AZ cs).length=U cs:=by simp[AZ]
 have hs:=Ep;have h:Fn T n GS (za st cs d 0 Af) oX Aq (za st cs d (NN d cs 0 (U cs) 0)<|Zv 0 (U cs) Af):=
  JL [.t<|AM<|U cs] (Dd 0<|U cs) [CP T n (Ah<|AS "len") [AL<|AZ cs]<|AM<|U cs,Bf T<|Ah<|AS "len",-(2^62)<=(U cs:Aa)/\(U cs:Aa)<2^62] P.O ⋯ ⋯ ⋯ ⋯
   ⟨g▸FR (DT [_,_,_] [.l A9 BQ,.e B5 A9] B5 BQ [1,1] B hz g),A3,⟨WR _,WS hz<|Ak▸(by decide:16777216<2^62)⟩,AI⟩ (kg P n st d cs hz (U cs) 0 0 Af<|Yb [_] [] (.a Mr A9) A9 [] [] B B)
 exact JS (m:=20) (ps:=[S "start",S "changes",S "within"]) (locs:=[S "turned",S "k"]) (Fe:=[]) (as:=[.v Aq<|za st cs d (NN d cs 0 (U cs) 0)<|Zv 0 (U cs) Af]) (cs:=[Fn T n GS (za st cs d 0 Af) oX Aq<|za st cs d (NN d cs 0 (U cs) 0)<|Zv 0 (U cs) Af])
  P.O F (B9 P) B (br λu v w=>by kernel_rfl!) ⋯ B (by decide+kernel) ⋯ ⋯ ⟨h,AI⟩
noncomputable def AI0(e:Ct):Expr:=if h:e.ctorIdx=3 then dY (motive_2:= λ_=>A2) e h λa _=>(match a with|some e=>e|_=>Bu BN BN)else Bu BN BN
noncomputable def AD9(e:A2):I Expr:=if h:e.ctorIdx=24 then Ln (motive_1:= λ_=>I A2) e h λes _=>es else if h:e.ctorIdx=25 then Il (motive_1:= λ_=>I A2) e h λes _ _=>es else []
noncomputable def Lf(text:I BB)(a:Aa):Int:=a.fmod<|(U text:Aa)+1
noncomputable def OS(text:I BB)(a:Aa):I DV:=[AJ<|De AQ (D<|Lf text a) text,AJ<|De (D<|Lf text a) AQ text]
theorem XB(P:HN T)(n:Aj)(text:I BB)(a:Aa)(hz:U text<=AY):CP T (n+1) (Ah (AH 1234)) [AJ text,AM a] (AL (OS text a)):=by
 refine E0 (CS P 20 1234 1233 (A6 75) (S "_law_pieces") AN ⋯ ⋯ ⋯ B B) λdc pm F=>?_;exact JS (m:=20) (ps:=[S "text",S "number"]) (locs:=[S "spot"]) (Fe:=[]) (as:=[.t<|AM<|U text,.t<|AJ<|De AQ (D<|Lf text a) text,.t<|AJ<|De (D<|Lf text a) AQ text])
  (cs:=[CP T n (Ah<|AS "len") [AJ text]<|AM<|U text,Bf T<|Ah<|AS "len",ADs ((U text:Aa)+1)=J,Fm T n (AJ text) AQ (D<|Lf text a)<|AJ<|De AQ (D<|Lf text a) text,Fm T n (AJ text) (D<|Lf text a) AQ<|AJ<|De (D<|Lf text a) AQ text])
  P.O F (B9 P) B (P9 λu v=>by kernel_rfl!) ⋯ B (by decide+kernel) ⋯ ⋯ ⟨ZF hz,A3,by simp only[ADs,CR,decide_eq_false_iff_not];exact jM<|qK<|Av _,Sp P.O hz,Sp P.O hz,AI⟩
section
set_option backward.match.sparseCases true
set_option tactic.hygienic true
section
open Builtin
theorem OQ:∀fuel text,(CT fuel J text).length<=fuel
 |0,_=>by simp[CT]
 |_+1,[] =>by simp[CT]
 |fuel+1,c::r=>by
  unfold CT;simp only[EU]
  split
  ·rw[Ac];exact Dk (OQ fuel _)
  ·rw[Ac];exact Dk (OQ fuel _)
  ·simp
theorem VR(p:BB->Ba)(l:I BB):l.takeWhile p++l.drop (l.takeWhile p).length=l:=by
 induction l with
 |nil=>rfl
 |cons a r d=>
  rw[R9]
  split
  ·simp[d]
  ·simp
theorem NM:∀fuel text,U text<=fuel->(CT fuel J text).flatten=text
 |0,text,h=>by have:=WV<|qJ.mp h;subst this;rfl
 |_+1,[],_=>B
 |fuel+1,c::r,h=>by
  have d:=VR (λc=>c !=10&&c !=13)<|c::r;have g:=BI U d;rw[Ad]at g;unfold CT;simp only[EU]
  split
  ·rename_i rest i
   rw[i]at d g;simp only[Ac]at g h;rw[EI,NM fuel rest<|DT [_,_,_,_] [.l (.a A9 DB)<|.a BQ DB,.e (.a B5<|.a (.a Jj DB) DB)<|.a A9 DB] Jj BQ [1,1] B h g];refine AE5 ?_ d;simp
  ·rename_i j rest _ i
   rw[i]at d g;simp only[Ac]at g h;rw[EI,NM fuel rest<|DT [_,_,_,_] [.l (.a A9 DB)<|.a BQ DB,.e (.a B5<|.a Jj DB)<|.a A9 DB] Jj BQ [1,1] B h g];refine AE5 ?_ d;simp
  ·rename_i i
   rw[i]at d;simpa using d
theorem W4{ls:I (I BB)}(h:l∈ls):U l<=U ls.flatten:=by
 induction ls with
 |nil=>cases h
 |cons a r d=>
  rw[EI,Ad];rcases DO h with rfl|h
  ·exact Ci _ _
  ·have:=d h;exact DT [_,_,_] [.l A9 BQ] A9 (.a B5 BQ) [1] B this
theorem fE{M:jA} :∀a s Q,(∀l∈a,U l<=AY)->(∀vs tk,Gn vs a->Q vs {s with toks:=tk})->Ao M A (a.mapM λl=>ij.new (AU l)) Q E s:=by
 intro a;induction a with
 |nil=>
  exactλs Q _ k=>by rw[List.mapM_nil];exact AP<|k [] s.toks AI
 |cons l r d=>
  exactλs Q hz k=>by
   rw[List.mapM_cons];refine AD<|AJj ?_<|by rw[Ab];exact hz l<|B0 _
   refine AD<|d _ _ (λx e=>hz x<|Cb _ e) λvs tk h=>AP ?_;exact k (_::vs) tk ⟨⟨_,B⟩,h⟩
theorem VS(hz:U b<=AY)
  (k:∀vs h tk,Gn vs (CT (U b) J b)->(∀b o,AA s.heap b=D o->AA h b=D o)->FK h (AK s.heap.objs) (AU vs)->Q (AH (AK s.heap.objs)) {s with heap:=h,toks:=tk}):
  Ao (M T) A (RV (AS "bytes.splitlines") [D0 (AU b) tk,FH J]) Q E s:=by
 refine Gl FC.Kb (Ek _ _ _) FC.Ol ?_<|FC.N5 _ _;unfold Builtin.«bytes.splitlines» Bytes.splitlinesM;skip;refine AD<|CW (a:=[D<|FH J]) (by rfl) ?_;skip;refine AD<|LL ?_;refine AD<|CW (a:=AU b) (by rfl) ?_;have hsz:AK b.toArray=U b:=Ab ..;rw[hsz,show b.toArray.toList=b from B];have fl:=NM (U b) b<|BO _;have u:=OQ (U b) b;have d:∀vs tk,Gn vs (CT (U b) J b)->Ao (M T) A.in1 (uF vs>>= λr=>ret r) (λd s'=> ∃v,d=ax (N8 v)/\Q v s') E {s with toks:=tk} := λvs tk h=>by
  refine AD<|ET (AP<|CB _ B ?_)<|by show AK vs.toArray<=AY;rw[Ab,h.length];exact AO (by assumption)<|by assumption
  exact k vs _ _ h (λb o e=>AX _ e) ⟨_,0,A1 _ B,B,B,B⟩
 cases j:CT (U b) J b with
 |nil=>
  rw[j]at d;exact AD<|fE [] s _ (λl q=>nomatch q) λvs tk h=>d vs tk h
 |cons i r=>
  rw[j]at d fl;cases r with
  |nil=>
   have e:i=b:=by simpa using fl
   skip;refine C0 (CI<|by rw[e];simp) ?_;refine AD<|MG<|AD ?_;unfold AJk;refine C0 (CI<|by decide) ?_;refine AD<|Yk (Ek _ _ _) ?_;refine C0 (CI<|by simp) ?_;refine AP ?_;exact d [D0 (AU b) tk] s.toks ⟨⟨tk,by rw[e]⟩,AI⟩
  |cons g r=>
   skip;refine AD<|fE (i::g::r) s _ (λl q=>?_) λvs tk h=>d vs tk h;have:=W4 q;rw[fl]at this;exact AO (by assumption)<|by assumption
end
end
section
open Builtin
theorem W5(b c:Ef BB)(t u:Tok):Meets (Builtin.«bytes.__contains__» ⟨[D0 b t,D0 c u],[]⟩) (λA R s=>A.handled=AQ/\ ∀h' tk,(∀a o,AA s.heap a=D o->AA h' a=D o)->R (zr (N8 (FH (jL b c 0 (AK b)).isSome))) {s with heap:=h',toks:=tk}):=
 .of_wp λprog w A R s h=>by
  obtain⟨g,k⟩:=h;unfold Builtin.«bytes.__contains__»;refine AD<|CW (a:=(D0 b t,[D0 c u])) (by rfl) ?_;skip;unfold Bytes.containsIn;refine AD<|AD<|Pf ?_;unfold asIndex;refine AD<|CW (a:=AQ) (by rfl) ?_;skip;have e1:uJ (D0 c u) (S "__index__")=Ce none:=by unfold uJ;rw[NF (r:=AQ)<|by rw[R8,L7];kernel_rfl];rfl
  refine AD<|CW e1 ?_;skip;have e2:typeNameOfCut 200 (D0 c u)=Ce "bytes" :=by rfl
  refine AD<|CW e2 ?_;refine wpAny_raiseErrorMade plainExc_TypeError g (λh' tk e d=>?_)<|by decide+kernel
  refine AD<|CW YY ?_;skip;refine AD<|CW YY ?_;skip;exact AD<|MG<|AP<|AP<|CB _ B<|k h' tk λa o e=>d.keeps a o e
noncomputable def Gf(sub:I BB):I BB->Ba
 |[] =>sub.isEmpty
 |a::r=>sub.isPrefixOf (a::r)||Gf sub r
theorem ql{sub:I BB} :Gf sub [] =(sub.isEmpty):=B
theorem qm{d:I BB} :Gf d (a::r)=(d.isPrefixOf (a::r)||Gf d r):=B
theorem JT:∀ {b:I BB},Gf c b=J↔ ∃i,i<=U b/\c<+:b.drop i
 |[] =>by
  rw[ql];constructor
  ·intro h;exact(CB (0) (BO _) (by rw[Ou.mp h];exact List.nil_prefix))
  ·rintro⟨i,_,h⟩;rw[List.drop_nil]at h;rw[List.prefix_nil.mp h];rfl
 |a::r=>by
  rw[qm];rw[Pg,JT (b:=r),List.isPrefixOf_iff_prefix];constructor
  ·rintro(h|⟨i,d,h⟩)
   ·exact(CB (0) (D1 _) h)
   ·exact(CB (i+1) (Dk d) h)
  ·rintro⟨i,d,h⟩;cases i with
   |zero=>exact Ax h
   |succ i=>exact BC (CB i (Ph d) h)
theorem fF(b c:I BB):(jL (AU b) (AU c) 0 (AK b.toArray)).isSome=Gf c b:=by
 rw[Ck,JT];unfold jL;rw[List.find?_isSome];simp only[Ab,Mm,Nat.add_zero,List.map_id',Mv,Bh];have ext:∀i,b.toArray.extract i (i+U c)=AU c↔(b.drop i).take (U c)=c:= λi=>by
  rw[List.extract_toArray,List.extract_eq_take_drop,il];constructor
  ·intro h;exact BI dR h
  ·intro h;rw[h]
 constructor
 ·rintro⟨i,a,h⟩;rw[ext]at h;exact(CB i (VH<|Dz a<|LJ ..)<|by rw[<-h];exact List.take_prefix _ _)
 ·rintro⟨i,a,h⟩;have d:=h.length_le;rw[Eg]at d;refine(CB i (Nat.lt_sub_of_add_lt<|Nat.lt_succ_of_le<|Nat.add_le_of_le_sub' a d) ?_);rw[ext];exact(List.prefix_iff_eq_take.mp h).symm
theorem ZG(O:Cr T):Cg T n Yi (AJ a) (AJ b) (Gf a b):=by intro A X s u v Q E ao d x h g K;cases h;cases g;refine ADV (Ek _ _ _) FB.slot_bytes_contains FB.entry_bytes_contains (FB.args_bytes_contains_2 _ _) (W5 _ _ _ _) ⟨ao.handled,λh' tk e=>?_⟩;rw[fF];exact(CB _ B<|K _ (C1.of_keeps e)<|d.keeps (s':= {s with heap:=h',toks:=tk}) O e)
end
noncomputable def AV(bs:I (I BB)):I DV:=bs.map AJ
theorem fG:∀ {bs:I (I BB)} {vs:I Am},A8 T h X (AV bs) vs->Gn vs bs:=by
 intro bs;induction bs with
 |nil=>
  exact @λ_ t=>by obtain rfl:=t.inv;exact AI
 |cons b r e=>
  exact @λ_ t=>by
   (refine Bk t.inv λ_ _ d a q=>?_;subst d)
   ·cases a;exact⟨⟨_,B⟩,e q⟩
theorem U8:∀ {bs:I (I BB)} {vs:I Am},Gn vs bs->A8 T h X (AV bs) vs
 |[],[],_=>E4
 |b::r,v::vs,⟨⟨t,e⟩,q⟩=>by subst e;exact Cw (Vc _ _) (U8 q)
 |[],_::_,h=>h.elim
 |_::_,[],h=>h.elim
theorem Kt:H7 T n (AJ b) "join" (AS "bytes.join"):=Wm uK FC.PB FC.Va
theorem DE:H7 T n (AJ b) "splitlines" (AS "bytes.splitlines"):=Wm uK FC.Kb FC.PO
theorem P7(hz:U bs.flatten<=AY):CP T n (Ah (AS "bytes.join")) [AJ [],AL (AV bs)] (AJ (AF bs)):=by
 intro A X s f vs Q E a d x tf ta K;obtain rfl:=tf.inv
 (refine Bk ta.inv λ_ _ e t1 r=>?_;subst e)
 ·cases r with
  |cons t2 r=>
   obtain rfl:=r.inv
   (refine Dx t1.inv λtk i=>?_;subst i)
   (refine BU t2.inv λ_ _ e g j h=>?_;subst e)
   ·exact qk g (fG h) hz λt tk=>K _ _ (C1.refl _) (d.toks _)<|Vc _ _
theorem DX(O:Cr T)(hz:U b<=AY):CP T n (Ah (AS "bytes.splitlines")) [AJ b,BZ J] (AL (AV (CT (U b) J b))):=by
 intro A X s f vs Q E a d x tf ta K;obtain rfl:=tf.inv
 (refine Bk ta.inv λ_ _ g t1 r=>?_;subst g)
 ·cases r with
  |cons t2 r=>
   obtain rfl:=r.inv;obtain rfl:=t2.inv
   (refine Dx t1.inv λtk i=>?_;subst i)
   ·refine VS hz λvs h tk v j hp=>?_;refine K _ _ (C1.of_keeps j) (d.keeps (s':= {s with heap:=h,toks:=tk}) O j)<|dD hp.isList (λq=>?_)<|U8 v;rcases x.kind _ q with h'|⟨_,o,u,_⟩
    ·refine Ap (d.tab _ h') λl e _=>?_;exact Ay (BS e)<|B7 _
    ·exact Ay (BS u)<|B7 _
theorem bp:∀ {ks:I (I BB)} {ds:I DV} {vs:I Am},A8 T h X ds vs->(ks.zip ds).lookup k=D d->∃v,(ks.zip vs).lookup k=D v/\Tr T h X d v
 |[],_,_,_,e=>by simp at e
 |_::_,_,_,E4,e=>by simp at e
 |q::ks,_,_,Cw a r,e=>by
  simp only[DU,CE]at e⊢;cases g:k==q with
  |true=>rw[g]at e;cases e;exact(CB _ B a)
  |false=>rw[g]at e;exact bp r e
theorem UR:∀ {ks:I (I BB)} {ds:I DV} {vs:I Am},A8 T h X ds vs->(ks.zip ds).lookup k=AQ->(ks.zip vs).lookup k=AQ
 |[],_,_,_,e=>by simp
 |_::_,_,_,E4,e=>by simp
 |q::ks,_,_,Cw a r,e=>by
  simp only[DU,CE]at e⊢;cases d:k==q with
  |true=>rw[d]at e;cases e
  |false=>rw[d]at e;exact UR r e
theorem P8(O:Cr T)(h:(ks.zip ds).lookup k=D d):CC T n (EL ks ds) (AJ k) d:=by
 intro A X s u v Q E a e x t1 t2 K
 (refine Dx t2.inv λtk q=>?_;subst q)
 (refine BU t1.inv λ_ _ g m r l=>?_;subst g)
 ·refine Ap (bp l h) λw j i=>?_;exact⟨"dict","dict.__getitem__",slot_dict_getitem.lookup,m.mapOf.typeIs,wpAny_getItem_of (Yl _ _ k tk) m.mapOf j<|K w _ (C1.refl _) (e.toks _) i⟩
theorem fH:Cg T n Yi (AJ k) (EL ks ds) ((ks.zip ds).lookup k).isSome:=by
 intro A X s u v Q E a g x t1 t2 K
 (refine Dx t1.inv λtk q=>?_;subst q)
 (refine BU t2.inv λ_ _ h m r i=>?_;subst h)
 ·have l:=m.choose_spec.2.2.2.2;refine wpAny_in_of (Yl _ _ k tk) l m.mapOf ?_;cases e:(ks.zip ds).lookup k with
  |none=>rw[e]at K;rw[UR i e];exact K _ (C1.refl _)<|g.toks _
  |some d=>rw[e]at K;refine Ap (bp i e) λw j _=>?_;rw[j];exact K _ (C1.refl _)<|g.toks _
theorem iQ:H7 T n (EL ks ds) "get" (AS "dict.get"):=uu F.plainAttrs_dict AFG F.type_dict_get
noncomputable def W6(ks:I (I BB))(ds:I DV)(k:I BB)(d:DV):DV:=((ks.zip ds).lookup k).getD d
theorem oW:CP T n (Ah (AS "dict.get")) [EL ks ds,AJ k,d] (W6 ks ds k d):=by
 intro A X s f vs Q E a g x tf ta K;obtain rfl:=tf.inv
 (refine Bk ta.inv λ_ _ h t1 r=>?_;subst h)
 ·cases r with
  |cons t2 r=>cases r with
   | @cons _ j _ _ q r=>
    obtain rfl:=r.inv
    (refine Dx t2.inv λtk y=>?_;subst y)
    (refine BU t1.inv λ_ _ h m z i=>?_;subst h)
    ·have v:=m.choose_spec.2.2.2.2;refine call_meetsIn AFG m.mapOf.typeIs F.entry_dict_get (F.args_dict_get_3 _ _ _) (meets_dict_get_default _ _ (Yl _ _ k tk) v j) ⟨_,m.mapOf,?_⟩;cases e:(ks.zip ds).lookup k with
     |none=>
      have e1:W6 ks ds k d=d:=by simp only[W6,e];rfl
      rw[e1]at K;rw[UR i e];exact K _ _ (C1.refl _) (g.toks _) q
     |some d'=>
      have e1:W6 ks ds k d=d':=by simp only[W6,e];rfl
      rw[e1]at K;refine Ap (bp i e) λw u l=>?_;rw[u];exact K _ _ (C1.refl _) (g.toks _) l
theorem W8(O:Cr T)(z:j≠0)(hs:Nj j=J):CP T n (Ah (AS "divmod")) [AM i,AM j] (FI [AM (i.fdiv j),AM (i.fmod j)]):=by
 intro A X s f vs Q E a d x tf ta K;obtain rfl:=tf.inv
 (refine Bk ta.inv λ_ _ g t1 r=>?_;subst g)
 ·cases r with
  |cons t2 r=>
   obtain rfl:=r.inv
   (refine Dx t1.inv λt C=>?_;subst C)
   (refine Dx t2.inv λu h=>?_;subst h)
   ·have l:∀b o,AA s.heap b=D o->(s.heap.push {cls:=Ae "tuple",data:=Gz #[.int (i.fdiv j) s.toks,EF (i.fmod j)<|s.toks+1] }).get? b=D o:= λb o e=>AX _ e;refine divmod_int z (K _ _ (C1.of_keeps l) (d.keeps (s':= {s with toks:=s.toks+1+1,heap:=s.heap.push {cls:=Ae "tuple",data:=Gz #[.int (i.fdiv j) s.toks,EF (i.fmod j)<|s.toks+1] } }) O l)<|.tup (vs:=[EF (i.fdiv j) s.toks,EF (i.fmod j)<|s.toks+1]) (uE _ _) (λq=>?_)<|Cw (dC _ _)<|Cw (dC _ _) E4)<|Ax<|uz.no hs;rcases x.kind _ q with h'|⟨_,o,y,_⟩
    ·refine Ap (d.tab _ h') λv e _=>?_;exact Ay (BS e)<|B7 _
    ·exact Ay (BS y)<|B7 _
theorem ABE(O:Cr T):CP T n (Ah (AS "sum")) [AL (AZ ns)] (AM ns.sum):=by
 intro A X s f vs Q E a d x tf ta K;obtain rfl:=tf.inv
 (refine Bk ta.inv λ_ _ e t1 r=>?_;subst e)
 ·cases r
  (refine BU t1.inv λy j e h v q=>?_;subst e)
  ·have hi:=W1 q;refine Dx hi.allInts.items λxs g=>?_;have l:xs.toList.map (·.1)=ns:=by rw[<-nums_intItems,<-g];exact hi.numsOf
   rw[g]at h;refine sum_intListG a.handled h λh' tk u i=>?_;rw[preSum_eq,Hi<|by simp,l];exact K _ _ (C1.of_keeps i) (d.keeps (s':= {s with heap:=h',toks:=tk}) O i)<|dC _ _
theorem kY:CP T n (Ah (AS "isinstance")) [BZ b,Ah (Ae "bool")] (BZ J):=by
 intro A X s f vs Q E a d x tf ta K;obtain rfl:=tf.inv
 (refine Bk ta.inv λ_ _ e t1 r=>?_;subst e)
 ·cases r with
  |cons t2 r=>
   obtain rfl:=r.inv;obtain rfl:=t1.inv;obtain rfl:=t2.inv;exact call_isinstance_yes (PySem.typeIs_bool _ _) (by kernel_rfl) (by rw[JP];kernel_rfl)<|K _ _ (C1.refl _) d<|zK J
noncomputable def XC:Expr:=Bu BN BN
noncomputable def EP(i:Aj)(e:A2):Expr:=if h:e.ctorIdx=16 then Dr (motive_1:= λ_=>A2) e h λ_ as _ _=>as.getD i XC else e
noncomputable def KO(e:A2):Expr:=if h:e.ctorIdx=16 then Dr (motive_1:= λ_=>A2) e h λf _ _ _=>f else e
noncomputable def exL(e:A2):Expr:=if h:e.ctorIdx=2 then jN (motive_1:= λ_=>A2) e h λl _ _ _=>l else if h:e.ctorIdx=15 then Lp (motive_1:= λ_=>A2) e h λl _ _ _=>l else e
noncomputable def exR(e:A2):Expr:=if h:e.ctorIdx=2 then jN (motive_1:= λ_=>A2) e h λ_ _ r _=>r else if h:e.ctorIdx=15 then Lp (motive_1:= λ_=>A2) e h λ_ _ a _=>a.getD 0 XC else e
noncomputable def AGf(i:Aj)(e:A2):Expr:=if h:e.ctorIdx=24 then Ln (motive_1:= λ_=>A2) e h λes _=>es.getD i XC else if h:e.ctorIdx=25 then Il (motive_1:= λ_=>A2) e h λes _ _=>es.getD i XC else e
noncomputable def noS:Stmt:=AHd BN
noncomputable def zb(e:Ct):Expr:=if h:e.ctorIdx=12 then SJ (motive_2:= λ_=>A2) e h λc _ _ _=>c else XC
noncomputable def zd(e:Ct):I Stmt:=if h:e.ctorIdx=12 then SJ (motive_2:= λ_=>I Ct) e h λ_ a _ _=>a else []
noncomputable def ifB(e:Ct):I Stmt:=if h:e.ctorIdx=12 then SJ (motive_2:= λ_=>I Ct) e h λ_ _ b _=>b else []
noncomputable def OE(e:Ct):Expr:=if h:e.ctorIdx=24 then PF (motive_2:= λ_=>A2) e h λe _=>e else XC
noncomputable def BA(i:Aj)(ss:I Ct):Stmt:=ss.getD i noS
theorem Kl(as ds cs)(O:Cr T)(d:e=Kf (FY e) [⟨PY e,OP e,FT e,0⟩] (Bd e) (vi e))(dN:Rm G (Bd e) (PY e)=J)(hs:MQ (OP e)=J)
  (a:Gm (vI T k 20 G pv (OP e) as)=D (ds,cs))(g:ER cs)(hsz:U ds<=AY)(h:EO T k (EY G (Bd e)) (DA G pv (Bd e).names) (PY e) (FT e) (FY e) ds vs):Ms T k G pv e (AL vs):=
 K7 O (D7 _ _ _ O d dN hs a g hsz h)
noncomputable def hdE:I A2->A2|e::_=>e|[] =>XC
theorem GO(as b cs)(O:Cr T)(d:a=[hdE a])(g:b=c)(h:Gm (vT T k 20 G pv (hdE a) as)=D (b,cs))(e:ER cs):ek T k G pv a c:=by rw[d,<-g];exact ABC O h e
theorem E5(d:a=[]):ek T k G pv a true:=by rw[d];exact vW
theorem Km(h:k<=1000):k<=sizeLine:=AO h<|by rw[Ak];decide
theorem qp(l h:AW Aa)(ds:I DV):kQ l h ds=De l h ds:=by unfold kQ De;rw[sliceBounds_plain];have:=pick_run (AU ds) (l.elim 0<|MF<|U ds)<|h.elim (U ds) (MF<|U ds)-l.elim 0 (MF<|U ds);simp only[sliceRange_one];simpa using this
theorem vt(f:a->d)(l h:AW Aa)(xs:I a):De l h (xs.map f)=(De l h xs).map f:=by unfold De;rw[Ai,ADX,ADY]
theorem Qr(k:Aj)(xs:I a):De AQ (D (k:Aa)) xs=xs.take k:=by
 unfold De;simp only[VK,Kg,Q5,jO];rcases AFx k (U xs)with h|h
 ·rw[Jl h]
 ·rw[AAB h,List.take_length,Hi h]
theorem Uv(k:Aj)(xs:I a):De (D (k:Aa)) AQ xs=xs.drop k:=by
 unfold De;simp only[VK,Kg];rcases AFx k (U xs)with h|h
 ·rw[Jl h,Hi<|by simp]
 ·rw[AAB h,zT,F8 h];simp
theorem Gw(O:Cr T)(hz:U ds<=AY):Fm T n (AL ds) l h (AL (De l h ds)):=qp l h ds▸kT O hz
noncomputable def D8(a:Aa):Aj->I (I BB)->I (I BB)
 |_,[] =>[]
 |j,r::d=>match Bo a j with|true=>r::D8 a (j+1) d|false=>D8 a (j+1) d
noncomputable def Cn(rows:I (I BB))(a:Aa):I UInt8:=(D8 a 0 rows).flatten
theorem Nq(d:Aa):∀rs j,(D8 d j rs).flatten.length<=U rs.flatten:=by
 intro rs;induction rs with
 |nil=>
  exactλ_=>BO _
 |cons r rs e=>
  exactλj=>by
   have g:=e<|j+1;unfold D8;cases Bo d j with
   |true=>simp only[EI,Ad];exact DT [_,_,_] [.l A9 BQ] (.a B5 A9) (.a B5 BQ) [1] B g
   |false=>simp only[EI,Ad];exact DT [_,_,_] [.l A9 BQ] A9 (.a B5 BQ) [1] B g
noncomputable def GT:GV:=⟨(D2<|A6 74).names,HA,[],AQ⟩
noncomputable def OT:Expr:=EP 0<|AI0<|BA 0<|Cc<|A6 74
noncomputable def frT(rows:I (I BB))(a:Aa):BD:=[(S "rows",mw<|AL<|AV rows),(S "mask",mw<|AM a)]
theorem CN(bs:I (I BB)):(AV bs).length=U bs:=by simp[AV]
theorem fJ{j:Aj}(h:j<U bs):(AV bs)[(j:Aa).toNat]? =D (AJ bs[j]):=by show(bs.map AJ)[j]? =_;rw[Bv,AR h];rfl
theorem qq(P:HN T)(n:Aj)(rows:I (I BB))(a:Aa)(hz:U rows<=AY):∀rs j,rows.drop j=rs->EO T n (EY GT (Bd OT)) (DA GT (frT rows a) (Bd OT).names) (PY OT) (FT OT) (FY OT) (Dd j (U rs)) (AV (D8 a j rs)):=by
 intro rs;induction rs with
 |nil=>
  exactλ_ _=>Mi
 |cons r rs g=>
  exactλj h=>by
   have i:j<U rows:=by have:=BI U h;simp only[Eg,Ac]at this;exact Nat.lt_of_sub_pos<|FN (Ml _) this.symm
   have u:rows[j] =r:=by have:=E9 i;rw[h]at this;exact(HW this).1.symm
   have v:rows.drop (j+1)=rs:=by have:=E9 i;rw[h]at this;exact(HW this).2.symm
   have q:=g (j+1) v;have l:KL (j:Aa)=true:=by simp[KL]
   skip;cases d:Bo a j with
   |true=>
    have e:D8 a j (r::rs)=r::D8 a (j+1) rs:=by rw[D8,d]
    rw[e];refine HL B (GO [] (Bo a j) [KL (j:Aa)=J] P.O ⋯ d ⋯ ⟨l,AI⟩) (EC [.t<|AJ r] [CC T n (AL<|AV rows) (AM j)<|AJ r] P.O ⋯ ⟨Er (by exact Av _) (u▸fJ i)<|by rw[CN];assumption,AI⟩) q
   |false=>
    have e:D8 a j (r::rs)=D8 a (j+1) rs:=by rw[D8,d]
    rw[e];refine ay B (GO [] (Bo a j) [KL (j:Aa)=J] P.O ⋯ d ⋯ ⟨l,AI⟩) q
theorem QA(P:HN T)(n:Aj)(rows:I (I BB))(a:Aa)(hz:U rows<=1000)(e:U rows.flatten<=AY):CP T (n+1) (Ah (AH 1227)) [AL (AV rows),AM a] (AJ (Cn rows a)):=by
 refine E0 (CS P 18 1227 1226 (A6 74) (S "_law_text") AN ⋯ ⋯ ⋯ B B) λdc pm F=>?_;have hs:=Ep;have d:=Km hz;have g:Ms T n GT (frT rows a) OT (AL<|AV<|D8 a 0 rows):=
  Kl [.t<|AM<|U rows] (Dd 0<|U rows) [CP T n (Ah<|AS "len") [AL<|AV rows]<|AM<|U rows,Bf T<|Ah<|AS "len",-(2^62)<=(U rows:Aa)/\(U rows:Aa)<2^62] P.O ⋯ ⋯ ⋯ ⋯
   ⟨CN rows▸FR (by rw[CN];exact d),A3,⟨WR _,WS hz<|by decide⟩,AI⟩ (by rw[Js];exact d) (qq P n rows a d rows 0 B)
 exact JS (m:=20) (ps:=[S "rows",S "mask"]) (locs:=[]) (Fe:=[]) (as:=[.t<|AL<|AV<|D8 a 0 rows,.m (AS "bytes.join")<|AJ<|Cn rows a])
  (cs:=[Ms T n GT (frT rows a) OT<|AL<|AV<|D8 a 0 rows,H7 T n (AJ []) "join"<|AS "bytes.join",Bf T<|Ah<|AS "bytes.join",CP T n (Ah<|AS "bytes.join") [AJ [],AL<|AV<|D8 a 0 rows]<|AJ<|Cn rows a])
  P.O F (B9 P) B (P9 λu v=>by kernel_rfl!) ⋯ B (by decide+kernel) ⋯ ⋯ ⟨g,Kt,A3,P7<|AO (Nq a rows 0) e,AI⟩
noncomputable def Zw(a:Aa)(k:Aj):Int:=(a.fdiv 4+k).fmod 16
noncomputable def QB(a:Aa)(k:Aj):I UInt8:=GA.getD (Zw a k).toNat []
noncomputable def CK(a:Aa):Aj->Aj->I (I BB)
 |_,0=>[]
 |j,m+1=>QB a j::CK a (j+1) m
theorem U9:CK a j (m+1)=(QB a j::CK a (j+1) m):=B
noncomputable def Vq(a:Aa)(k:Aj):Int:=(a.fdiv<|256^k).fmod 256
noncomputable def Cp(a:Aa):Aj->Aj->I Aa
 |_,0=>[]
 |j,m+1=>Vq a j::Cp a (j+1) m
theorem bu:Cp a j (m+1)=(Vq a j::Cp a (j+1) m):=B
noncomputable def XD(o:Aa):Int:=match o==10 with
 |true=>32
 |false=>(match o==13 with|true=>32|false=>o)
noncomputable def Ht(a:I Aa):I Int:=a.map XD
noncomputable def Ig(a:Aa):Int:=a.fmod 9
noncomputable def Iq(a:Aa):I UInt8:=[37] ++IU (Ht<|Cp a 0 4)++[10]
noncomputable def Ih(d a:Aa):I (I BB):=De AQ (D<|Ig a) (CK d 0 8)++[Iq a] ++De (D<|Ig a) AQ (CK d 0 8)
noncomputable def Jv:I UInt8:=[101,110,100]
noncomputable def Jw(d a:Aa):I (I BB):=match d.fmod 2==1 with
 |true=>Ih d a++[Jv]
 |false=>Ih d a
theorem Zx:U GA=16:=by kernel_rfl!
theorem OU(a:Aa):∀m j,(CK a j m).length=m:=by
 intro m;induction m with
 |zero=>
  exactλ_=>B
 |succ m d=>
  exactλj=>by rw[U9,Ac,d]
theorem NO(a:Aa):∀m j,(Cp a j m).length=m:=by
 intro m;induction m with
 |zero=>
  exactλ_=>B
 |succ m d=>
  exactλj=>by rw[bu,Ac,d]
theorem Sq(l h:AW Aa)(xs:I a):(De l h xs).length<=U xs:=by unfold De;rw[GK,Eg];exact Vn<|BO _
theorem fK(a:Aa)(k:Aj):0<=Vq a k/\Vq a k<256:=⟨Br _<|by decide,DC _<|by decide⟩
theorem O4(a:Aa):∀m j,∀x∈Cp a j m,0<=x/\x<256:=by
 intro m;induction m with
 |zero=>
  exactλ_ x h=>nomatch h
 |succ m d=>
  exactλj x h=>by
   rcases DO h with rfl|h
   ·exact fK a j
   ·exact d (j+1) x h
theorem kh(h:0<=o/\o<256):0<=XD o/\XD o<256:=by
 unfold XD
 split
 ·decide
 ·split
  ·decide
  ·exact h
theorem Sr{d:I Aa}(h:∀x∈d,0<=x/\x<256):∀x∈Ht d,0<=x/\x<256:= λx g=>by
 (refine Ap (JY g) λy e a=>?_;subst a)
 exact kh<|h y e
noncomputable def GR:GV:=⟨(D2<|A6 71).names,HA,[],AQ⟩
noncomputable def bR:I Stmt:=Cc<|A6 71
noncomputable def ki(g e:Aa)(a b c d:PV):BD:=[(S "head",mw<|AM g),(S "total",mw<|AM e),(S "rows",a),(S "drawn",b),(S "octets",c),(S "spot",d)]
noncomputable def cR0:Expr:=Hz<|BA 0 bR
noncomputable def cR1:Expr:=Hz<|BA 1 bR
noncomputable def cR2:Expr:=EP 0<|Hz<|BA 2 bR
theorem ABG(P:HN T)(n:Aj)(a d:Aa):∀(m j:Aj),EO T n (EY GR (Bd cR0)) (DA GR (ki a d Af Af Af Af) (Bd cR0).names) (PY cR0) (FT cR0) (FY cR0) (Dd j m) (AV (CK a j m)):=by
 intro m;induction m with
 |zero=>
  exactλ_=>Mi
 |succ m e=>
  exactλj=>by
   have i:=e<|j+1;skip;have h:0<=Zw a j:=Br _<|by decide
   have q:Zw a j<16:=DC _<|by decide
   have l:(GA.map AJ).length=16:=by rw[Ai];exact Zx
   refine HL B (E5 ⋯) (EC [.t<|AJ<|QB a j] [CC T n (AL<|GA.map AJ) (AM<|Zw a j)<|AJ<|QB a j] P.O ⋯ ⟨Er h ?_<|by rw[l];exact Km<|by exact BM _ _,AI⟩) i;have g:(Zw a j).toNat<U GA:=by rw[Zx];exact RC (c:=16) h q
   rw[Bv,AR g];unfold QB;rw[Al,AR g];rfl
theorem ABH(P:HN T)(n:Aj)(e d:Aa)(a:PV):∀(m j:Aj),j+m<=4->EO T n (EY GR (Bd cR1)) (DA GR (ki e d a Af Af Af) (Bd cR1).names) (PY cR1) (FT cR1) (FY cR1) (Dd j m) (AZ (Cp d j m)):=by
 intro m;induction m with
 |zero=>
  exactλ_ _=>Mi
 |succ m g=>
  exactλj h=>by have i:=g (j+1)<|DT [_,_] [.l (.a A9<|.a BQ DB)<|.n 4] (.a (.a A9 DB) BQ) (.n 4) [1] B h;skip;refine HL B (E5 ⋯) (EC [] [VO j=J,uz (256^j)=J] P.O ⋯ ⟨by simp[VO];exact(Iz (n:=1000000)).mpr<|AO (AO (Ci ..) h)<|by decide,?_,AI⟩) i;have:=Pj [_,_] [.l (.a A9<|.a BQ DB)<|.n 4] A9 (.n 4) [1] B h;rcases j with _|_|_|_|j<;>first|decide|exact AFy<|lnF [_] [.t (.a (.a (.a (.a A9 DB) DB) DB) DB)<|.n 4] [1] B this
theorem ABI(P:HN T)(n:Aj)(i d:Aa)(a b:PV):∀h,EO T n (EY GR (Bd cR2)) (DA GR (ki i d a b Af Af) (Bd cR2).names) (PY cR2) (FT cR2) (FY cR2) (AZ h) (AZ (Ht h)):=by
 intro h;induction h with
 |nil=>
  exact Mi
 |cons o h l=>
  exact by
   have q:=l;skip;refine HL B (E5 ⋯) ?_ q;cases g:o==10 with
   |true=>
    have e:XD o=32:=by unfold XD;rw[g]
    rw[e];exact EC [.b J,.b J] [(o==10)=J,J=J] P.O ⋯ ⟨g,B,AI⟩
   |false=>
    cases j:o==13 with
    |true=>
     have e:XD o=32:=by unfold XD;rw[g,j]
     rw[e];exact EC [.b AB,.b J] [(o==10)=AB,(o==13)=J] P.O ⋯ ⟨g,j,AI⟩
    |false=>
     have e:XD o=o:=by unfold XD;rw[g,j]
     rw[e];exact EC [.b AB,.b AB] [(o==10)=AB,(o==13)=AB] P.O ⋯ ⟨g,j,AI⟩
theorem Ss(a b:I (I BB)):AV a++AV b=AV (a++b):=by simp[AV]
theorem N6(l h:AW Aa)(a:I (I BB)):De l h (AV a)=AV (De l h a):=vt _ l h a
theorem qt(e d:Aa):(Ih e d).length<=17:=by unfold Ih;simp only[Ad,Ac,BL];have h:=Sq AQ (D<|Ig d)<|CK e 0 8;have g:=Sq (D<|Ig d) AQ<|CK e 0 8;rw[OU]at h g;exact DT [_,_] [.l A9<|.n 8,.l BQ<|.n 8] (.a (.a A9<|.a Mr DB) BQ) (.n 17) [1,1] B h g
theorem vu(P:HN T)(n:Aj)(i total:Aa):CP T (n+1) (Ah (AH 1208)) [AM i,AM total] (AL (AV (Jw i total))):=by
 refine E0 (CS P 12 1208 1207 (A6 71) (S "_law_rows") AN ⋯ ⋯ ⋯ B B) λdc pm F=>?_;have hs:=Ep;have z:∀k,k<=1000->k<=sizeLine:= λk=>Km;have l8:(AV<|CK i 0 8).length=8:=by rw[CN,OU]
 have y:=Sq AQ (D<|Ig total)<|CK i 0 8;have x:=Sq (D<|Ig total) AQ<|CK i 0 8;rw[OU]at y x;have C:Fn T n GR (ki i total Af Af Af Af) (BA 0 bR) Aq (D3 (kO<|BA 0 bR) (mw<|AL<|AV<|CK i 0 8)<|ki i total Af Af Af Af):=
  GJ P.O ⋯ ⋯ (D7 [] (Dd 0 8) [-(2^62)<=(8:Aa)/\(8:Aa)<2^62] P.O ⋯ ⋯ ⋯ ⋯ ⟨⟨by decide,by decide⟩,AI⟩ (z _<|by decide)<|ABG P n i total 8 0) ⋯
 have s1:Fn T n GR (ki i total (mw<|AL<|AV<|CK i 0 8) Af Af Af) (BA 1 bR) Aq (D3 (kO<|BA 1 bR) (mw<|AL<|AZ<|Cp total 0 4)<|ki i total (mw<|AL<|AV<|CK i 0 8) Af Af Af):=
  GJ P.O ⋯ ⋯ (D7 [] (Dd 0 4) [-(2^62)<=(4:Aa)/\(4:Aa)<2^62] P.O ⋯ ⋯ ⋯ ⋯ ⟨⟨by decide,by decide⟩,AI⟩ (z _<|by decide)<|ABH P n i total _ 4 0<|by decide) ⋯
 have e2:Ms T n GR (ki i total (mw<|AL<|AV<|CK i 0 8) (mw<|AL<|AZ<|Cp total 0 4) Af Af) cR2 (AL<|AZ<|Ht<|Cp total 0 4):=
  Kl [] (AZ<|Cp total 0 4) [] P.O ⋯ ⋯ ⋯ ⋯ AI (z _<|by rw[show(AZ<|Cp total 0 4).length=4 by simp[AZ,NO]];decide) (ABI P n i total _ _<|Cp total 0 4)
 have G:=Sr<|O4 total 4 0;have lf:(Ht<|Cp total 0 4).length=4:=by unfold Ht;rw[Ai,NO]
 have N:(IU<|Ht<|Cp total 0 4).length=4:=by unfold IU;rw[Ai,lf]
 have j:∀(b:Ba) as d cs,VP (Qy (vS T n 20 ⟨(D2<|A6 71).names,HA,[],AQ⟩) (Cc<|A6 71) (EB [S "head",S "total"] [AM i,AM total] [S "rows",S "drawn",S "octets",S "spot"])
   (.v Aq (D3 (kO<|BA 0 bR) (mw<|AL<|AV<|CK i 0 8)<|ki i total Af Af Af Af):: .v Aq (D3 (kO<|BA 1 bR) (mw<|AL<|AZ<|Cp total 0 4)<|ki i total (mw<|AL<|AV<|CK i 0 8) Af Af Af)::
   .t (AL<|AZ<|Ht<|Cp total 0 4):: .t (AJ<|IU<|Ht<|Cp total 0 4):: .t (AL<|De AQ (D<|Ig total)<|AV<|CK i 0 8):: .t (AL<|De AQ (D<|Ig total) (AV<|CK i 0 8)++[AJ<|Iq total])::
   .t (AL<|De (D<|Ig total) AQ<|AV<|CK i 0 8):: .t (AL<|AV<|Ih i total)::as))=D (JF d,cs)->ER cs->CP T (n+1) (Ah<|AH 1208) [AM i,AM total] d:= λb as d cs h r=>
  JS P.O F (B9 P) B (P9 λu v=>by kernel_rfl!) ⋯ B (by decide+kernel) ⋯ h r
 have L:AV (Ih i total)=De AQ (D<|Ig total) (AV<|CK i 0 8)++[AJ<|Iq total] ++De (D<|Ig total) AQ (AV<|CK i 0 8):=by unfold Ih;rw[N6,N6,<-Ss,<-Ss];rfl
 have Q:=qt i total;have g:∀cs,ER cs->ER ([Fn T n GR (ki i total Af Af Af Af) (BA 0 bR) Aq<|D3 (kO<|BA 0 bR) (mw<|AL<|AV<|CK i 0 8)<|ki i total Af Af Af Af,
  Fn T n GR (ki i total (mw<|AL<|AV<|CK i 0 8) Af Af Af) (BA 1 bR) Aq (D3 (kO<|BA 1 bR) (mw<|AL<|AZ<|Cp total 0 4)<|ki i total (mw<|AL<|AV<|CK i 0 8) Af Af Af),
  Ms T n GR (ki i total (mw<|AL<|AV<|CK i 0 8) (mw<|AL<|AZ<|Cp total 0 4) Af Af) cR2 (AL<|AZ<|Ht<|Cp total 0 4),
  CP T n (Ah<|Ae "bytes") [AL<|AZ<|Ht<|Cp total 0 4] (AJ<|IU<|Ht<|Cp total 0 4),Bf T<|Ah<|Ae "bytes",
  Fm T n (AL<|AV<|CK i 0 8) AQ (D<|Ig total) (AL<|De AQ (D<|Ig total)<|AV<|CK i 0 8),
  ([37]:I BB).length+(IU<|Ht<|Cp total 0 4).length<=16777216,([37] ++IU (Ht<|Cp total 0 4)).length+([10]:I BB).length<=16777216,
  SU T n iY (AL<|De AQ (D<|Ig total)<|AV<|CK i 0 8) (AL [AJ<|Iq total]) (AL<|De AQ (D<|Ig total) (AV<|CK i 0 8)++[AJ<|Iq total]),
  Fm T n (AL<|AV<|CK i 0 8) (D<|Ig total) AQ (AL<|De (D<|Ig total) AQ<|AV<|CK i 0 8),
  SU T n iY (AL<|De AQ (D<|Ig total) (AV<|CK i 0 8)++[AJ<|Iq total]) (AL<|De (D<|Ig total) AQ<|AV<|CK i 0 8) (AL<|AV<|Ih i total)] ++cs):= λcs r=>by
  refine⟨C,s1,e2,Pz P.O G<|z _<|by exact BM _ _,MB,Gw P.O<|z _<|by exact BM _ _,?_,?_,JZ P.O<|z _ ?_,Gw P.O<|z _<|by exact BM _ _,L▸JZ P.O (z _ ?_),r⟩
  ·simp only[Ac,BL];exact BM _ _
  ·simp only[Ac,BL,Ad];exact BM _ _
  ·rw[N6,CN];simp only[Ac,BL];exact Bj (by assumption)<|by decide
  ·rw[Ad,N6,CN,N6,CN];simp only[Ac,BL];exact DT [_,_] [.l A9<|.n 8,.l BQ<|.n 8] (.a (.a A9<|.a Mr DB) BQ) (.n 1000) [1,1] B y x
 cases q:i.fmod 2==1 with
 |true=>
  have e:Jw i total=Ih i total++[Jv] :=by unfold Jw;rw[q]
  rw[e];exact j J [.b J,.t<|AL<|AV<|Ih i total++[Jv]] _ _ ⋯<|g [SU T n iY (AL<|AV<|Ih i total) (AL [AJ Jv])<|AL<|AV<|Ih i total++[Jv],(i.fmod 2==1)=J] ⟨Ss (Ih i total) [Jv] ▸JZ P.O (z _<|by rw[CN];simp only[Ac,BL];exact Bj (by assumption)<|by decide),q,AI⟩
 |false=>
  have e:Jw i total=Ih i total:=by unfold Jw;rw[q]
  rw[e];exact j AB [.b AB] _ _ ⋯<|g [(i.fmod 2==1)=AB] ⟨q,AI⟩
section
set_option backward.match.sparseCases true
set_option tactic.hygienic true
theorem Paired.AE0:∀ {xs:I G},Ds F xs (ys++[y])->∃i x,xs=i++[x] /\Ds F i ys/\F x y:=by
 induction ys with
 |nil=>
  intro xs h;refine Bk (AGG h) λx i e a r=>?_;exact(Ki [] x (e.trans (BI (x:: ·)<|AIw r)) (QV) a)
 |cons L ys C=>
  intro xs h;refine Bk (AGG h) λx i e a r=>?_;refine Bk (C r) λj u e1 p q=>?_;exact(Ki (x::j) u (e.trans (BI (x:: ·) e1)) (QW a p) q)
theorem bx(hp:D6 [e] =J)(i:Bf T (Ah c))
  (h:Ao (M T) A (IC e env) (λv s₁=>(∃s',s'.heap=s₁.heap/\Cm T s'/\Hs T X s₁.heap)/\Ao (M T) A (RV c (first++[v])) Q E s₁) E s):Ao (M T) A (T3 pos c first (Gc pos (C5 [e] env)) []) Q E s:=by
 rw[Lv hp];refine Ku (P:= λh'=> ∃s',s'.heap=h'/\Cm T s'/\Hs T X h') B (λh' ⟨s',e,j,g⟩=>by subst e;exact i s' X c j g<|ACX c) ?_;refine Hm ?_;show Ao _ A (do let v<-IC e env;let a<-Ce [v];return a++(<-RU a (PS<|Gc pos<|C5 [] env))) _ E s;exact AD<|DF h (λv s₁ d=>AD<|AP<|AD<|BV<|AP<|AP d) λ_ _ x=>x
theorem XE(O:Cr T)(hk:env.scope.kind=BY)(hn:C9 x=J)(hx:pv.lookup x=D (BP f (LI dss)))(N:(apos.endLine==cpos.line)=J)
  (hz:U dss<=AY)(k:R Aq (D3 x (BP AQ (LI (dss++[[]]))) pv)):SX T n env pv (NC (El (CO (Bu x p) "append" apos) [VI [] lp] [] cpos) pos) R:=by
 refine MP hk λA X Z ad s Q E g K KE=>?_;refine Fc B B B N<|JB g hx hk hn λw xa pl=>?_;refine BU w λa as eF nd pl' r=>?_;have hm:HI (ad x)=a:=by rw[eF];rfl
 rw[hm];refine HE pl'.isList.typeIs Kx aq au (λb e=>by cases e;refine BU pl' λo m i _ hd _=>?_;exact(CB o i hd)) ?_;refine bx (X:=X) B A3<|Sk (n:=n) (ds:=[]) O .nil (D1 _) A X ad s _ E g.toAr λF u j z hF w=>?_;refine Bk w λb vb eb a3 tb=>?_;obtain rfl:=tb.inv;subst eb;have S₁:=g.ext O j z;refine⟨(K0 u B z S₁.x),?_⟩;have nt: ¬T.Tab a:=by refine BU pl' λo m i _ _ hd=>?_;exact g.inv.Bn i<|by rw[hd];exact K3 B
 have v:=PM pl' λo i=>j a o nt i;have ha:a∈ad x:=by rw[eF];simp
 have a1:∀o,AA u.heap a=D o->KJ o:= λo i=>by refine BU v λo' m a5 _ _ hd=>?_;obtain rfl:=AE<|i.symm.trans a5;exact Ax<|by rw[hd];exact K3 B
 have l1:=NV r;have a0:=hF b<|by simp
 have C:∀c∈ad x,c≠b:= λc G q=>by refine FD (g.f _<|En hx) λ_ _ w' _=>?_;refine Ap (w'.fields c G) λob h1 _=>?_;rw[q,a0]at h1;exact EN h1
 refine WA v (λh' a2 hs=>?_)<|by simp only[Ab,Ai];exact DT [_,_,_] [.l A9 BQ,.e B5 A9] B5 BQ [1,1] B hz l1
 have I':Cm T {u with heap:=h'} :=by
  rcases g.x.kind a (xa a ha)with q|⟨h1,_⟩
  ·exact Ay q nt
  ·exact z.turn (s':= {u with heap:=h'}) O h1 a1 λb o ne i=>hs.extBut b o ne i
 have up:Up s.heap X h' X:= λb o i L=>⟨hs.extBut b o (λq=>L<|q▸xa a ha)<|j b o (λq=>L<|g.x.tab b q) i,L⟩;have b0:Jn X (ad x++[b]) b:=BC<|by simp
 have el:Ds (λy ds=> ∃vs,FK h' y (AU vs)/\A8 T h' (Jn X<|ad x++[b]) ds vs) (as++[b]) (dss++[[]]):=by
  refine ADZ (Paired.imp r λc ds G hh=>?_)<|CB [] (PM a3 λo i=>hs.extBut b o (λq=>C a ha q.symm) i)<|E4;refine Ap hh λvs q t=>?_;have a9:c∈ad x:=by rw[eF];simp[G]
  have a6:c≠a:= λq=>(Cj.mp nd).1<|q▸G;have a4: ¬T.Tab c:=by refine BU q λo m i _ _ hd=>?_;exact g.inv.Bn i<|by rw[hd];exact K3 B
  refine(CB vs (PM q λo i=>hs.extBut c o a6<|j c o a4 i)<|t.up O λd o i L=>?_);refine⟨(up d o i L).1,λq=>q.elim L λq=>?_⟩;rcases IF q with h|h
  ·exact L<|xa d h
  ·rw[Cx h,a0]at i;exact EN i
 obtain⟨S',hu⟩:=g.JD (s':= {u with heap:=h'}) (F':=ad x++[b]) (o':=LI<|dss++[[]]) (f':=AQ) O (En hx) I' (λb o ht hb i=>hs.extBut b o (λq=>hb<|q▸ha)<|j b o ht i) (by rw[eF];rfl) (λc G=>by
   rcases IF G with h|h
   ·exact Ax h
   ·rw[Cx h];exact BC a0) λb hb=>by simp[hb]
  ⟨a,as++[b],by rw[eF];rfl,by
   rw[<-Iw,EH];exact⟨nd,by simp,λc G c' a8 q=>C c (eF▸G)<|by rw[q];exact Cx a8⟩,by
   rw[NY]at a2;rw[Cv];exact a2,el⟩ (λ_ h=>EN h)
 exact K _ _ _ _ k hu S'
theorem bz(O:Cr T)(hk:env.scope.kind=BY)(hn:C9 x=J)(hx:pv.lookup x=D (BP f (LI (dss++[ds]))))(hp:D6 [e] =J)(a4:(apos.endLine==cpos.line)=J)
  (hi:UN ie=AQ)(b5:Ev T n env pv ie (AM (U dss)))(he:Ev T n env pv e d)(c5:U dss<=AY)(hz:U ds<=AY)(k:R Aq (D3 x (BP f (LI (dss++[ds++[d]]))) pv)):SX T n env pv (NC (El (CO (H9 (Bu x p) ie c2) "append" apos) [e] [] cpos) pos) R:=by
 refine MP hk λA X Z ad s Q E g K KE=>?_;have c3:=Ep;refine Fc B hp B a4 ?_;rw[jI];refine AD<|JB g hx hk hn λw xa=>?_;refine AD<|BV<|b5 A X ad s _ E g.toAr λiv s₁ j a9 t₁=>AD<|Dq ?_
 (refine Dx t₁.inv λtk e_=>?_;subst e_)
 have S₁:=g.ext O j a9;refine BU w λa as eF nd a2 r=>?_;have hm:HI (ad x)=a:=by rw[eF];rfl
 rw[hm];obtain⟨as',b,rfl,r',vs,a8,tb⟩:=Paired.AE0 r;have l1:=NV r';have nt: ¬T.Tab a:=by refine BU a2 λo m i _ _ L=>?_;exact g.inv.Bn i<|by rw[L];exact K3 B
 have a3: ¬T.Tab b:=by refine BU a8 λo m i _ _ L=>?_;exact g.inv.Bn i<|by rw[L];exact K3 B
 have pl₁:=PM a2 λo i=>j a o nt i;have plb₁:=PM a8 λo i=>j b o a3 i;have ha:a∈ad x:=by rw[eF];simp
 have hb:b∈ad x:=by rw[eF];simp
 have l2:=tb.length;have b9:Ao (M T) A (getItem (AH a)<|EF (U dss:Aa) tk) (λr s₂=>r=AH b/\s₂=s₁) E s₁:=
  ADT pl₁.isList (Av _) (by omega) (by simp[<-l1]) ⟨B,B⟩
 refine AD ?_;rw[SH pl₁.isList.typeIs.not_modules];refine AD<|R7 pl₁.isList.typeIs Yo.lookup ?_;have a5:Ao (M T) A (dF ie AB (AH a)<|EF (U dss:Aa) tk) (λr a0=>Ao (M T) A (jJ (Bu x p) (AH a) r>>= λ_=>Ce r) (λov s₁=> ∀pl,Ao (M T) A (ak ov "append" pl) (λr s₂=>Ao (M T) A (T3 cpos r.1 r.2 (Gc cpos<|C5 [e] env) []) Q E s₂) E s₁) E a0) E s₁:=by
  rw[M1 hi];refine dT<|DF b9 (λr a0 b0=>AD<|T6<|AP ?_) λ_ _ x=>x
  (refine F3 b0 λc1 c0=>?_;subst c1;subst c0)
  intro pl;refine HE plb₁.isList.typeIs Kx aq au (λc e=>by cases e;refine BU plb₁ λo m i _ L _=>?_;exact(CB o i L)) ?_;have b6:GH T n env pv [e] [d] :=Qt he (λy q h=>by subst h;exact Pm hp) .nil;refine GI O b6 A3 S₁.toAr λws s₂ N a1 C=>?_;cases C with
  |cons C r0=>
  obtain rfl:=r0.inv
  rename_i v
  have u:=PM plb₁ λo i=>N b o a3 i;have z:=j.trans N;have c4:=g.ext O z a1;have a6:∀o,AA s₂.heap b=D o->KJ o:= λo i=>by refine BU u λo' m b4 _ _ L=>?_;obtain rfl:=AE<|i.symm.trans b4;exact Ax<|by rw[L];exact K3 B
  refine WA u (λh' b1 hs=>?_)<|by simp only[Ab];exact DT [_,_,_] [.l A9 BQ,.e B5 A9] B5 BQ [1,1] B hz l2
  have I':Cm T {s₂ with heap:=h'} :=by
   rcases g.x.kind b (xa b hb)with q|⟨h1,_⟩
   ·exact Ay q a3
   ·exact a1.turn (s':= {s₂ with heap:=h'}) O h1 a6 λb o ne i=>hs.extBut b o ne i
  have up:Up s.heap X h' X:= λc o i nx=>⟨hs.extBut c o (λq=>nx<|q▸xa b hb)<|z c o (λq=>nx<|g.x.tab c q) i,nx⟩;have b2:Up s₂.heap X h' X:= λc o i nx=>⟨hs.extBut c o (λq=>nx<|q▸xa b hb) i,nx⟩;have hX:∀b,Jn X (ad x) b->X b:= λb hb=>hb.elim id<|xa b;have b8:a≠b:= λq=>(Cj.mp nd).1<|by rw[q];simp
  have el:Ds (λb ds=> ∃vs,FK h' b (AU vs)/\A8 T h' (Jn X<|ad x) ds vs) (as'++[b]) (dss++[ds++[d]]):=by
   refine ADZ (Paired.imp r' λc es hc hh=>?_)<|CB (vs++[v]) (by rw[NY]at b1;exact b1)<|((tb.up O up).append<|Cw (C.up O b2) E4).less O hX;refine Ap hh λus q t=>?_;have b7:c≠b:= λq=>by
    rw[Cj]at nd;have:=(EH.mp nd.2).2.2 c hc b<|by simp
    exact this q
   have b3: ¬T.Tab c:=by refine BU q λo m i _ _ L=>?_;exact g.inv.Bn i<|by rw[L];exact K3 B
   exact(CB us (PM q λo i=>hs.extBut c o b7<|z c o b3 i)<|(t.up O up).less O hX)
  obtain⟨S',hu⟩:=g.JD (s':= {s₂ with heap:=h'}) (F':=ad x) (o':=LI<|dss++[ds++[d]]) (f':=f) O (En hx) I' (λc o ht hc i=>hs.extBut c o (λq=>hc<|q▸hb)<|z c o ht i) B (λc hc=>Ax hc) (λc hc=>hc)
   ⟨a,as'++[b],eF,nd,PM a2 λo i=>hs.extBut a o b8<|z a o nt i,el⟩ (λG hG=>by refine FD (g.f _<|En hx) λ_ _ _ fx=>?_;exact fx G hG)
  exact K _ _ _ _ k hu S'
 first
  |exact AP<|AD a5
  |exact AD<|AP<|AD a5
  |exact AD a5
end
noncomputable def Qf(a:I (I BB))(x:I BB):Bool:=a.any λb=>b==x
theorem UT(x:I BB)(bs:I (I BB)):ir 5 (AJ x) (AV bs)=D (Qf bs x):=by
 induction bs with
 |nil=>rfl
 |cons b r a=>
  show(Lu 5 (AJ b)<|AJ x).bind (λc=>(ir 5 (AJ x)<|AV r).bind λy=>D<|c||y)=_;rw[a];rfl
noncomputable def Jx(a:I (I BB)):I (I (I BB))->I (I BB)->I (I BB)->I (I (I BB))×I (I BB)
 |i,l,[] =>(i,l)
 |i,l,x::r=>match Qf a x with|true=>Jx a (i++[l]) [] r|false=>Jx a i (l++[x]) r
theorem XF:Jx a i l (x::r)=(match Qf a x with|true=>Jx a (i++[l]) [] r|false=>Jx a i (l++[x]) r):=B
noncomputable def Fo(a d:I (I BB)):I (I (I BB)):=(Jx d [] [] a).1++[(Jx d [] [] a).2]
noncomputable def JV(a:I (I (I BB))):I (I DV):=a.map AV
noncomputable def GC:GV:=⟨(D2<|A6 78).names,HA,[S "parts"],AQ⟩
noncomputable def bC:I Stmt:=Cc<|A6 78
noncomputable def Zy:Stmt:=BA 1 bC
noncomputable def Zz(d e:I (I BB))(a b:PV):BD:=[(S "lines",mw<|AL<|AV d),(S "kept",mw<|AL<|AV e),(S "parts",a),(S "line",b)]
noncomputable def XG:I (I BB)->PV->PV
 |[],b=>b
 |x::r,_=>XG r (mw (AJ x))
theorem vv:XG (x::r) a=(XG r (mw (AJ x))):=B
noncomputable def VA(e:Ct):Expr:=if h:e.ctorIdx=24 then PF (motive_2:= λ_=>A2) e h λe _=>e else XC
noncomputable def AC4(e:Ct):Pos:=if h:e.ctorIdx=24 then PF (motive_2:= λ_=>LH) e h λ_ p=>p else BN
noncomputable def oY(e:A2):Expr:=if h:(KO e).ctorIdx=20 then EW (motive_1:= λ_=>A2) (KO e) h λo _ _=>o else XC
noncomputable def oZ(e:A2):Pos:=if h:(KO e).ctorIdx=20 then EW (motive_1:= λ_=>LH) (KO e) h λ_ _ p=>p else BN
noncomputable def Nr(e:A2):Pos:=if h:e.ctorIdx=23 then H5 (motive_1:= λ_=>LH) e h λ_ p=>p else if h:e.ctorIdx=16 then Dr (motive_1:= λ_=>LH) e h λ_ _ _ p=>p else if h:e.ctorIdx=21 then Dv (motive_1:= λ_=>LH) e h λ_ _ p=>p else if h:e.ctorIdx=24 then Ln (motive_1:= λ_=>LH) e h λ_ p=>p else if h:e.ctorIdx=25 then Il (motive_1:= λ_=>LH) e h λ_ _ p=>p else BN
noncomputable def AEB(e:A2):Expr:=if h:e.ctorIdx=21 then Dv (motive_1:= λ_=>A2) e h λ_ i _=>i else XC
noncomputable def exV(e:A2):Expr:=if h:e.ctorIdx=21 then Dv (motive_1:= λ_=>A2) e h λv _ _=>v else XC
noncomputable def fL(e:A2):Str:=if h:e.ctorIdx=23 then H5 (motive_1:= λ_=>Bt) e h λx _=>x else BN
theorem ko(O:Cr T){st:Ct}(a:st=Fg [Bu (kO st) (AD8 st)] (VI [VI [] (Nr (AGf 0 (Hz st)))] (Nr (Hz st))) (vj st))(d:(JK G (kO st)&&nf pv (kO st))=J):Fn T n G pv st Aq (D3 (kO st) (BP AQ (LI [[]])) pv):= λenv K=>by rw[a];exact MO O K.kind (AAq O) ⟨K.stores (Ew d).1,Nf (Ew d).2⟩ ⟨B,B⟩ B
noncomputable def AC5:Stmt:=BA 0<|zd<|BA 0<|DR Zy
noncomputable def AC6:Stmt:=BA 0<|ifB<|BA 0<|DR Zy
theorem kq(O:Cr T){st:Ct}(a:st=NC (El (CO (Bu (fL (oY (VA st))) (Nr (oY (VA st)))) "append" (oZ (VA st))) [VI [] (Nr (EP 0 (VA st)))] [] (Nr (VA st))) (AC4 st))(e:C9 (fL (oY (VA st)))=J)
  (d:CY (fL (oY (VA st))) pv=D (BP f (LI dss)))(g:((oZ (VA st)).endLine==(Nr (VA st)).line)=J)(hz:U dss<=AY):Fn T n G pv st Aq (D3 (fL (oY (VA st))) (BP AQ (LI (dss++[[]]))) pv):= λenv K=>by
 rw[a];exact XE O K.kind e (FF▸d) g hz ⟨B,B⟩
theorem fM(O:Cr T){st:Ct}
  (e:st=NC (El (CO (H9 (Bu (fL (exV (oY (VA st)))) (Nr (exV (oY (VA st))))) (AEB (oY (VA st))) (Nr (oY (VA st)))) "append" (oZ (VA st))) [EP 0 (VA st)] [] (Nr (VA st))) (AC4 st))(i:C9 (fL (exV (oY (VA st))))=J)
  (h:CY (fL (exV (oY (VA st)))) pv=D (BP f (LI (dss++[ds]))))(hp:D6 [EP 0 (VA st)] =J)(l:UN (AEB (oY (VA st)))=AQ)(j:((oZ (VA st)).endLine==(Nr (VA st)).line)=J)
  (r:Gm (vE T n m G (lend pv) (AEB (oY (VA st))) as)=D (AM k,cs))(g:k=U dss)(v:ER cs)(q:Gm (vE T n m G pv (EP 0 (VA st)) as')=D (d,cs'))(u:ER cs')(a:U dss<=AY)(hz:U ds<=AY):Fn T n G pv st Aq (D3 (fL (exV (oY (VA st)))) (BP f (LI (dss++[ds++[d]]))) pv):= λenv K=>by
 rw[e];exact bz O K.kind i (FF▸h) hp j l (g▸nq O ((Io O K m).1 _ _ _ _ _ (HM r) v) B) ((Io O K m).1 _ _ _ _ _ (HM q) u) a hz ⟨B,B⟩
theorem Z0(i:I (I (I BB)))(l:I (I BB)):JV (i++[l])=JV i++[AV l] :=by simp[JV]
theorem vw(P:HN T)(n:Aj)(g d:I (I BB)):∀r i l b,U i+U l+U r<=1000->KN T n GC (Kk Zy) (DR Zy) (Zz g d (BP AQ (LI (JV i++[AV l]))) b) (AV r) Aq (Zz g d (BP AQ (LI (JV (Jx d i l r).1++[AV (Jx d i l r).2]))) (XG r b)):=by
 intro r;induction r with
 |nil=>
  exactλi l b _=>.done
 |cons x r u=>
  exactλi l b h=>by
   have hz:= λk=> @Km k;have q:(JV i).length=U i:=by simp[JV]
   simp only[Ac]at h;skip;have j:∀c,Qf d x=c->Cg T n Yi (AJ x) (AL<|AV d) c:= λc e=>e▸K4 (UT x d);rw[XF,vv];cases e:Qf d x with
   |true=>
    have s1:Fn T n GC (Zz g d (BP AQ<|LI<|JV i++[AV l])<|mw<|AJ x) AC5 Aq (Zz g d (BP AQ<|LI<|JV (i++[l])++[AV []])<|mw<|AJ x):=by rw[Z0];exact kq (f:=AQ) P.O ⋯ ⋯ ⋯ ⋯<|hz _<|by simp only[Ad,Ac,BL];exact DT [_,_,_,_] [.l (.a (.a A9 BQ)<|.a B5 DB)<|.n 1000,.e Jj A9] (.a Jj<|.a Mr DB) (.n 1000) [1,1] B h q
    exact .step B (Ee [.b J,.b J,.v Aq<|Zz g d (BP AQ<|LI<|JV (i++[l])++[AV []])<|mw<|AJ x] [Cg T n Yi (AJ x) (AL<|AV d) J,Fn T n GC (Zz g d (BP AQ<|LI<|JV i++[AV l])<|mw<|AJ x) AC5 Aq<|Zz g d (BP AQ<|LI<|JV (i++[l])++[AV []])<|mw<|AJ x,J=J] P.O ⋯ ⟨j _ e,s1,B,AI⟩)
     (u (i++[l]) [] _<|by simp only[Ad,Ac,BL];exact DT [_,_,_] [.l (.a (.a A9 BQ)<|.a B5 DB)<|.n 1000] (.a (.a (.a A9<|.a Mr DB) Mr) B5) (.n 1000) [1] B h)
   |false=>
    have y:AV (l++[x])=AV l++[AJ x] :=by simp[AV]
    have s2:Fn T n GC (Zz g d (BP AQ<|LI<|JV i++[AV l])<|mw<|AJ x) AC6 Aq (Zz g d (BP AQ<|LI<|JV i++[AV<|l++[x]])<|mw<|AJ x):=by
     rw[y];exact fM (f:=AQ) (m:=20) (as:=[.t<|AM<|(JV i).length+1]) (as':=[]) (cs:=[CP T n (Ah<|AS "len") [AL<|(JV i++[AV l]).map AL]<|AM<|(JV i).length+1,Bf T<|Ah<|AS "len"]) (cs':=[]) P.O ⋯ ⋯ ⋯ ⋯ ⋯ ⋯
      (k:=((JV i).length+1:Aa)-1) ⋯ (Tw ..) ⟨by
       have:=FR (T:=T) (n:=n) (ds:=(JV i++[AV l]).map AL)<|hz _<|by simp only[Ai,Ad,Ac,BL];exact DT [_,_,_,_] [.l (.a (.a A9 BQ)<|.a B5 DB)<|.n 1000,.e Jj A9] (.a Jj<|.a Mr DB) (.n 1000) [1,1] B h q
       simp only[Ai,Ad,Ac,BL]at this⊢
       exact_mod_cast this,A3,AI⟩ ⋯ AI (hz _<|DT [_,_,_,_] [.l (.a (.a A9 BQ)<|.a B5 DB)<|.n 1000,.e Jj A9] Jj (.n 1000) [1,1] B h q) (hz _<|by rw[CN];exact DT [_,_,_] [.l (.a (.a A9 BQ)<|.a B5 DB)<|.n 1000] BQ (.n 1000) [1] B h)
    exact .step B (Ee [.b AB,.b AB,.v Aq<|Zz g d (BP AQ<|LI<|JV i++[AV<|l++[x]])<|mw<|AJ x] [Cg T n Yi (AJ x) (AL<|AV d) AB,Fn T n GC (Zz g d (BP AQ<|LI<|JV i++[AV l])<|mw<|AJ x) AC6 Aq<|Zz g d (BP AQ<|LI<|JV i++[AV<|l++[x]])<|mw<|AJ x,AB=AB] P.O ⋯ ⟨j _ e,s2,B,AI⟩)
     (u i (l++[x]) _<|by simp only[Ad,Ac,BL];exact DT [_,_,_] [.l (.a (.a A9 BQ)<|.a B5 DB)<|.n 1000] (.a (.a A9<|.a BQ<|.a Mr DB) B5) (.n 1000) [1] B h)
theorem ABJ(P:HN T)(n:Aj)(lines d:I (I BB))(hz:U lines<=900):CP T (n+1) (Ah (AH 1255)) [AL (AV lines),AL (AV d)] (AL ((JV (Fo lines d)).map AL)):=by
 refine E0 (CS P 26 1255 1254 (A6 78) (S "_law_cut") AN ⋯ ⋯ ⋯ B B) λdc pm F=>?_;have g:Fn T n GC (Zz lines d (BP AQ<|LI [[]]) Af) Zy Aq (Zz lines d (BP AQ<|LI<|JV (Jx d [] [] lines).1++[AV (Jx d [] [] lines).2])<|XG lines Af):=
  JL [] (AV lines) [] P.O ⋯ ⋯ ⋯ ⋯ AI (vw P n lines d lines [] [] Af<|by simp only[BL];exact DT [_] [.l A9<|.n 900] (.a (.a Mr Mr) A9) (.n 1000) [1] B hz)
 have e:JV (Fo lines d)=JV (Jx d [] [] lines).1++[AV (Jx d [] [] lines).2] :=by unfold Fo;rw[Z0]
 rw[e];exact JS (m:=20) (ps:=[S "lines",S "kept"]) (locs:=[S "parts",S "line"]) (Fe:=[S "parts"]) (as:=[.v Aq<|Zz lines d (BP AQ<|LI [[]]) Af,.v Aq<|Zz lines d (BP AQ<|LI<|JV (Jx d [] [] lines).1++[AV (Jx d [] [] lines).2])<|XG lines Af,.fz<|S "parts"])
  (cs:=[Fn T n GC (Zz lines d Af Af) (BA 0 bC) Aq<|Zz lines d (BP AQ<|LI [[]]) Af,Fn T n GC (Zz lines d (BP AQ<|LI [[]]) Af) Zy Aq<|Zz lines d (BP AQ<|LI<|JV (Jx d [] [] lines).1++[AV (Jx d [] [] lines).2])<|XG lines Af])
  P.O F (B9 P) B (P9 λu v=>by kernel_rfl!) ⋯ B (by decide+kernel) ⋯ ⋯ ⟨ko P.O ⋯ ⋯,g,AI⟩
theorem ZH:∀a n acc,B3 n a acc=B3 n a [] ++acc:=by
 intro a;induction a with
 |nil=>
  exactλ_ _=>B
 |cons e r d=>
  obtain⟨x,k⟩:=e;exactλn acc=>by
   unfold B3
   split
   ·rw[d (n+1)<|(x,n)::acc,d (n+1) [(x,n)],DN];rfl
   ·exact d n acc
theorem IM:∀ {a b:I (Bt×g)},(a++b).lookup x=(a.lookup x).or (b.lookup x):=by
 intro a;induction a with
 |nil=>
  exact @λ_=>B
 |cons d r e=>
  obtain⟨y,v⟩:=d;exact @λb=>by
   rw[Iw,CE,CE];cases x==y with
   |true=>rfl
   |false=>exact e
section
variable{M:Model}{A:Around}{E:Value->Shared->Prop}{s₀ s:Shared}{m cm:Str->Option Value}{env:Env}{cs:List (Str×Addr)}
theorem AI3(x:Yq s₀ env.locals m cs cm s)(q:env.scope.kind=BY)(l:env.kindOf n=D .local)
  (h:∀s',Yq s₀ env.locals (λy=>if y=n then D v else m y) cs cm s'->Q () s'):Ao M A (Ic env n v) Q E s:=by
 refine L6 l x.toInCall.ns (λh' d a=>h _ ⟨⟨?_,d,λb o e=>?_,x.toInCall.fresh⟩,λk c j=>?_,x.apart,x.above⟩)<|by rw[q];rfl
 ·(refine E0 x.toInCall.same λi tk g=>?_;subst g)
  exact(NJ h' _ B)
 ·exact a.extBut b o (I7<|Dz (BS e) x.toInCall.fresh)<|x.toInCall.keep b o e
 ·exact(x.cell k c j).sameBut a<|AFv<|x.above k c<|BW j
theorem AI4(x:Yq s₀ env.locals m cs cm s)(z:env.scope.kind=BY)(u:env.kindOf n=D BX)
  (C:env.cells.lookup n=D c)(a:cs.lookup n=D c)
  (h:∀s',Yq s₀ env.locals m cs (λy=>if y=n then D v else cm y) s'->Q () s'):Ao M A (Ic env n v) Q E s:=by
 have j:=x.above n c<|BW a;refine T4 z u C (x.cell n c a) λh' r d=>h _ ⟨⟨?_,x.toInCall.ns.sameBut d<|I7 j,λb o e=>?_,x.toInCall.fresh⟩,λk G i=>?_,x.apart,x.above⟩
 ·(refine E0 x.toInCall.same λq tk l=>?_;subst l)
  exact(NJ h' _ B)
 ·exact d.extBut b o (I7<|jP (Dz (BS e) x.toInCall.fresh) j)<|x.toInCall.keep b o e
 ·by_cases g:k=n
  ·subst g;obtain rfl:=AE<|a.symm.trans i;simpa using r
  ·rw[CQ g];exact(x.cell k G i).sameBut d λe=>g<|name_of_addr x.apart (BW i)<|e▸BW a
theorem fN(C:∀x c,cs.lookup x=D c->env.cells.lookup x=D c)(f:Bt×Am->PUnit->Sem (tU PUnit))(hf:∀n v u,f (n,v) u=(do Ic env n v;Ce (JG ⟨⟩)))(N:env.scope.kind=BY):
  ∀a m cm s Q,Yq s₀ env.locals m cs cm s->
   (∀x∈a,env.kindOf x.1=D .local\/(env.kindOf x.1=D BX/\(cs.lookup x.1).isSome=J))->
   (∀s',Yq s₀ env.locals (AE6 env.kindOf a m) cs (jE env.kindOf a cm) s'->Q ⟨⟩ s')->Ao M A (tQ a ⟨⟩ f) Q E s:=by
 intro a;induction a with
 |nil=>
  exactλm cm s Q x _ h=>by rw[Mw];exact AP<|h s x
 |cons z r G=>
  obtain⟨n,v⟩:=z;exactλm cm s Q x d h=>by
   rw[Gu,hf];have L:∀y∈r,env.kindOf y.1=D .local\/(env.kindOf y.1=D BX/\(cs.lookup y.1).isSome=J):= λy O=>d y<|my _ O;rcases d (n,v) Hh with i|⟨i,l⟩
   ·refine AD (AD<|AI3 x N i λs' q=>AP<|G _ _ s' Q q L λg e=>h g ?_);unfold AE6 jE;rw[Dh i,Dh i];exact e
   ·obtain⟨c,l⟩:=SN l;have j: ¬env.kindOf n=D .local:=by rw[i];decide
    refine AD<|AD<|AI4 x N i (C _ _ l) l λs' q=>AP<|G _ _ s' Q q L λg e=>h g ?_;unfold AE6 jE;rw[CQ j,CQ j];exact e
theorem XH{g:Am}
  (y:scope.kind=BY)
  (l:∀x∈d,scope.names.lookup x.1=D .local\/(scope.names.lookup x.1=D BX/\((B3 (AK s.heap.objs+1) scope.names []).lookup x.1).isSome=J))
  (C:∀env,env=newEnv scope (AK s.heap.objs) globals (B3 (AK s.heap.objs+1) scope.names [] ++Cd) i j g AQ a->
   ∀s',Yq s env.locals (AE6 env.kindOf d λ_=>AQ) (B3 (AK s.heap.objs+1) scope.names []) (jE env.kindOf d λ_=>AQ) s'->Q env s'):
  Ao M A (LM scope globals Cd d i j g AQ a) Q E s:=by
 simp only[LM,nC,DW,Ho];refine AD<|wpAny_alloc ?_;refine AD<|AIk _ (λname q v=>by cases u:q==BX<;>simp[u]) _ _ _ _ ?_;have ok:=cellsFrom_ok scope.names (s.heap.push {cls:=Ae "frame",data:=Gr #[] }) (AK s.heap.objs+1) [] ⟨λ_ _ r=>(nomatch r),PE⟩<|by rw[EM];exact BO _
 rw[EM]at ok;rw[show({s with heap:=s.heap.push {cls:=Ae "frame",data:=Gr #[] } } :Bq).heap.objs.size=AK s.heap.objs+1 from EM ..,ZH];refine AD (fN (s₀:=s) (cs:=B3 (AK s.heap.objs+1) scope.names []) (env:=newEnv scope (AK s.heap.objs) globals (B3 (AK s.heap.objs+1) scope.names [] ++Cd) i j g AQ a)
  (λx c h=>by show(B3 (AK s.heap.objs+1) scope.names [] ++Cd).lookup x=_;rw[IM,h];rfl) _ (λ_ _ _=>B) y d (λ_=>AQ) (λ_=>AQ) _ _
  ⟨⟨(NJ _ _ B),(Heap.Ns.new s.heap<|Ae "frame").keeps<|AHy _ _,λb o e=>AHy _ _ b o<|AX _ e,BO _⟩,
   λn c z=>(ok.empty n c<|BW z).1,ok.apart,λn c r=>(ok.empty n c r).2⟩
  l λs' x=>AP<|C _ B s' x)
end
noncomputable def DS(fd:T1)(L a:Az):Env:=newEnv fd.scope L fd.globals (B3 (L+1) fd.scope.names [] ++fd.closure) (fd.qualname++ ".<locals>.") (D a) fd.code AQ fd.builtins
noncomputable def Su(sc:R4)(ES:I Bt):Bool:=ES.all λy=>CY y sc.names==D Bm&& !(CY y<|B3 0 sc.names []).isSome
theorem fP(h:Su sc ES=J):∀y∈ES,sc.names.lookup y=D Bm/\ ∀k,(B3 k sc.names []).lookup y=none:= λy d=>by
 have h:=Ew<|Kz h y d;refine⟨FF.symm.trans<|F7 h.1,λk=>?_⟩;cases e:(B3 k sc.names []).lookup y with
 |none=>rfl
 |some c=>
  have q:((B3 0 sc.names []).lookup y).isSome=true:=by rw[Fy,R6 sc.names 0 k [] [] B,<-Fy,e];rfl
  have a:=(CR _).mp h.2;rw[FF,q]at a;cases a
theorem Ro:∀ {ES:I Bt} {cs:I Az},ES.Nodup->(x,c)∈ES.zip cs->(ES.zip cs).lookup x=D c
 |[],_,_,h=>by simp at h
 |_::_,[],_,h=>by simp at h
 |y::ES,b::cs,hn,h=>by
  rw[DU,CE];rw[DU]at h;rw[Cj]at hn;rcases DO h with e|h
  ·cases e;simp
  ·have:x≠y:= λq=>hn.1 (q▸(Df (a:=x) (b:=c) h).1);have:(x==y)=false:=by simpa using this
   rw[this];exact Ro hn.2 h
theorem O5{ES:I Bt}{cs:I Az}(h:(ES.zip cs).lookup x=D c):x∈ES/\c∈cs:=Df<|BW h
theorem ku:∀ {ES:I Bt} {cs:I Az},cs.Nodup->(ES.zip cs).Pairwise λx y=>x.2≠y.2
 |[],_,_=>PE
 |_::_,[],_=>PE
 |y::ES,b::cs,hn=>by rw[DU,tP];rw[Cj]at hn;exact⟨λp hp q=>hn.1 ((show b=p.2 from q)▸(Df (a:=p.1) (b:=p.2) hp).2),ku hn.2⟩
theorem vx:∀ {ES:I Bt} {cs:I Az} {vs:I Am} {xs:I DV},Ds (λc v=>h.IsCell c (D v)) cs vs->A8 T h X xs vs->(y,mw t)∈ES.zip (Se xs)->U ES=U cs->∃c v,(y,c)∈ES.zip cs/\h.IsCell c (D v)/\Tr T h X t v:=by
 intro ES;induction ES with
 |nil=>exactλ_ _ e=>Ay e Au
 |cons f ES i=>
  intro cs vs xs hp tr e l;cases xs with
  |nil=>exact nh (ps:=f::ES) e
  |cons d xs=>
   obtain⟨v,ws,rfl,a,r⟩:=tr.inv;cases hp with
   |cons u j=>
    rcases DO e with q|q
    ·obtain⟨rfl,g⟩:=FL q;exact(Ki _ v (B0 _) u<|AGD g▸a)
    ·exact(i j r q<|OB l).imp λc h=>h.imp λv h=>⟨Cb _ h.1,h.2⟩
theorem IV(O:Cr T){ps locs ES:I Bt}
  (a:Le (n+1) A)(d:Cm T s)(x:Hs T X s.heap)(ta:A8 T s.heap X ds vs)(tx:A8 T s.heap X xs ws)(b0:Ds (λc v=>s.heap.IsCell c (D v)) cs ws)(nx:∀c∈cs,¬X c)(c9:cs.Nodup)
  (a5:fd.closure=ES.zip cs)(c0:U ES=U cs)(b9:Su fd.scope ES=J)(hl:U ps=U ds)(a9:(ps++locs++ES).Nodup)(hk:fd.scope.kind=BY)
  (a3:∀x∈ps,fd.scope.names.lookup x=D .local\/(fd.scope.names.lookup x=D BX/\((B3 0 fd.scope.names []).lookup x).isSome=J))
  (K:∀X₁ s₁,(∀b,X b->X₁ b)->(∀b o,AA s.heap b=D o->AA s₁.heap b=D o)->Sx T n (A.deeper (DS fd (AK s.heap.objs) f)) X₁ (DS fd (AK s.heap.objs) f) (EB ps ds locs++ES.zip (Se xs)) (AA s.heap) (λ_=>[]) s₁->Q (DS fd (AK s.heap.objs) f) s₁):
  Ao (M T) A.in1 (LM fd.scope fd.globals fd.closure (ps.zip vs) (fd.qualname++ ".<locals>.") (D f) fd.code AQ fd.builtins) Q E s:=by
 have b8:=ta.length;have b7:∀p∈ps.zip vs,p.1∈ps:= λp hp=>(Df (a:=p.1) (b:=p.2) hp).1;have b6:=(EH.mp a9).1;have b5:=(EH.mp a9).2.1;have b4:((ps.zip vs).map CZ).Nodup:=by rw[FJ<|DT [_,_,_] [.e A9 BQ,.e B5 BQ] A9 B5 [1,-1] B hl b8];exact(EH.mp b6).1
 refine XH hk (λp hp=>?_) λenv l s₁ C=>?_
 ·rcases a3 p.1 (b7 p hp)with h|⟨h,h'⟩
  ·exact Ax h
  ·exact BC ⟨h,IT h'⟩
 have a4:DS fd (AK s.heap.objs) f=env:=by rw[l,a5];unfold DS;rw[a5]
 have hL:env.locals=AK s.heap.objs:=by rw[l];rfl
 have hN:∀y,env.kindOf y=fd.scope.names.lookup y:= λy=>by rw[l];rfl
 generalize a8:B3 (AK s.heap.objs+1) fd.scope.names [] =G at C l;have hC:env.cells=G++ES.zip cs:=by rw[l,a5];rfl
 rw[a4]at K;clear l a4;have i:∀b,AK s.heap.objs<=b->AA s.heap b=none:= λb hb=>by
  cases e:AA s.heap b with
  |none=>rfl
  |some o'=>exact Ay (BS e)<|G6.mpr hb
 have b1:∀y c,G.lookup y=D c->AK s.heap.objs<c:= λy c hc=>by have:=C.above y c<|BW hc;rwa[hL]at this
 have c1:∀c∈cs,∃o,AA s.heap c=D o:= λc hc=>(by refine I9 (Paired.N4 b0 hc) λv o ho _=>?_;exact⟨o,ho⟩);have a6:∀b,AA s.heap b=AQ->AA T.H1 b=none:= λb hb=>(Du d hb).1;refine I9 C.done λd0 tk a0 c6=>?_;have j:∀b o,AA s.heap b=D o->AA s₁.heap b=D o:=by rw[a0];exact c6
 have c2:=d.keeps O j (by rw[a0])<|by rw[a0]
 have X0:=x.ext d<|C1.of_keeps j
 let X₁:Az->Prop:= λb=>X b\/b=env.locals\/ ∃y,G.lookup y=D b
 have b2:∀b,X b->X₁ b:= λb hb=>Ax hb;refine FW (id C.toInCall.ns) λoL d2 d3 c4 c8 d1=>?_;have r:∀y c,G.lookup y=D c->s₁.heap.IsCell c (jE env.kindOf (ps.zip vs) (λ_=>AQ) y):= λy c hc=>C.cell y c hc;have X1:Hs T X₁ s₁.heap:=⟨λb hb=>Ax<|x.tab b hb,λb hb=>by
  rcases hb with hb|rfl|⟨y,hy⟩
  ·exact X0.kind b hb
  ·exact BC ⟨a6 _<|i _<|by rw[hL];exact BO _,oL,c4,Ax<|by rw[c8];exact K3 B⟩
  ·refine Ap (r y b hy) λoc c3 c7=>?_;exact BC ⟨a6 _<|i _<|C7<|b1 y b hy,oc,c3,Ax<|by rw[c7];exact K3 B⟩⟩
 have a2:Up s.heap X s₁.heap X₁:= λb ob e nx=>⟨j b ob e,λq=>by
  rcases q with q|rfl|⟨y,hy⟩
  ·exact nx q
  ·(exact EN<|(i _<|by rw[hL];exact BO _).symm.trans e)
  ·exact EN<|(i _<|C7<|b1 y b hy).symm.trans e⟩
 have DY:∀y∈ES,env.kindOf y=D Bm/\G.lookup y=none:= λy hy=>by refine F3 (fP b9 y hy) λL u=>?_;exact⟨by rw[hN];exact L,a8▸u _⟩
 have N:∀y c,env.kindOf y=D BX->env.cells.lookup y=D c->G.lookup y=D c:= λy c L u=>by
  rw[hC,IM]at u;cases e:G.lookup y with
  |some c'=>(rw[e]at u;cases u);rfl
  |none=>
   rw[e]at u;have:=(O5<|show(ES.zip cs).lookup y=D c from u).1
   (rw[(DY y this).1]at L;cases L)
 have b3:∀p∈EB ps ds locs++ES.zip (Se xs),(p.2=Af\/ ∃t,p.2=mw t/\(p.1,mw t)∈ps.zip (Se ds))\/ ∃t,p.2=mw t/\(p.1,mw t)∈ES.zip (Se xs):= λp hp=>by
  rcases IF hp with h|h
  ·exact Ax<|MK h
  ·refine Dx (bX (x:=p.1) (w:=p.2) h) λt e=>?_;exact BC<|CB t e<|e▸h
 have a1:∀ {g} y o,(y,BP g o)∉EB ps ds locs++ES.zip (Se xs):= λ {g} y o hm=>by rcases b3 _ hm with(e|⟨t,e,_⟩)|⟨t,e,_⟩<;>cases e
 refine K X₁ s₁ b2 j ⟨⟨a.deeper env,c2,X1,λp hp=>?_⟩,?_,⟨_,C.toInCall.ns⟩,BC<|Ax B,?_,λy c L u=>⟨⟨_,r y c<|N y c L u⟩,Ax ⟨BC<|BC ⟨y,N y c L u⟩,?_⟩⟩,λy z c L u=>?_,λy ow hm=>Ay hm<|a1 y ow,λy z o1 o2 hm _ _=>Ay hm<|a1 y o1,λb ob e _=>j b ob e,λb ob e nt=>d.ext b ob nt e⟩
 ·obtain⟨y,pv⟩:=p;rcases b3 _ hp with(e|⟨t,e,hm⟩)|⟨t,e,hm⟩
  ·dsimp only at e;subst e;trivial
  ·dsimp only at e hm;subst e
   refine Ap (jq ta hm) λv hv tv=>?_;refine⟨v,?_,tv.up O a2⟩;rcases a3 y (b7 _ hv)with h|⟨h,h'⟩
   ·exact Ax ⟨by rw[hN];exact h,_,C.toInCall.ns,OI _ _ b4 hv<|by rw[hN];exact h⟩
   ·refine Dx (SN<|IT (k:=AK s.heap.objs+1) h') λc hc=>?_;rw[a8]at hc;have c5:env.kindOf y≠D .local:=by rw[hN,h];nofun
    exact BC ⟨Ax<|by rw[hN];exact h,c,by rw[hC,IM,hc];rfl,by rw[<-OJ (kf:=env.kindOf) _ (λ_=>AQ) b4 hv c5];exact r y c hc⟩
  ·dsimp only at e hm;subst e
   refine Bk (vx b0 tx hm c0) λc v L u tv=>?_;refine F3 (DY y (Df L).1) λk1 k2=>?_;exact⟨v,BC ⟨BC k1,c,by rw[hC,IM,k2];exact Ro b5 L,u.keeps j⟩,tv.up O a2⟩
 ·have l1:=tx.length.symm;have l2:=NV b0;have:(EB ps ds locs++ES.zip (Se xs)).map CZ=ps++locs++ES:=by
   unfold EB;rw[Cv,Cv,FJ (l₁:=ps)<|by simp only[Se,Ai];exact B8<|by assumption,FJ (l₁:=ES)<|by simp only[Se,Ai];exact DT [_,_,_,_] [.e A9 BQ,.e B5 Jj,.e BQ Jj] A9 B5 [1,-1,1] B c0 l1 l2,iZ]
   congr 2
   exact V9 _
  rw[this];exact a9
 ·exact i _<|by rw[hL];exact BO _
 ·exact i _<|C7<|b1 y c<|N y c L u
 ·have pw:(G++ES.zip cs).Pairwise λx y=>x.2≠y.2:=nH.mpr ⟨C.apart,ku c9,λp hp q hq e=>by have L:=C.above p.1 p.2 hp;refine Dx (c1 q.2 (Df (a:=q.1) (b:=q.2) hq).2) λo ho=>?_;have u:=BS ho;rw[hL]at L;exact Nat.lt_asymm L<|(show p.2=q.2 from e)▸u⟩
  rw[hC]at L u;exact LQ pw L u
noncomputable def AEC(e:A2):Arguments:=if h:e.ctorIdx=4 then Mp (motive_1:= λ_=>AFq) e h λa _ _ _=>a else BN
noncomputable def Rp(e:A2):Expr:=if h:e.ctorIdx=4 then Mp (motive_1:= λ_=>A2) e h λ_ b _ _=>b else e
noncomputable def ABK(e:A2):Scope:=if h:e.ctorIdx=4 then Mp (motive_1:= λ_=>R4) e h λ_ _ s _=>s else BN
noncomputable def AGj(e:A2):Pos:=if h:e.ctorIdx=4 then Mp (motive_1:= λ_=>LH) e h λ_ _ _ p=>p else BN
noncomputable def AC7(e:Ct):Pos:=if h:e.ctorIdx=0 then G4 (motive_2:= λ_=>LH) e h λ_ _ _ _ _ _ _ _ _ p=>p else BN
noncomputable def kwV(i:Aj)(e:A2):Expr:=if h:e.ctorIdx=16 then Dr (motive_1:= λ_=>A2) e h λ_ _ ks _=>(match ks[i]?with|some k=>k.value|none=>XC)else e
noncomputable def M3:Stmt:=BA 0<|Cc<|A6 79
noncomputable def fQ:Stmt:=BA 7<|Cc<|A6 65
noncomputable def Sv:Stmt:=BA 4<|Cc<|A6 81
noncomputable def Gg:Expr:=Hz<|BA 2<|DR Sv
noncomputable def ZI:Aj->A2
 |2=>kwV 0 (OE (BA 15 (Cc (A6 65))))
 |3=>EP 0 Gg
 |_=>EP 1 Gg
noncomputable def VB:Aj->FuncBody
 |0=>KS (Cc M3)
 |1=>KS (Cc fQ)
 |k=>.expr (Rp (ZI k))
noncomputable def E2:Aj->R4
 |0=>D2 M3
 |1=>D2 fQ
 |k=>ABK (ZI k)
noncomputable def Sw:Aj->AFq
 |0=>SO M3
 |1=>SO fQ
 |k=>AEC (ZI k)
noncomputable def KZ:Aj->Bt
 |0=>S "groups_of"
 |1=>S "_has_candidates"
 |_=> "<lambda>"
noncomputable def ofK:Aj->Bt
 |0=>S "_law_differ"
 |1=>S "_find_lcas"
 |2=>S "_find_lcas"
 |_=>S "_law_fold"
noncomputable def Nt(k:Aj):Str:=(ofK k++ ".<locals>.")++KZ k
noncomputable def UU:Aj->LH
 |0=>AC7 M3
 |1=>AC7 fQ
 |k=>AGj (ZI k)
noncomputable def UW:Aj->Az
 |0=>1257
 |1=>1136
 |2=>1136
 |_=>1269
noncomputable def VT(a:I (Bt×Et)):I Str:=(a.filterMap λp=>match p.2 with|.free=>D p.1|_=>AQ).reverse
noncomputable def DY(k:Aj):I Str:=VT (E2 k).names
noncomputable def ky(k:Aj)(Cd:I (Bt×Az))(code a doc pm:Am):FuncData:=
 {name:=KZ k,qualname:=Nt k,params:=Sw k,body:=VB k,scope:=E2 k,globals:=Bg,closure:=Cd,defaults:=AN,kwdefaults:=AN,doc,pyModule:=pm,annotations:=AQ,code,closureTuple:=a,builtins:=FZ}
def Jy(h:Dw)(c:Az)(q:Bt):Prop:= ∃o fs t,AA h c=D o/\o.cls=Ae "code" /\o.data=BF fs/\fs[1]? =D (Bz q t)
def Uu(k:Aj)(h:Dw)(X:Az->Prop)(a:Az)(cs:I Az):Prop:=
 ∃o d doc pm c,AA h a=D o/\o.data=IB (ky k ((DY k).zip cs) (AH c) d doc pm)/\ ¬X a/\cs.Nodup/\(DY k).length=U cs/\Jy h c (Nt k)/\ ¬X c
def QU(a:Az)(vs:Ef Am)(h:Dw):Prop:=AFz vs.toList/\ ∀k pos d,UW k=a->k<5->UU k=pos->Qv pos vs.toList=D d->∃c,d=AH c/\Jy h c (Nt k)
theorem Jy.keeps(x:Jy h c q)(k:∀o fs,AA h c=D o->o.cls=Ae "code" ->o.data=BF fs->AA h' c=D o):Jy h' c q:=
 (by refine EJ x λo fs t y j i u=>?_;exact⟨o,fs,t,k o fs y j i,j,i,u⟩)
theorem QU.Us(x:QU a vs h)(k:∀b o fs,AA h b=D o->o.cls=Ae "code" ->o.data=BF fs->AA h' b=D o):QU a vs h':=
 ⟨x.1,λn pos G C u j i=>(by refine Ap (x.2 n pos G C u j i) λc e y=>?_;exact(CB c e<|y.keeps λo fs=>k c o fs))⟩
theorem Uu.up(x:Uu k h X a cs)(i:Up h X h' X'):Uu k h' X' a cs:=by
 (refine Kv x λo y u pm c h1 h2 h3 h4 h5 j h7=>?_;obtain⟨C,fs,t,g1,g2,g3,g4⟩:=j)
 refine F3 (i a o h1 h3) λQ N=>?_;refine F3 (i c C g1 h7) λL G=>?_;exact⟨o,y,u,pm,c,Q,h2,N,h4,h5,⟨C,fs,t,L,g2,g3,g4⟩,G⟩
structure Rq(T:Th):Prop extends HN T where
 YO:T.ae=Uu
 iV:T.iP=QU
 bmain:∃bm ob,T.mg "__builtins__" =D (AH bm)/\bm≠FZ/\AA T.H1 bm=D ob/\ob.cls=Ae "module" /\ob.dict=D FZ/\ob.data=tN
theorem VU(l:I Am)(h:AFz l)(d:Qv pos (l++[Jo a,Jo b,c])=D x):Qv pos l=D x\/(x=c/\(pos.line:Aa)=a/\(pos.col:Aa)=b):=by
 fun_induction AFz l with
 |case1=>
  simp only[Hx,Jo,Qv]at d
  split at d
  ·rename_i e
   simp only[A4,Bh]at e;obtain rfl:=AE d;exact BC ⟨B,e.1.symm,e.2.symm⟩
  ·cases d
 |case2 r t q u y rest g=>
  simp only[Iw,Qv]at d⊢
  split at d
  ·rename_i e;rw[Dh e];exact Ax d
  ·rename_i e;rw[CQ e];exact g h d
 |case3 l j i=>exact h.elim
noncomputable def vy:Bool:=(DL 5).all λi=>(DL 5).all λj=>(UW i !=UW j)|| !((UU i).line==(UU j).line&&(UU i).col==(UU j).col)||(Jm (Nt i)<|Nt j)
theorem AEE:vy=true:=by kernel_rfl!
theorem qu(d:i<5)(a:j<5)(h:UW i=UW j)(g:(UU i).line=(UU j).line)(e:(UU i).col=(UU j).col):Nt i=Nt j:=by have:=Kz (Kz AEE i<|U0 d) j<|U0 a;simp only[h,g,e,AFH,Cz,Bool.and_self,ADU,Bool.or_self,OC]at this;exact sEq_iff.mp this
theorem Z3:VT ((x,k)::r)=VT r++(match k with|.free=>[x] |_=>[]):=by unfold VT;cases k<;>simp
theorem ZJ:∀d acc (e:Bt->Az) f,
  (∀x k a,f (x,k) a=if(k==Bm)=J then(do let c<-ADR env x;Ce (JG ((x,c)::a)))else Ce (JG a))->(∀y∈VT d,env.cells.lookup y=D (e y))->tQ d acc f=Ce ((VT d).map (λy=>(y,e y))++acc):=by
 intro d;induction d with
 |nil=>
  exactλacc _ _ _ _=>B
 |cons j r g=>
  obtain⟨x,k⟩:=j;exactλacc e f q h=>by
   rw[Z3]at h;rw[Gu,q,Z3];have l:= λacc=>g acc e f q λy u=>h y<|Q7 _ u;by_cases i:k=Bm
   ·subst i;have v:=h x<|by simp
    rw[Dh<|show(Bm==Bm)=J from B];have e1:ADR env x=Ce (e x):=by unfold ADR;rw[v]
    rw[e1];simp only[Uy];rw[l,Cv,DN];rfl
   ·have e1: ¬(k==Bm)=true:=by simpa using i
    rw[CQ e1];simp only[Uy];rw[l]
    congr 1
    cases k<;>first|simp|exact absurd rfl i
theorem ABL{ES:I Bt}(a:Bt->Az):ES.map (λy=>(y,a y))=ES.zip (ES.map a):=by
 induction ES with
 |nil=>rfl
 |cons y r d=>simp only[B4,DU,d]
theorem ZK(a:Bt->Az)(h:∀y∈VT sc.names,env.cells.lookup y=D (a y)):OF sc env=Ce ((VT sc.names).zip ((VT sc.names).map a)):=by simp-iota only[OF];rw[ZJ sc.names [] a _ (λ_ _ _=>B) h,Fi,<-ABL];rfl
theorem qv(k:∀b o,AA h b=D o->o.cls≠AN->AA h' b=D o)(C:WI h c0 tab):WI h' c0 tab:=by obtain⟨o,vs,file,tf,a,i,d,text,g,e,r⟩:=C;exact⟨o,vs,file,tf,a,i,d,text,g,k _ _ e<|by rw[r.1];exact RN,r⟩
theorem vz(P:Rq T){ES:I Bt}(b8:∀ps h,QU tab ps h->∀cv,Qv pos ps.toList=D cv->∃c,cv=AH c/\Jy h c qn)(b7:∀ps h h' c',QU tab ps h->(∀b o fs,AA h b=D o->o.cls=Ae "code" ->o.data=BF fs->AA h' b=D o)->Jy h' c' qn->QU tab (ps++ #[Jo pos.line,Jo pos.col,AH c']) h')(d:Cm T s)(x:Hs T X s.heap)
  (b0:OF sc env=Ce (ES.zip cs))(a9:env.globals=Bg)(z:env.code=AH c0)(hC:WI T.H1 c0 tab)(c9: ¬MZ c0)(hT:MZ tab)(c3:cs.Nodup)(a4:U ES=U cs)
  (K:∀a s',C1 T s.heap s'.heap->Cm T s'->AA s.heap a=AQ->(∃o i doc pm c,AA s'.heap a=D o/\o.data=IB {name:=G,qualname:=qn,params:=ar,body:=y,scope:=sc,globals:=Bg,closure:=ES.zip cs,defaults:=AN,kwdefaults:=AN,doc,pyModule:=pm,annotations:=AQ,code:=AH c,closureTuple:=i,builtins:=FZ} /\ ¬X a/\cs.Nodup/\U ES=U cs/\Jy s'.heap c qn/\ ¬X c)->Q (AH a) s'):
  Ao (M T) A (uL G qn ar y sc env [] [] [] pos ln) Q E s:=by
 refine UB P.bmain λbm ob b1 b2 b3 b4 b5 b6=>?_;have tT:T.Tab tab:=(P.tab _).mpr hT;rw[makeFunction_eq];simp-iota only[tO,List.filterMap_nil,zU,EU,Uy];unfold makeTail;rw[b0,a9];refine AD<|AP ?_;have L:∀i s₁,(∀b o,AA s.heap b=D o->AA s₁.heap b=D o)->s₁.os=s.os->s₁.gens=s.gens->Ao (M T) A (do
   let cd<-functionCode env pos ln G qn ar sc y
   let bl<-builtinsFor Bg env.builtins
   let pm<-nsGet Bg "__name__"
   match y with
    |.stmts b=>do
     let dc<-(match docOf b with|some s=>mkText s|none=>Ce AN)
     ADa (Ae "function") (IB {name:=G,qualname:=qn,params:=ar,body:=y,scope:=sc,globals:=Bg,closure:=ES.zip cs,closureTuple:=i,code:=cd,builtins:=bl,defaults:=AN,kwdefaults:=AN,annotations:=AQ,pyModule:=pm.getD AN,doc:=dc})
    |.expr _=>do
     let dc<-Ce AN
     ADa (Ae "function") (IB {name:=G,qualname:=qn,params:=ar,body:=y,scope:=sc,globals:=Bg,closure:=ES.zip cs,closureTuple:=i,code:=cd,builtins:=bl,defaults:=AN,kwdefaults:=AN,annotations:=AQ,pyModule:=pm.getD AN,doc:=dc})) Q E s₁:=by
  intro i s₁ k1 eo eg;have I₁:=d.keeps P.O k1 eo eg;have c5:=x.ext d<|C1.of_keeps k1;refine Ap (I₁.tab _ tT) λps hP dN=>?_;rw[P.iV]at dN;have u:∀b o,AA T.H1 b=D o->o.cls≠AN->AA s₁.heap b=D o:= λb o e hc=>I₁.ext b o (λq=>by refine Ap (P.O.tabs b q) λvs e' _=>?_;obtain rfl:=AE<|e.symm.trans e';exact hc B) e
  have C:WI s₁.heap c0 tab:=by exact qv u hC
  have rest:∀c s₂,C1 T s.heap s₂.heap->Cm T s₂->Jy s₂.heap c qn->Ao (M T) A (do
    let bl<-builtinsFor Bg env.builtins
    let pm<-nsGet Bg "__name__"
    match y with
     |.stmts b=>do
      let dc<-(match docOf b with|some s=>mkText s|none=>Ce AN)
      ADa (Ae "function") (IB {name:=G,qualname:=qn,params:=ar,body:=y,scope:=sc,globals:=Bg,closure:=ES.zip cs,closureTuple:=i,code:=AH c,builtins:=bl,defaults:=AN,kwdefaults:=AN,annotations:=AQ,pyModule:=pm.getD AN,doc:=dc})
     |.expr _=>do
      let dc<-Ce AN
      ADa (Ae "function") (IB {name:=G,qualname:=qn,params:=ar,body:=y,scope:=sc,globals:=Bg,closure:=ES.zip cs,closureTuple:=i,code:=AH c,builtins:=bl,defaults:=AN,kwdefaults:=AN,annotations:=AQ,pyModule:=pm.getD AN,doc:=dc})) Q E s₂:= λc s₂ x2 N j=>by
   have c4:=N.ext _ _ (λq=>by refine Ap (P.O.tabs bm q) λvs e' _=>?_;obtain rfl:=AE<|b3.symm.trans e';cases b4) b3
   refine AD<|wpAny_builtinsFor (N.g P.O) b1 b2 c4 b4 b5 b6<|AD<|wpAny_nsGet (N.g P.O) ?_;have b9:∀dc s₃,s₃.heap=s₂.heap->s₃.os=s₂.os->s₃.gens=s₂.gens->Ao (M T) A (ADa (Ae "function")<|IB {name:=G,qualname:=qn,params:=ar,body:=y,scope:=sc,globals:=Bg,closure:=ES.zip cs,closureTuple:=i,code:=AH c,builtins:=FZ,defaults:=AN,kwdefaults:=AN,annotations:=AQ,pyModule:=(T.mg "__name__").getD AN,doc:=dc}) Q E s₃:= λdc s₃ e1 e2 e3=>by
    refine ET ?_<|by size_fits
    have kp:∀b o,AA s₂.heap b=D o->(s₃.heap.push {cls:=Ae "function",data:=IB {name:=G,qualname:=qn,params:=ar,body:=y,scope:=sc,globals:=Bg,closure:=ES.zip cs,closureTuple:=i,code:=AH c,builtins:=FZ,defaults:=AN,kwdefaults:=AN,annotations:=AQ,pyModule:=(T.mg "__name__").getD AN,doc:=dc} }).get? b=D o:= λb o e=>AX _<|e1▸e;have i3:Cm T {s₃ with heap:=s₃.heap.push {cls:=Ae "function",data:=IB {name:=G,qualname:=qn,params:=ar,body:=y,scope:=sc,globals:=Bg,closure:=ES.zip cs,closureTuple:=i,code:=AH c,builtins:=FZ,defaults:=AN,kwdefaults:=AN,annotations:=AQ,pyModule:=(T.mg "__name__").getD AN,doc:=dc} } } :=N.keeps P.O kp e2 e3;have fr:AA s.heap (AK s₃.heap.objs)=none:=OM x2 N<|e1▸F4 s₃.heap;have x3:=x.ext d x2;refine K _ _ (x2.trans<|C1.of_keeps kp) i3 fr ⟨_,i,dc,_,c,A1 _ B,B,λq=>?_,c3,a4,j.keeps λo fs e _ _=>kp _ _ e,λq=>?_⟩
    ·rcases x.kind _ q with h|⟨_,o,ho,_⟩
     ·exact(Du d fr).2 h
     ·exact EN<|fr.symm.trans ho
    ·refine EJ j λoc fs t g1 g2 g3 g4=>?_;rcases x3.kind _ q with h|⟨_,o,ho,so⟩
     ·exact N.DI g1 (by rw[g2];exact RN) h
     ·obtain rfl:=AE (g1.symm.trans ho);rcases so with so|so
      ·exact so _ g3
      ·exact so.2 g2
   have c2:∀(fb:FuncBody) (g:Am->Sem Am),(∀dc tk,Ao (M T) A (g dc) Q E {s₂ with toks:=tk})->Ao (M T) A (match fb with
    |.stmts b=>do
     let dc<-(match docOf b with|some s=>mkText s|none=>Ce AN)
     g dc
    |.expr _=>do
     let dc<-Ce AN
     g dc) Q E s₂:= λfb g h=>by
    cases fb with
    |expr e=>exact AD<|AP<|h _ s₂.toks
    |stmts b=>
     dsimp only
     cases docOf b with
     |none=>exact AD<|AP<|h _ s₂.toks
     |some t=>exact AD<|AKM<|h _ _
   exact c2 y _ λdc tk=>b9 dc {s₂ with toks:=tk} B B B
  cases hf:Qv pos ps.toList with
  |some cv=>
   (refine Ap (b8 ps _ dN cv hf) λc c1 j=>?_;subst c1)
   exact AD<|wpAny_functionCode_hit z (C.code hP dN.1) hf<|rest c s₁ (C1.of_keeps k1) I₁ j
  |none=>
   refine AD<|wpAny_functionCodeX z (C.code hP dN.1) (C.tab hP) hf λc' h' tk hx c7 d0 _ a1 htb a2=>?_;refine Dg a2 λP' _ _ a8=>?_;have j:Jy h' c' qn:=by
    (refine F3 a8 λa5 _=>?_;obtain⟨o,vs,g1,g2,g3,_⟩:=a5)
    obtain⟨c8,c6,a6,a0,a3,f1,f2,f3⟩:=a1;cases a3;obtain rfl:=AE<|g1.symm.trans f1;exact⟨o,_,a0,g1,g2,f2,f3⟩
   have ext:C1 T s₁.heap h':= λb o nb e=>hx b o (λq=>nb<|q▸tT) e;refine rest c' {s₁ with heap:=h',toks:=tk} ((C1.of_keeps k1).trans ext) ⟨I₁.ext.trans ext,λa ha=>?_,I₁.os,I₁.gens⟩ j;by_cases ea:a=tab
   ·subst ea;refine(CB _ htb.2 ?_);rw[P.iV];exact b7 ps s₁.heap h' c' dN (λb o fs e1 e2 _=>hx b o (λq=>by rw[q,hP]at e1;obtain rfl:=AE e1;cases e2) e1) j
   ·refine Ap (I₁.tab a ha) λvs e t=>?_;refine(CB vs (hx a _ ea e) ?_);rw[P.iV]at t⊢;exact t.Us λb o fs e1 e2 _=>hx b o (λq=>by rw[q,hP]at e1;obtain rfl:=AE e1;cases e2) e1
 cases hz:ES.zip cs with
 |nil=>
  simp-iota only[zU,EU];refine AD<|AP ?_;have:=L AN s (λ_ _ e=>e) B B;rw[hz]at this;exact this
 |cons q r=>
  simp-iota only[List.isEmpty_cons,DW,Ho];refine AD<|wpAny_newTextTuple ?_;have:= λv (l:I Am)=>L v {s with heap:=s.heap.push {cls:=Ae "tuple",data:=Gz (AU l)} } (λb o e=>AX _ e) B B;rw[hz]at this;exact this _ _
theorem ABM(P:Rq T)(L:k<5)(d:Cm T s)(x:Hs T X s.heap)
  (z:OF (E2 k) env=Ce ((DY k).zip cs))(v:env.globals=Bg)(g:env.code=AH c0)(hC:WI T.H1 c0 (UW k))(u: ¬MZ c0)(hT:MZ (UW k))(G:cs.Nodup)(l:(DY k).length=U cs)
  (K:∀a s',C1 T s.heap s'.heap->Cm T s'->AA s.heap a=AQ->Uu k s'.heap X a cs->Q (AH a) s'):
  Ao (M T) A (uL (KZ k) (Nt k) (Sw k) (VB k) (E2 k) env [] [] [] (UU k) ln) Q E s:=by
 refine vz P (λps h ok C hf=>ok.2 k _ C B L B hf) (λps h h' c' ok up y=>⟨by rw[nJ];exact TriplesOk_snoc _ _ _ _ ok.1,λj pos C h1 O N r=>?_⟩) d x z v g hC u hT G l K;rw[nJ]at r;rcases VU _ ok.1 r with r|⟨rfl,h5,h6⟩
 ·exact(ok.2 j pos C h1 O N r).imp λc q=>⟨q.1,q.2.keeps λo fs=>up c o fs⟩
 ·subst N;have e:=qu (i:=j) (j:=k) O L h1 (G7.mp h5)<|G7.mp h6;refine(CB c' B ?_);rw[e];exact y
section
set_option tactic.hygienic true
noncomputable def UX:I Bt->BD->BD
 |[],pv=>pv
 |y::r,pv=>UX r (iu y pv)
def ABN(env:Pc)(ys:I Bt)(X:Az->Prop):Prop:= ∀y∈ys,∀c,env.kindOf y=D BX->env.cells.lookup y=D c-> ¬X c
theorem Sx.iS(O:Cr T){ad:Bt->I Az} :∀ys pv X,Sx T n A X env pv Z ad s->∃X',Sx T n A X' env (UX ys pv) Z ad s/\Rj X X' Z/\ABN env ys X'/\ ∀a,X' a->X a:=by
 intro ys;induction ys with
 |nil=>
  exactλpv X i=>(NI X i (.refl) IL λ_ h=>h)
 |cons y r ih=>
  exactλpv X i=>by
   refine WU (i.pe (x:=y) O) λN a0 u G l₁=>?_;refine WU (ih (iu y pv) N a0) λL Q j C l₂=>?_;refine(NI L Q (u.trans j) (λz hz c h1 h2 q=>?_) λa h=>l₁ a<|l₂ a h);rcases DO hz with rfl|hz
   ·exact G c h1 h2<|l₂ c q
   ·exact C z hz c h1 h2 q
def EvX(T:Th)(n:Aj)(env:Pc)(pv:BD)(ys:I Bt)(e:A2)(d:DV):Prop:=
 ∀A X ad s Q E,ABN env ys X->Ar T n A X env pv ad s->
  (∀v s',C1 T s.heap s'.heap->Cm T s'->Tr T s'.heap X d v->Q v s')->Ao (M T) A (IC e env) Q E s
theorem Ev.toX(h:Ev T n env pv e d):EvX T n env pv ys e d:= λA X ad s Q E _ R k=>h A X ad s Q E R k
inductive Rr(T:Th)(n:Aj)(env:Pc)(pv:BD)(ys:I Bt):I A2->I DV->Prop
 |nil:Rr T n env pv ys [] []
 |cons {e:A2} {d:DV} {es:I A2} {ds:I DV} :EvX T n env pv ys e d->D6 [e] =J->Rr T n env pv ys es ds->Rr T n env pv ys (e::es) (d::ds)
open Mine.Rr renaming cons->zV
theorem fR(O:Cr T)(r:Rr T n env pv ys es ds):∀A X ad s Q E,ABN env ys X->Ar T n A X env pv ad s->
  (∀vs s',C1 T s.heap s'.heap->Cm T s'->A8 T s'.heap X ds vs->Q vs s')->Ao (M T) A (PS (Gc pos (C5 es env))) Q E s:=by
 induction r with
 |nil=>exactλA X ad s Q E G R k=>AP<|k [] s (C1.refl _) R.inv E4
 | @cons e d es ds h hs r L=>
  intro A X ad s Q E G R k;rw[Lv hs];show Ao _ A (do let v<-(if AB=J then do let v<-IC e env;AE3 pos;Ce v else IC e env);let i<-Ce [v];return i++(<-RU i (PS<|Gc pos<|C5 es env))) Q E s;rw[CQ CD];refine AD<|h A X ad s _ E G R λv u g z l=>AD<|AP<|AD<|BV ?_;have C:=R.ext O g z;exact L A X ad u _ E G C λvs q a y j=>AP<|k _ q (g.trans a) y<|Cw (l.up O<|a.up R.x.tab) j
theorem XI(h:Rr T n env pv ys es ds)(pos:LH):(Gc pos (C5 es env)).any (·.1)=false:=by
 induction h with
 |nil=>rfl
 | @cons e d es ds _ hs _ a=>
  rw[Lv hs];show(AB||(Gc pos<|C5 es env).any (·.1))=AB;rw[a];rfl
theorem wA(O:Cr T)(hf:Ev T n env pv (Bu x p) c)(h:Rr T n env pv ys es ds)(ap:CP T n c ds d)(kp:Bf T c):EvX T n env pv ys (El (Bu x p) es [] pos) d:=by
 intro A X ad s Q E hx R k;refine Fb<|hf A X ad s _ E R λf q j u tf=>?_;have R₁:=R.ext O j u;refine Ku (P:= λh'=> ∃s',s'.heap=h'/\Cm T s'/\Hs T X h'/\Tr T h' X c f) (by rw[XI h pos];rfl) (λh' ⟨s',e,I',x',t'⟩=>by subst e;exact kp s' X f I' x' t') ?_;cases h with
 |nil=>
  refine Pd ⟨(NI q B u R₁.x tf),?_⟩;exact ap A X q f [] Q E R.a u R₁.x tf E4 λv s₂ g i l=>k v s₂ (j.trans g) i l
 | @cons e d0 es a0 h0 hs r=>
  have L:=fR (pos:=pos) O (zV h0 hs r) A X ad q (λvs s₂=>(∃s',s'.heap=s₂.heap/\Cm T s'/\Hs T X s₂.heap/\Tr T s₂.heap X c f)/\Ao (M T) A (RV f vs) Q E s₂) E hx R₁ λvs s₂ g i l=>by have R₂:=R₁.ext O g i;have C:=tf.up O<|g.up R.x.tab;exact⟨(NI s₂ B i R₂.x C),ap A X s₂ f vs Q E R.a i R₂.x C l λv G y N z=>k v G ((j.trans g).trans y) N z⟩
  rw[Lv hs]at L⊢;exact Hm L
theorem XJ(O:Cr T)(y:env.scope.kind=BY)(z:EvX T n env (UX ys pv) ys e d)(r:Oy env (UX ys pv) x)
  (k:R Aq (D3 x (mw d) (UX ys pv)))(hs:HC e (D (Bu x q)) pos.line env=Ce false:=by rfl):SX T n env pv (Fg [Bu x q] e pos) R:=by
 intro A X Z ad s Q E a K C;refine WU (Sx.iS O ys pv X a) λX' S' u o _=>?_;refine HD (z A X' ad s _ _ o S'.toAr λv l g i h=>?_) hs;exact MJ O (S'.ext O g i) h y r λs' j=>K Aq HK _ X' ad s' k u Mg j
noncomputable def XK(pv:BD):I Bt->AW (I DV)
 |[] =>D []
 |y::r=>((CY y pv).bind Zl).bind λt=>(XK pv r).bind λts=>D (t::ts)
noncomputable def cA(G:GV)(ys:I Bt):Bool:=ys.all λy=>CY y G.names==D BX
theorem qw(h:cA G ys=J):∀y∈ys,CY y G.names=D BX:= λy a=>F7<|Kz h y a
noncomputable def MS(env:Pc)(y:Bt):Addr:=(env.cells.lookup y).getD 0
theorem ABP{ad:Bt->I Az}(K:DG T env G)(F:Fok T env pv X h ad):∀ {ts:I DV},XK pv ys=D ts->(∀y∈ys,CY y G.names=D BX)->∃vs,Ds (λc v=>h.IsCell c (D v)) (ys.map (MS env)) vs/\A8 T h X ts vs:=by
 induction ys with
 |nil=>exactλa _=>AE a▸(CB [] (QV)<|E4)
 |cons y r x=>
  intro ts a g;refine Ap (Eo a) λt e a=>?_;refine Ap (Eo e) λp h0 e=>?_;refine Ap (Eo a) λi N a=>?_;refine Ap (x N λz hz=>g z<|Cb _ hz) λvs p j=>?_;refine Ap (F (y,mw t)<|FQ<|h0.trans<|BI D<|Wp e) λv u l=>?_;have d:=(K.kindOf y).trans<|g y<|B0 _;rcases u with⟨q,_⟩|⟨_,c,L,C⟩
  ·exact Ay (d.symm.trans q)<|by decide
  ·exact AE a▸(CB (v::vs) (QW ((show MS env y=c by unfold MS;rw[L];rfl)▸C) p)<|Cw l j)
theorem VC{X:Az->Prop}{Z:Az->AW NU}{ad:Bt->I Az}{h:Dw}(K:DG T env G)(j:∀x y c,env.cells.lookup x=D c->env.cells.lookup y=D c->x=y):∀ {ys:I Bt},ys.Nodup->(∀y∈ys,CY y G.names=D BX)->(ys.map (MS env)).Nodup
 |[],_,_=>PE
 |y::r,hn,d=>by
  rw[Cj]at hn;rw[B4,Cj];refine⟨λl=>?_,VC (X:=X) (Z:=Z) (ad:=ad) (h:=h) K j hn.2 λz hz=>d z (Cb _ hz)⟩;refine Ap (JY l) λz hz e=>?_;have u:=K.cells y<|Ax<|by rw[K.kindOf,d y<|B0 _]
  have q:=K.cells z<|Ax<|by rw[K.kindOf,d z<|Cb _ hz]
  refine Dx (SN u) λa i=>?_;refine Dx (SN q) λb g=>?_;simp only[MS,i,g,tV]at e;exact hn.1<|(j z y b g<|e▸i)▸hz
theorem fS(P:Rq T)(K:DG T env G){ad:Bt->I Az}(hk:k<5)(R:Ar T n A X env pv ad s)(u:ABN env (DY k) X)
  (ap:DY k=[] \/ ∀x y c,env.cells.lookup x=D c->env.cells.lookup y=D c->x=y)
  (a1:G.cq=D (AH c0,q))(hC:WI T.H1 c0 (UW k))(z: ¬MZ c0)(hT:MZ (UW k))(j:VT (E2 k).names=DY k)(N:(DY k).Nodup)(a0:cA G (DY k)=J)(C:XK pv (DY k)=D ts)
  (KK:∀v s',C1 T s.heap s'.heap->Cm T s'->Tr T s'.heap X (EG k ts) v->Q v s'):
  Ao (M T) A (uL (KZ k) (Nt k) (Sw k) (VB k) (E2 k) env [] [] [] (UU k) ln) Q E s:=by
 refine F3 (K.cq _ a1) λg L=>?_;have e:=qw a0;have d:∀y∈DY k,env.cells.lookup y=D (MS env y):= λy i=>by refine Dx (SN<|K.cells y<|Ax<|by rw[K.kindOf,e y i]) λa ha=>?_;simp only[MS,ha,tV]
 have a2:OF (E2 k) env=Ce ((DY k).zip<|(DY k).map<|MS env):=by
  have:=ZK (sc:=E2 k) (env:=env) (MS env)<|by rw[j];exact d
  rw[j]at this;exact this
 have nd:((DY k).map<|MS env).Nodup:=by
  rcases ap with h|h
  ·rw[h];exact PE
  ·exact VC (T:=T) (X:=X) (Z:= λ_=>AQ) (ad:=ad) (h:=s.heap) K h N e
 refine ABM P hk R.inv R.x a2 K.dO g hC z hT nd (by simp) λa s' x' i' r l=>?_;have R':=R.ext P.O x' i';refine Ap (ABP K R'.f C e) λvs p ta=>?_;refine KK _ s' x' i'<|.Cd (cs:=(DY k).map<|MS env) (P.YO▸l) p ?_ (λc hc=>?_) ta
 ·obtain⟨o,a5,a4,pm,c,h1,h2,h3,_⟩:=l;exact h3
 ·(refine Ap (JY hc) λy i a3=>?_;subst a3)
  exact u y i _ (by rw[K.kindOf,e y i])<|d y i
end
open Mine.Rr renaming cons->zV
theorem fT(P:Rq T){st:Ct}(hk:k<5)(r:st= .FunctionDef (KZ k) (Sw k) body [] AQ [] (E2 k) AQ (KZ k) (UU k))(hb:VB k=KS body)
  (N:(Sw k).defaults=[])(C:(Sw k).kw_defaults=[])(ha:∀env,annTrees (Sw k) AQ env=[])(h:CY (KZ k) G.names=D .local)(x:nf (UX (DY k) pv) (KZ k)=J)(hq:q++KZ k=Nt k)
  (i:G.cq=D (AH c0,q))(hC:WI T.H1 c0 (UW k))(j: ¬MZ c0)(hT:MZ (UW k))(L:VT (E2 k).names=DY k)(y:(DY k).Nodup)(z:cA G (DY k)=J)(l:XK (UX (DY k) pv) (DY k)=D ts):
  Fn T n G pv st Aq (D3 (KZ k) (mw (EG k ts)) (UX (DY k) pv)):=by
 intro env K A X Z ad s Q E a KQ KE;refine WU (Sx.iS P.O (DY k) pv X a) λX' S' u o _=>?_;rw[r];refine nestDef_K N C (ha env) ?_;have a0:qualnameIn env (KZ k) (KZ k)=Nt k:=by unfold qualnameIn;rw[K.kindOf,h,(K.cq _ i).2,<-hq];rfl
 rw[a0,<-hb];refine fS P K hk S'.toAr o (BC S'.wr.apart) i hC j hT L y z l λv a2 d g e=>?_;exact MJ P.O (S'.ext P.O d g) e K.kind ⟨Ax<|by rw[K.kindOf,h],Nf x⟩ λs' a1=>KQ Aq HK _ X' ad s' ⟨B,B⟩ u Mg a1
theorem XM(P:Rq T)(K:DG T env G)(z:k<5)(C:e= .Lambda (Sw k) body (E2 k) (UU k))(L:VB k= .expr body)
  (r:∀env,defaultsOf (Sw k) env=([],[]))(u:KZ k= "<lambda>")(v:q++KZ k=Nt k)(ap:DY k=[] \/ ∀x y c,env.cells.lookup x=D c->env.cells.lookup y=D c->x=y)
  (a:G.cq=D (AH c0,q))(O:WI T.H1 c0 (UW k))(g: ¬MZ c0)(N:MZ (UW k))(l:VT (E2 k).names=DY k)(i:(DY k).Nodup)(j:cA G (DY k)=J)(h:XK pv (DY k)=D ts):
  EvX T n env pv (DY k) e (EG k ts):=by
 intro A X ad s Q E d R KK;rw[C];refine kla_eval (r env) ?_;rw[(K.cq _ a).2];have e1:q++ "<lambda>" =Nt k:=by rw[<-v,u]
 rw[e1,<-L,<-u];exact fS P K z R d ap a O g N l i j h KK
theorem MT(P:Rq T):Bf T (EG k xs):= λs X f a x t=>by
 (refine OG t.inv λ_ _ _ e d _ _ _ _=>?_;subst e)
 ·rw[P.YO]at d;obtain⟨o,j,i,pm,c,h,g,_⟩:=d;refine(CB (AE4) (Ax B)<|(jC (part:=AQ) h).andThen ?_);rw[g];exact qC
noncomputable def O6(sc:R4)(ES:I Bt):Bool:=sc.names.all (λp=>C9 p.1&&(match p.2 with|.free=>KY p.1 ES|_=>J))&& !sc.isCoroutine&& !sc.isGenerator&&(sc.kind==BY)
theorem qx(h:KY x l=J):x∈l:=by
 induction l with
 |nil=>cases h
 |cons y r a=>
  cases e:Jm x y with
  |true=>exact sEq_iff.mp e▸B0 _
  |false=>exact Cb _<|a<|(eY e).symm.trans h
theorem JC(hs:O6 fd.scope ES=J)(a:fd.closure=ES.zip cs)(y:U ES=U cs)(q:fd.globals=Bg)(u:fd.builtins=FZ)(W:∀x d,glob x=D d->Kj T x d):DG T (DS fd L f) ⟨fd.scope.names,glob,Fe,AQ⟩:=by
 simp only[O6,A4,Cu,CR,Bh]at hs
 (refine F3 hs λg v=>?_;obtain⟨⟨j,C⟩,z⟩:=g)
 have i:∀x,(DS fd L f).kindOf x=fd.scope.names.lookup x:= λx=>B;have r:(DS fd L f).cells=B3 (L+1) fd.scope.names [] ++ES.zip cs:=by show _++fd.closure=_;rw[a]
 refine⟨v,B,λp hp=>(j p hp).1,q,u,λx hx=>?_,W,(λ_ h=>EN h)⟩;rw[r,IM];rcases hx with hx|hx
 ·have:((B3 (L+1) fd.scope.names []).lookup x).isSome=true:=by rw[Fy];exact UK<|Ax<|BW<|i x▸hx
  refine Dx (SN this) λc e=>?_;rw[e];rfl
 ·have:=(j _<|BW<|i x▸hx).2;have l:=qx this;cases e:(B3 (L+1) fd.scope.names []).lookup x with
  |some c=>rfl
  |none=>
   show((ES.zip cs).lookup x).isSome=J;rw[Fy,FJ<|by exact B8<|by assumption];exact l
theorem Nu(hs:O6 sc ES=J):sc.isCoroutine=AB/\sc.isGenerator=AB/\sc.kind=BY:=by simp only[O6,A4,Cu,CR,Bh]at hs;exact⟨hs.1.1.2,hs.1.2,hs.2⟩
theorem QC(x:Jy h c q):h.CodeRec (AH c) q:=(by refine EJ x λo fs t e g d a=>?_;exact⟨c,o,fs,t,B,e,d,a⟩)
theorem AEF(P:Rq T){ps locs Fe:I Bt}(W:∀x d,glob x=D d->Kj T x d)
  (hb:VB k=KS body)(y:∀Cd code q doc pm,JI (ky k Cd code q doc pm) ps)(hs:O6 (E2 k) (DY k)=J)(hf:Su (E2 k) (DY k)=J)(hl:U ps=U ds)(a3:(ps++locs++DY k).Nodup)
  (a2:ps.all (λx=>kG (CY x (E2 k).names))=J)
  (l:VP (Qy (vS T n m ⟨(E2 k).names,glob,Fe,AQ⟩) body (EB ps ds locs++(DY k).zip (Se xs)) as)=D (JF d,cs))(hc:ER cs):CP T (n+1) (EG k xs) ds d:=by
 intro A X s f vs Q E a g x tf ta K;refine Dx (Zp l) λEA l=>?_;refine NZ (Nu hs) λh2 h3 h4=>?_;have G:=ta.length
 (refine OG tf.inv λfa j ws a9 N hp nx a1 tx=>?_;subst a9)
 ·rw[P.YO]at N;refine Kv N λo q doc pm c o1 o2 _ b0 r a6 _=>?_;have a8:=a6;refine F9<|Dt (fd:=ky k ((DY k).zip j) (AH c) q doc pm) a.room o1 o2 h2 h3 hb (QC a8) ?_;rw[y _ _ _ _ _ vs<|by rw[G,hl]];refine AP ?_;refine IV (fd:=ky k ((DY k).zip j) (AH c) q doc pm) (ES:=DY k) (cs:=j) (locs:=locs) P.O a g x ta tx hp a1 b0 B r hf hl a3 h4 (tZ a2) λa0 C z a4 i=>?_;refine⟨(g.lim P.O).keeps a4,Jh ?_⟩;have KE:=JC (T:=T) (f:=fa) (L:=AK s.heap.objs) (fd:=ky k ((DY k).zip j) (AH c) q doc pm) (glob:=glob) (Fe:=Fe) (cs:=j) hs B r B B W;refine Sm P.O (oM P.O KE m) _ _ _ _ _ _ l hc _ a0 (AA s.heap) _ C _ _ i (λfl b1 u X' Ez s' hr hx a5 S'=>?_) λe u X' Ez s' hr=>by cases hr.1
  refine F3 hr λe1 e2=>?_;subst e1 e2;have ext:C1 T s.heap s'.heap:= λb ob nt e=>S'.wr.keep b ob e nt;have v:Up s'.heap X' s'.heap X:=Up.less λb hb=>by
   rcases x.kind b hb with h|⟨_,o,ho,_⟩
   ·exact S'.x.tab b h
   ·exact hx.up b (z b hb)<|by rw[ho];exact SR
  cases a5 with
  |ret t=>exact K _ s' ext S'.inv<|t.up P.O v
theorem cB(P:Rq T)(W:∀x d,glob x=D d->Kj T x d)
  (hb:VB k= .expr body)(l:∀Cd code i doc pm,JI (ky k Cd code i doc pm) ps)(hs:O6 (E2 k) (DY k)=J)(hf:Su (E2 k) (DY k)=J)(hl:U ps=U ds)(a1:(ps++[] ++DY k).Nodup)
  (a0:ps.all (λx=>kG (CY x (E2 k).names))=J)
  (u:Gm (vE T n m ⟨(E2 k).names,glob,[],AQ⟩ (EB ps ds [] ++(DY k).zip (Se xs)) body as)=D (d,cs))(hc:ER cs):CP T (n+1) (EG k xs) ds d:=by
 intro A X s f vs Q E a e x tf ta K;refine NZ (Nu hs) λh2 h3 h4=>?_;have y:=ta.length
 (refine OG tf.inv λfa h ws a4 C hp nx N tx=>?_;subst a4)
 ·rw[P.YO]at C;refine Kv C λo i doc pm c o1 o2 _ a5 j a2 _=>?_;have a3:=a2;refine F9<|kla_callFunE (fd:=ky k ((DY k).zip h) (AH c) i doc pm) a.room o1 o2 h2 h3 hb (QC a3) ?_;rw[l _ _ _ _ _ vs<|by rw[y,hl]];refine AP ?_;refine IV (fd:=ky k ((DY k).zip h) (AH c) i doc pm) (ES:=DY k) (cs:=h) (locs:=[]) P.O a e x ta tx hp N a5 B j hf hl a1 h4 (tZ a0) λG r q z g=>?_;refine⟨(e.lim P.O).keeps z,kla_codeExpr ?_⟩;have KE:=JC (T:=T) (f:=fa) (L:=AK s.heap.objs) (fd:=ky k ((DY k).zip h) (AH c) i doc pm) (glob:=glob) (Fe:=[]) (cs:=h) hs B j B B W;refine(Io P.O KE m).1 _ _ _ _ _ (HM u) hc _ G _ r _ _ g.toAr λv s' x' i' t'=>?_;exact K v s' ((C1.of_keeps z).trans x') i'<|t'.less P.O q
noncomputable def intV?:Am->Ba|.int _ _=>J|_=>AB
noncomputable def boolV?:Am->Ba|.bool _=>J|_=>AB
noncomputable def strV?:Am->Ba|.str _ _=>J|_=>AB
noncomputable def refV?:Am->AW Az|.ref a=>D a|_=>AQ
theorem lA(P:HN T)(a:(c,(⟨Ae "code",AQ,BF fs,#[]⟩:NU))∈Lb.zip K1):AA T.H1 c=D ⟨Ae "code",AQ,BF fs,#[]⟩:=by refine Ap (P.Tf _ _ a) λo' e d=>?_;rw[e,L8 d B B]
theorem Qg(P:HN T)(i:Aj)(c p:Az)(O:(Lb.zip K1)[i]? =D (c,⟨Ae "code",AQ,BF (ED i),#[]⟩))(r:refV? ((ED i).getD 11 AN)=D p)(hsz:EV 12 (ED i).size=J)(q:strV? ((ED i).getD 18 AN)=J)(N:intV? ((ED i).getD 7 AN)=J)(L:boolV? ((ED i).getD 9 AN)=J)(u:intV? ((ED i).getD 10 AN)=J)(l:C8 c p=AB):WI T.H1 c p:=by
 have G:=lA P<|BJ O;have d:(ED i).getD 11 AN=AH p:=by revert r;cases(ED i).getD 11 AN<;>intro h<;>(first|exact EN h|obtain rfl:=AE h);rfl
 have a:∃f t,(ED i).getD 18 AN=Bz f t:=by revert q;cases(ED i).getD 18 AN<;>intro h<;>(first|exact Pm h|cases h);exact⟨_,_,B⟩
 have x:∃f t,(ED i).getD 7 AN=EF f t:=by revert N;cases(ED i).getD 7 AN<;>intro h<;>(first|exact Pm h|cases h);exact⟨_,_,B⟩
 have v:∃f,(ED i).getD 9 AN=FH f:=by revert L;cases(ED i).getD 9 AN<;>intro h<;>(first|exact Pm h|cases h);exact⟨_,B⟩
 have e:∃f t,(ED i).getD 10 AN=EF f t:=by revert u;cases(ED i).getD 10 AN<;>intro h<;>(first|exact Pm h|cases h);exact⟨_,_,B⟩
 refine E0 a λf tf a=>?_;refine E0 x λfl C x=>?_;refine Dx v λb v=>?_;refine E0 e λy z e=>?_;have j:(ED i)[11]? =D (AH p):=by have g:=Be hsz;rw[NG g];rw[IA,NG g]at d;exact BI D d
 exact⟨_,_,f,tf,fl,C,b,y,z,G,B,B,j,d,a,x,v,e,jD l⟩
noncomputable def qD:Str:=S "_law_differ" ++ ".<locals>."
noncomputable def GD:GV:=⟨(D2<|A6 79).names,HA,[],D (AH 1261,qD)⟩
noncomputable def frD(Aw:Aa)(a:DV):BD:=EB [S "manner",S "odd"] [AM Aw,a] [S "groups_of"]
theorem MU(P:Rq T)(n:Aj)(Aw:Aa)(a:DV):CP T (n+1) (Ah (AH 1262)) [AM Aw,a] (EG 0 [a,AM Aw]):=by
 refine E0 (CS P.toHN 28 1262 1261 (A6 79) (S "_law_differ") AN ⋯ ⋯ ⋯ B B) λdc pm F=>?_;have C:=Qg P.toHN 29 1261 1257 ⋯ ⋯ ⋯ ⋯ ⋯ ⋯ ⋯ ⋯;have d:Fn T n GD (frD Aw a) M3 Aq (D3 (KZ 0) (mw<|EG 0 [a,AM Aw])<|UX (DY 0)<|frD Aw a):=
  fT (k:=0) (body:=Cc M3) (c0:=1261) (q:=qD) P (by decide) ⋯ ⋯ ⋯ ⋯ (λenv=>by rfl) ⋯ ⋯ ⋯ ⋯ C (DI.ok ⋯) (BC<|Ax B) ⋯ (by decide+kernel) ⋯ ⋯
 exact vV (cq:=D (AH 1261,qD)) (m:=20) (ps:=[S "manner",S "odd"]) (locs:=[S "groups_of"]) (Fe:=[]) (as:=[.v Aq<|D3 (KZ 0) (mw<|EG 0 [a,AM Aw])<|UX (DY 0)<|frD Aw a]) (cs:=[Fn T n GD (frD Aw a) M3 Aq<|D3 (KZ 0) (mw<|EG 0 [a,AM Aw])<|UX (DY 0)<|frD Aw a])
  P.O F (B9 P.toHN) B (P9 λu v=>by kernel_rfl!) ⋯ B (by decide+kernel) ⋯ ⋯ ⟨d,AI⟩ (λp hp=>by obtain rfl:=AE hp;exact⟨B,by kernel_rfl!⟩)
section
set_option backward.match.sparseCases true
set_option tactic.hygienic true
noncomputable abbrev fU(a:Ef Am):Obj:= {cls:=Ae "tuple",data:=Gz a}
noncomputable def Qh:Ef Am->Aj->I Am->Ef Am
 |os,_,[] =>os
 |os,j,x::r=>Qh (os.setIfInBounds j x) (j+1) r
theorem lB:Qh a j (x::r)=(Qh (a.setIfInBounds j x) (j+1) r):=B
theorem fV:∀xs j os i,j+U xs<=AK os->(Qh os j xs)[i]? =if j<=i/\i<j+U xs then xs[i-j]?else os[i]? :=by
 intro xs;induction xs with
 |nil=>
  exactλj os i _=>by have: ¬(j<=i/\i<j+([]:I Am).length):= λq=>G6.mpr q.1 q.2;rw[CQ this];rfl
 |cons x r g=>
  exactλj os i h=>by
   simp only[Ac]at h;rw[lB];rw[g (j+1) _ i<|by simp;exact DT [_,_,_] [.l (.a A9<|.a BQ DB) B5] (.a (.a A9 DB) BQ) B5 [1] B h,Lq];by_cases e:i=j
   ·subst e;have u: ¬(i+1<=i/\i<i+1+U r):= λq=>Nat.not_succ_le_self i q.1;have h2:i<=i/\i<i+(x::r).length:=by simp
    rw[CQ u,Dh h2,Dh B,Dh<|Dz (PH<|Ml _) h];simp
   ·by_cases h2:j+1<=i/\i<j+1+U r
    ·have d:j<=i/\i<j+(x::r).length:=by simp only[Ac];exact⟨DT [_,_] [.l (.a A9 DB) BQ] A9 BQ [1] B h2.1,Pj [_,_,_] [.t BQ<|.a (.a A9 DB) B5] BQ (.a A9<|.a B5 DB) [1] B h2.2⟩
     rw[Dh h2,Dh d];have:=jd h2.1;rw[this,dZ]
    ·have d: ¬(j<=i/\i<j+(x::r).length):= λq=>h2 ⟨uM q.1 λz=>e z.symm,Pj [_,_,_] [.t A9<|.a BQ<|.a B5 DB] A9 (.a (.a BQ DB) B5) [1] B q.2⟩;rw[CQ h2,CQ d,CQ λq=>e q.symm]
theorem fW{os:Ef Am}(h:AK os=U xs):Qh os 0 xs=AU xs:=by
 apply SK;intro i;rw[fV xs 0 os i<|DT [_,_] [.e A9 BQ] (.a Mr BQ) A9 [-1] B h];by_cases q:i<U xs
 ·rw[Dh ⟨D1 _,Pj [_,_] [.t A9 BQ] A9 (.a Mr BQ) [1] B q⟩];simp
 ·rw[CQ λz=>q<|FN z.2<|Mm _,PI<|AO (B8 h)<|G6.mp q,PI<|by simp;exact bK<|by assumption]
theorem Ir{h:Dw}(g:AA h a=D o)(e:AA h b=D o')(d:o.cls≠o'.cls):a≠b:= λq=>by subst q;obtain rfl:=AE<|g.symm.trans e;exact d B
section
variable{M:Model}{A:Around}{E:Value->Shared->Prop}
abbrev AGl:=Az×Az×Ef Am
def ze(h:Dw)(k:Aj)(r:AGl):Prop:=h.IsListIter r.1 r.2.1 k/\h.IsList r.2.1 r.2.2
theorem ze.up(x:ze h k r)(j:∀o,AA h r.1=D o->AA h' r.1=D o)(i:∀o,AA h r.2.1=D o->AA h' r.2.1=D o):ze h' k r:=⟨x.1.at j,x.2.at i⟩
theorem AEG{st:L}(f:Am×Aj->L->Sem (tU L))
  (hf:∀r k x j os s Q,ze s.heap k r->r.2.2[k]? =D x->AA s.heap TO=D (fU os)->AK os<=1000->
   (∀h',h'.IsListIter r.1 r.2.1 (k+1)->AA h' TO=D (fU (os.setIfInBounds j x))->(∀c o,c≠TO->c≠r.1->AA s.heap c=D o->AA h' c=D o)->Q (JG st) {s with heap:=h'})->Ao M A (f (AH r.1,j) st) Q E s)(k:Aj):
  ∀d xs j os s Q,Ds (λr x=>ze s.heap k r/\r.2.2[k]? =D x) d xs->(d.map (·.1)).Nodup->AA s.heap TO=D (fU os)->AK os<=1000->
   (∀h',(∀r∈d,ze h' (k+1) r)->AA h' TO=D (fU (Qh os j xs))->(∀c o,c≠TO->c∉d.map (·.1)->AA s.heap c=D o->AA h' c=D o)->Q st {s with heap:=h'})->Ao M A (tQ ((d.map λr=>AH r.1).zipIdx j) st f) Q E s:=by
 intro d;induction d with
 |nil=>
  intro xs j os s Q hp _ a _ C;cases hp;rw[ig,List.zipIdx_nil,Mw];exact AP<|C s.heap (λ_ h=>Ay h Au) a λ_ _ _ _ e=>e
 |cons r d ih=>
  intro xs j os s Q hp hnd a hz C;cases hp with
  |cons h hr=>
  rename_i x xs
  rw[B4,Vj,Gu];rw[B4,Cj]at hnd;refine AD<|hf r k x j os s _ h.1 h.2 a hz λh' g1 g2 v=>?_;have O:∀q,ze s.heap k q->q.2.1≠r.1:= λq hq=>by refine Dg hq.2 λo i u _=>?_;refine Dg h.1.1 λo' g l _=>?_;exact Ir i g<|by rw[u,l];simp
  have z:∀q,ze s.heap k q->q.2.1≠TO:= λq hq=>by refine Dg hq.2 λo i u _=>?_;exact Ir i a<|by rw[u];simp
  have N:∀q,ze s.heap k q->q.1≠TO:= λq hq=>by refine Dg hq.1 λo i u _=>?_;exact Ir i a<|by rw[u];simp
  refine ih xs (j+1) _ {s with heap:=h'} Q (Paired.imp hr λq y hq hqy=>?_) hnd.2 g2 (by simpa using hz) λG e1 e2 e3=>C G (λq hq=>?_) e2 λc o c1 c2 e=>?_
  ·have ne:q.1≠r.1:= λe=>hnd.1 (e▸ME hq);exact⟨hqy.1.up (λo=>v _ o (N q hqy.1) ne) λo=>v _ o (z q hqy.1)<|O q hqy.1,hqy.2⟩
  ·rcases DO hq with rfl|hq
   ·have l4:q.2.1∉d.map (·.1):= λhm=>by refine Ap (JY hm) λp hp e=>?_;refine Dx (Paired.N4 hr hp) λy hy=>?_;refine Dg h.1.2 λo i u _=>?_;refine Dg hy.1.1 λo' g l _=>?_;exact Ir i g (by rw[u,l];simp) e.symm
    refine⟨g1.at λo e=>e3 _ o (N q h.1) hnd.1 e,h.1.2.at λo e=>e3 _ o (z q h.1) l4<|v _ o (z q h.1) (O q h.1) e⟩
   ·exact e1 q hq
  ·rw[B4,CV,ADS]at c2;exact e3 c o c1 c2.2<|v c o c1 c2.1 e
end
end
section
variable{prog:Program}{w:World}{A:Around}{E:Value->Shared->Prop}{s:Shared}
structure MV(h:Dw)(z TI TO:Az)(f0:Am)(rs:I AGl)(os:Ef Am)(k:Aj):Prop where
 z:AFI h z TI TO f0
 ti:AA h TI=D (fU (rs.map λr=>AH r.1).toArray)
 to:AA h TO=D (fU os)
 it:∀r∈rs,ze h k r
 sz:AK os=U rs
theorem MV.up{z y TO:Az}{C:Ef Am}(x:MV h z y TO G j C k)(i:∀b∈z::y::TO::(j.map (·.1)++j.map (·.2.1)),∀o,AA h b=D o->AA h' b=D o):MV h' z y TO G j C k:=
 ⟨i _ (by simp) _ x.z,i _ (by simp) _ x.ti,i _ (by simp) _ x.to,λr u=>(x.it r u).up (λo=>i _ (by simp;exact BC<|BC<|BC<|Ax<|NJ _ _ u) o) λo=>i _ (by simp;exact BC<|BC<|BC<|BC<|NJ _ _ u) o,x.sz⟩
theorem qy{os:Ef Am}{Q:Am->Bq->Prop}(Z:MV s.heap z TI TO AN rs os k)(hx:Ds (λr x=>r.2.2[k]? =D x) rs xs)(nd:(rs.map (·.1)).Nodup)(ne:rs≠ [])(c0:TI≠TO)(a3:U rs<=1000)
  (hQ:∀h' (T:Az),MV h' z TI TO (Jo T) rs (AU xs) (k+1)->AA h' T=D (fU (AU xs))->AA s.heap T=AQ->
   (∀c o,c≠z->c≠TO->c∉rs.map (·.1)->AA s.heap c=D o->AA h' c=D o)->Q (AH T) {s with heap:=h'}):
  Ao (Gi prog w) A (Builtin.«zip.__next__» ⟨[AH z],[]⟩) (λc4 s'=> ∃v,c4=ax (N8 v)/\Q v s') E s:=by
 have hl:U xs=U rs:=(NV hx).symm;have zTO:=Ir Z.z Z.to<|by simp
 have zTI:=Ir Z.z Z.ti<|by simp
 have zI:∀r∈rs,r.1≠z:= λr hr=>by refine Dg ((Z.it r hr).1) λo ho hc _=>?_;exact Ir ho Z.z<|by rw[hc];simp
 have zL:∀r∈rs,r.2.1≠z:= λr hr=>by refine Dg ((Z.it r hr).2) λo ho hc _=>?_;exact Ir ho Z.z<|by rw[hc];simp
 have b7:TI∉rs.map (·.1):= λhm=>by refine Ap (JY hm) λr hr e=>?_;refine Dg ((Z.it r hr).1) λo ho hc _=>?_;exact Ir ho Z.ti (by rw[hc];simp) e
 have zM:z∉rs.map (·.1):= λhm=>by refine Ap (JY hm) λr hr e=>?_;exact zI r hr e
 show Ao _ _ (field (AH z) 2>>=_) _ _ _;refine AD<|HG Z.z B (x:=FH AB) B ?_;skip;refine AD<|HG Z.z B (x:=AH TI) B ?_;refine AD<|CA Z.ti B ?_;have b6: ¬((rs.map λr=>AH r.1).toArray.isEmpty=J):=by simp only[List.isEmpty_toArray,Ou,SA];exact ne
 simp only[CQ b6];skip;refine AD ?_;unfold NH;refine AD<|HG Z.z B (x:=AN) B<|AP ?_;simp only[EU];refine AD<|MG ?_;refine AD<|HG Z.z B (x:=AH TO) B ?_;refine AD<|Kh Z.z (by simp) λa6 y g=>?_;replace y:AFI a6 z TI TO AFJ:=y;have a4:=g.extBut _ _ zTO.symm Z.to;refine AD<|AEG (TO:=TO) _ (λr k' x j c6 s' Q' hr b2 a8 b5 b9=>?_) k rs xs 0 os {s with heap:=a6} _ (Paired.imp hx λr x hr b2=>⟨(Z.it r hr).up (λo=>g.extBut _ o<|zI r hr) λo=>g.extBut _ o<|zL r hr,b2⟩) nd a4 (by rw[Z.sz];exact a3) λh₅ C d a2=>?_
 ·refine AD (qM ?_);skip;refine AD<|wpAny_nextOf_list_item hr.1 hr.2 b2 λc5 g1 a1=>AP ?_;have ne1:TO≠r.1:=by refine Dg hr.1 λo ho hc _=>?_;exact Ir a8 ho<|by rw[hc];simp
  have i:=a1.extBut _ _ ne1 a8;refine AD<|CA i B ?_;refine AD<|dS i B ?_ ?_ ?_
  ·refine AD<|zy<|AP<|b9 _ (g1.at λo e=>(Dy ..).extBut _ _ ne1.symm e) (by rw[Dm _ i B];simp[FO]) λc o G c2 e=>(Dy ..).extBut _ _ G<|a1.extBut _ _ c2 e
  ·exact AO b5<|by rw[Ak];decide
  ·simp only[Di];exact IQ<|AO b5<|by rw[Ak];decide
 ·rw[fW<|by rw[Z.sz,hl]]at d;refine AD<|CA d B ?_;have b0:U xs.toArray.toList<=sizeLine:=by simp only[hl];exact AO a3<|by rw[Ak];decide
  refine AD<|AIn ?_ b0;have kp:∀c o,c≠z->c≠TO->c∉rs.map (·.1)->AA s.heap c=D o->AA h₅ c=D o:= λc o G c2 c3 e=>a2 c o c2 c3<|g.extBut _ _ G e;have N:=a2 _ _ zTO zM y;have a5:=kp TI _ zTI.symm c0 b7 Z.ti;have a:=F4 h₅;have b3:∀c o,AA s.heap c=D o->c≠AK h₅.objs:= λc o e q=>by
   by_cases G:c=z
   ·rw[<-q,G,N]at a;exact Tt a
   ·by_cases c2:c=TO
    ·rw[<-q,c2,d]at a;exact Tt a
    ·by_cases c3:c∈rs.map (·.1)
     ·refine Ap (JY c3) λr hr e3=>?_;refine Ap ((C r hr).1) λo' b8 _=>?_;rw[<-q,<-e3,b8]at a;exact Tt a
     ·rw[<-q,kp c o G c2 c3 e]at a;exact Tt a
  have a9:AA s.heap (AK h₅.objs)=none:=by
   cases e:AA s.heap (AK h₅.objs)with
   |none=>rfl
   |some o=>exact Ay B<|b3 _ o e
  skip;refine AD ?_;unfold zW;have b1:AFI (h₅.push {cls:=Ae "tuple",data:=Gz (AU xs.toArray.toList)}) z TI TO AFJ:=AX _ N;refine AD<|Kh b1 (by simp) λb4 u a0=>?_;replace u:AFI b4 z TI TO (Jo<|AK h₅.objs):=u;refine Kh u (by simp) λL l O=>?_;replace l:AFI L z TI TO (Jo<|AK h₅.objs):=l;have up:∀c o,c≠z->AA h₅ c=D o->AA L c=D o:= λc o G e=>O.extBut _ _ G<|a0.extBut _ _ G<|AX _ e;have Tz:AK h₅.objs≠z:= λq=>b3 z _ Z.z q.symm;refine AP<|CB _ B<|hQ L (AK h₅.objs) ⟨l,up _ _ zTI.symm a5,up _ _ zTO.symm d,λr hr=>(C r hr).up (λo=>up _ o<|zI r hr) λo=>up _ o<|zL r hr,by simp[hl]⟩ ?_ a9 λc o G c2 c3 e=>up c o G<|kp c o G c2 c3 e;have:=O.extBut _ _ Tz<|a0.extBut _ _ Tz<|kA (h:=h₅) (o:= {cls:=Ae "tuple",data:=Gz (AU xs.toArray.toList)}) B;simpa using this
theorem wC{os:Ef Am}(hh:A.handled=AQ)(Z:MV s.heap z TI TO AN (r0::rs) os k)(u:r0.2.2[k]? =AQ)
  (hE:∀h' e,(∀c o,c≠z->c≠r0.1->AA s.heap c=D o->AA h' c=D o)->(∃o,AA h' e=D o/\o.cls=Ae "StopIteration")->E (AH e) {s with heap:=h'}):
  Ao (Gi prog w) A (Builtin.«zip.__next__» ⟨[AH z],[]⟩) Q E s:=by
 have A0:=Z.it r0<|B0 _;have i0z:r0.1≠z:=by refine Dg A0.1 λo G N _=>?_;exact Ir G Z.z<|by rw[N];simp
 have C:r0.2.1≠z:=by refine Dg A0.2 λo G N _=>?_;exact Ir G Z.z<|by rw[N];simp
 show Ao _ _ (field (AH z) 2>>=_) _ _ _;refine AD<|HG Z.z B (x:=FH AB) B ?_;skip;refine AD<|HG Z.z B (x:=AH TI) B ?_;refine AD<|CA Z.ti B ?_;have v: ¬(((r0::rs).map λr=>AH r.1).toArray.isEmpty=J):=by simp
 simp only[CQ v];skip;refine AD ?_;unfold NH;refine AD<|HG Z.z B (x:=AN) B<|AP ?_;simp only[EU];refine AD<|MG ?_;refine AD<|HG Z.z B (x:=AH TO) B ?_;refine AD<|Kh Z.z (by simp) λl a d=>?_;replace a:AFI l z TI TO AFJ:=a;refine AD ?_;simp only[B4,Vj,Gu];refine AD<|AD<|qM ?_;skip;refine AD<|wpAny_nextOf_list_end hh (A0.1.at λo=>d.extBut _ o i0z) (A0.2.at λo=>d.extBut _ o C) u λO e i he=>?_;refine Ap he λoe q y=>?_;have g:=i _ _ i0z.symm a;have L:e≠z:= λx=>by subst x;obtain rfl:=AE<|g.symm.trans q;simp at y
 exact Kh g (by simp) λj _ h=>hE j e (λc o c1 c3 x=>h.extBut _ _ c1<|i _ _ c3<|d.extBut _ _ c1 x)<|CB oe (h.extBut _ _ L q) y
theorem fX{h:Ef Am}(Z:MV s.heap z g TO AN rs h k)(l:Ds (λr x=>r.2.2[k]? =D x) rs xs)(j:(rs.map (·.1)).Nodup)(i:rs≠ [])(d:g≠TO)(a:U rs<=1000)
  (q:∀h' (T:Az),MV h' z g TO (Jo T) rs (AU xs) (k+1)->AA h' T=D (fU (AU xs))->AA s.heap T=AQ->
   (∀c o,c≠z->c≠TO->c∉rs.map (·.1)->AA s.heap c=D o->AA h' c=D o)->Q (D (AH T)) {s with heap:=h'}):Ao (Gi prog w) A (T8 (AH z)) Q E s:=by
 have e:s.TypeIs (AH z) "zip" :=⟨_,Z.z,B⟩;unfold T8;exact AD (Pf (Qw (name:=S "__next__") e Q8
  (Gl Q8 e ADb
   (qy Z l j i d a λh' T C y v u=>AP<|q h' T C y v u) (ACk _))))
theorem VV{g:Ef Am}(j:A.handled=AQ)(Z:MV s.heap z v TO AN (r0::u) g k)(a:r0.2.2[k]? =AQ)
  (r:∀h',(∀c o,c≠z->c≠r0.1->AA s.heap c=D o->AA h' c=D o)->Q AQ {s with heap:=h'}):Ao (Gi prog w) A (T8 (AH z)) Q E s:=by
 have d:s.TypeIs (AH z) "zip" :=⟨_,Z.z,B⟩;unfold T8;refine AD (Pf (Qw (name:=S "__next__") d Q8
  (Gl Q8 d ADb (wC j Z a λh' e i l=>?_)<|ACk _)))
 refine Ap l λo h q=>?_;refine AD<|Ji (T:= "StopIteration") (b:=J) ⟨o,h,q⟩ AIo ?_;exact AP<|r _ i
end
theorem XN(a b c d:Am):checkTypeCall "zip" ⟨[a,b,c,d],[]⟩=Ce ():=by kernel_rfl
theorem ZL(a b c d:Am):checkBuiltinCall "zip.__new__" ⟨[Ae "zip",a,b,c,d],[]⟩=Ce ():=by kernel_rfl
theorem Rt(a b c d e:Am):Pe "object.__init__" ⟨[a,b,c,d,e],[]⟩:=by unfold Pe;rw[Vh (id:= "object.__init__") (n:=['_','_','t','i','n','i','_','_']) (o:=['t','c','e','j','b','o']) (by kernel_rfl) PySem.F.owner_object];kernel_rfl
noncomputable abbrev itO(l:Az):Obj:= {cls:=Ae "list_iterator",data:=BF #[.ref l,EF 0 0] }
noncomputable abbrev zh1(h:Dw)(a:Az):Heap:=h.push<|itO a
noncomputable abbrev zh2(h:Dw)(a b:Az):Heap:=(zh1 h a).push<|itO b
noncomputable abbrev zh3(h:Dw)(a b c:Az):Heap:=(zh2 h a b).push<|itO c
noncomputable abbrev zh4(h:Dw)(a b c d:Az):Heap:=(zh3 h a b c).push<|itO d
noncomputable abbrev zh5(h:Dw)(a b c d:Az):Heap:=(zh4 h a b c d).push {cls:=Ae "tuple",data:=Gz #[.ref (AK h.objs),AH (zh1 h a).objs.size,AH (zh2 h a b).objs.size,AH (zh3 h a b c).objs.size] }
noncomputable abbrev zh6(h:Dw)(a b c d:Az):Heap:=(zh5 h a b c d).push {cls:=Ae "tuple",data:=Gz #[.none,AN,AN,AN] }
noncomputable abbrev lC(h:Dw)(a b c d:Az):Heap:=(zh6 h a b c d).push {cls:=Ae "zip",data:=BF #[.none,FH AB,FH AB,AH (zh4 h a b c d).objs.size,AH (zh5 h a b c d).objs.size] }
set_option maxHeartbeats 4000000 in
theorem XO (a b c d:Addr) (xa xb xc xd:Array Value):
  Meets (Builtin.«zip.__new__» ⟨[.type "zip",.ref a,.ref b,.ref c,.ref d],[]⟩) (λ_ R s=>s.heap.IsList a xa/\s.heap.IsList b xb/\s.heap.IsList c xc/\s.heap.IsList d xd/\
   R (.ok (.ret (.ref (zh6 s.heap a b c d).objs.size))) {s with heap:=lC s.heap a b c d}):=
 .of_wp λprog w A R s h=>by
  obtain⟨hp,g,dr,tk,os⟩:=s;obtain⟨hl1,hl2,hl3,hl4,h⟩:=h;have hsub:=sub_zip;have hL1:Heap.IsList (Shared.heap ⟨hp,g,dr,tk,os⟩) a xa:=hl1;have hL2:Heap.IsList (Shared.heap ⟨zh1 hp a,g,dr,tk,os⟩) b xb:=Heap.IsList.push hl2 _;have hL3:Heap.IsList (Shared.heap ⟨zh2 hp a b,g,dr,tk,os⟩) c xc:=Heap.IsList.push (Heap.IsList.push hl3 _) _;have hL4:Heap.IsList (Shared.heap ⟨zh3 hp a b c,g,dr,tk,os⟩) d xd:=Heap.IsList.push (Heap.IsList.push (Heap.IsList.push hl4 _) _) _
  wp_walk using wpAny_pyIter_list hL1,wpAny_pyIter_list hL2,wpAny_pyIter_list hL3,wpAny_pyIter_list hL4
  exact(CB _ rfl h)
section
variable{prog:Program}{w:World}{A:Around}{E:Value->Shared->Prop}{s:Shared}
theorem lD{a b c d:Az}{N L G C:Ef Am}{Q:Am->Bq->Prop}(ha:s.heap.IsList a N)(hb:s.heap.IsList b L)(hc:s.heap.IsList c G)(hd:s.heap.IsList d C)
  (h:∀h' (z TI TO i1 i2 i3 i4:Az),MV h' z TI TO AN [(i1,a,N),(i2,b,L),(i3,c,G),(i4,d,C)] #[.none,AN,AN,AN] 0->TI≠TO-> [i1,i2,i3,i4].Nodup->(∀x∈[z,TI,TO,i1,i2,i3,i4],AA s.heap x=AQ)->
   (∀c o,AA s.heap c=D o->AA h' c=D o)->Q (AH z) {s with heap:=h'}):
  Ao (Gi prog w) A (RV (Ae "zip") [AH a,AH b,AH c,AH d]) Q E s:=by
 refine callType_new PySem.F.called_zip (by decide) (XN _ _ _ _) (ZL _ _ _ _) (λO=>Rt O _ _ _ _) PySem.F.entry_zip_new
  (XO a b c d N L G C) ⟨ha,hb,hc,hd,?_⟩
 have y:(zh1 s.heap a).objs.size=AK s.heap.objs+1:=EM ..;have v:(zh2 s.heap a b).objs.size=AK s.heap.objs+2:=by rw[EM,y]
 have u:(zh3 s.heap a b c).objs.size=AK s.heap.objs+3:=by rw[EM,v]
 have q:(zh4 s.heap a b c d).objs.size=AK s.heap.objs+4:=by rw[EM,u]
 have l:(zh5 s.heap a b c d).objs.size=AK s.heap.objs+5:=by rw[EM,q]
 have z6:(zh6 s.heap a b c d).objs.size=AK s.heap.objs+6:=by rw[EM,l]
 have k7:∀ {x o},(zh6 s.heap a b c d).get? x=D o->(lC s.heap a b c d).get? x=D o:= λe=>AX _ e;have k6:∀ {x o},(zh5 s.heap a b c d).get? x=D o->(lC s.heap a b c d).get? x=D o:= λe=>k7<|AX _ e;have k5:∀ {x o},(zh4 s.heap a b c d).get? x=D o->(lC s.heap a b c d).get? x=D o:= λe=>k6<|AX _ e;have k4:∀ {x o},(zh3 s.heap a b c).get? x=D o->(lC s.heap a b c d).get? x=D o:= λe=>k5<|AX _ e;have k3:∀ {x o},(zh2 s.heap a b).get? x=D o->(lC s.heap a b c d).get? x=D o:= λe=>k4<|AX _ e;have k2:∀ {x o},(zh1 s.heap a).get? x=D o->(lC s.heap a b c d).get? x=D o:= λe=>k3<|AX _ e;have i:∀ {x o},AA s.heap x=D o->(lC s.heap a b c d).get? x=D o:= λe=>k2<|AX _ e;have g7:(lC s.heap a b c d).get? (zh6 s.heap a b c d).objs.size=D _:=A1 _ B;have g6:(lC s.heap a b c d).get? (zh5 s.heap a b c d).objs.size=D _:=k7<|A1 _ B;have g5:(lC s.heap a b c d).get? (zh4 s.heap a b c d).objs.size=D _:=k6<|A1 _ B;have g4:(lC s.heap a b c d).get? (zh3 s.heap a b c).objs.size=D _:=k5<|A1 _ B;have g3:(lC s.heap a b c d).get? (zh2 s.heap a b).objs.size=D _:=k4<|A1 _ B;have g2:(lC s.heap a b c d).get? (zh1 s.heap a).objs.size=D _:=k3<|A1 _ B;have g1:(lC s.heap a b c d).get? (AK s.heap.objs)=D _:=k2<|A1 _ B;have g:∀x,AK s.heap.objs<=x->AA s.heap x=none:= λx j=>by
  cases e:AA s.heap x with
  |none=>rfl
  |some o=>exact Ay (BS e)<|G6.mpr j
 refine⟨⟨_,g7,B⟩,h _ _ _ _ (AK s.heap.objs) (zh1 s.heap a).objs.size (zh2 s.heap a b).objs.size (zh3 s.heap a b c).objs.size ⟨g7,g5,g6,λr hr=>?_,B⟩ ?_ ?_ (λx j=>g x ?_) λc o e=>i e⟩
 ·simp only[CV,Au,JQ]at hr;rcases hr with rfl|rfl|rfl|rfl
  ·exact⟨⟨_,g1,B,B⟩,ha.at λo e=>i e⟩
  ·exact⟨⟨_,g2,B,B⟩,hb.at λo e=>i e⟩
  ·exact⟨⟨_,g3,B,B⟩,hc.at λo e=>i e⟩
  ·exact⟨⟨_,g4,B,B⟩,hd.at λo e=>i e⟩
 ·rw[q,l];exact I7<|PC _
 ·rw[y,v,u];simp
 ·simp only[CV,Au,JQ]at j;rcases j with rfl|rfl|rfl|rfl|rfl|rfl|rfl<;>(try rw[z6])<;>(try rw[l])<;>(try rw[q])<;>(try rw[u])<;>(try rw[v])<;>(try rw[y])<;>first|exact BO _|exact Ci _ _
end
noncomputable def QD(as bs cs ds:I DV):I DV:=(as.zip<|bs.zip<|cs.zip ds).map λp=>FI [p.1,p.2.1,p.2.2.1,p.2.2.2]
theorem qz(m:Aj)(as bs cs ds:I DV)(g:U as=m)(e:U bs=m)(d:U cs=m)(a:U ds=m):(QD as bs cs ds).length=m:=by unfold QD;rw[Ai,Hy,Hy,Hy,g,e,d,a,VJ,VJ,VJ]
theorem rA(as bs cs ds:I DV)(i:Aj)(h:i<(QD as bs cs ds).length):∃(j:i<U as) (g:i<U bs) (d:i<U cs) (a:i<U ds),(QD as bs cs ds)[i] =FI [as[i],bs[i],cs[i],ds[i]] :=by
 have k:=FN h<|by unfold QD;rw[Ai,Hy,Hy,Hy]
 have k1:=uN.mp k;have k2:=uN.mp k1.2;have k3:=uN.mp k2.2;have hz:(as.zip<|bs.zip<|cs.zip ds)[i]? =D (as[i],bs[i],cs[i],ds[i]):=NW.mpr ⟨AR k1.1,NW.mpr ⟨AR k2.1,NW.mpr ⟨AR k3.1,AR k3.2⟩⟩⟩;have e:(QD as bs cs ds)[i]? =D (FI [as[i],bs[i],cs[i],ds[i]]):=Bv.trans<|hz▸B;exact(OH k1.1 k2.1 k3.1 k3.2<|(Pl e).2)
theorem MV.pj{z j TO:Az}{y:Ef Am}(Z:MV h z j TO f0 u y k)(C:∀b∈wr,b=z\/b=j\/b=TO\/b∈u.map (·.1)):So h wr:= λb Q=>by
 rcases C b Q with rfl|rfl|rfl|hm
 ·exact(K0 _ Z.z (BC ⟨by simp,by simp⟩)<|Ax ⟨_,B⟩)
 ·exact(K0 _ Z.ti (Ax<|by nofun)<|BC ⟨B,_,_,B⟩)
 ·exact(K0 _ Z.to (Ax<|by nofun)<|BC ⟨B,_,_,B⟩)
 ·refine Ap (JY hm) λr G e=>?_;refine Dg ((Z.it r G).1) λo L i N=>?_;exact(K0 o (e▸L) (BC ⟨by rw[i];simp,by rw[i];simp⟩)<|Ax ⟨_,N⟩)
theorem wD(O:Cr T)(hf:Ev T n env pv (Bu f p) (Ah (Ae "zip")))(he:GH T n env pv [e1,e2,e3,e4] [AL d1,AL d2,AL d3,AL d4])
  (l1:U d1=m)(l2:U d2=m)(l3:U d3=m)(l4:U d4=m):ItZ T n env pv (KU ts tk tp) (El (Bu f p) [e1,e2,e3,e4] [] pos) (QD d1 d2 d3 d4):=by
 intro A X ad s Q E R k;refine Fb<|hf A X ad s _ E R λfv c4 a0 a9 a6=>?_;have b3:=R.ext O a0 a9;refine Ly O he MB b3 a6 λvs l a5 G xo tf ta=>?_;obtain rfl:=tf.inv;cases ta with
 |cons t1 r=>
 cases r with
 |cons t2 r=>
 cases r with
 |cons t3 r=>
 cases r with
 |cons t4 r=>
 obtain rfl:=r.inv;cases t1 with
 | @lst a1 v1 _ h1 n1 u1=>
 cases t2 with
 | @lst a2 v2 _ h2 n2 u2=>
 (refine BU t3.inv λa3 v3 e_ h3 n3 u3=>?_;subst e_)
 (refine BU t4.inv λa4 v4 e_ h4 n4 u4=>?_;subst e_)
 refine lD h1 h2 h3 h4 λh' z TI TO i1 i2 i3 i4 Z c0 nd fr kp=>?_;have hI:=G.keeps (s':= {l with heap:=h'}) O kp;refine wpAny_pyIter_zip (s:= {l with heap:=h'}) Z.z ?_;have b4:=qz m d1 d2 d3 d4 l1 l2 l3 l4;generalize y: [(i1,a1,AU v1),(i2,a2,AU v2),(i3,a3,AU v3),(i4,a4,AU v4)] =rs at Z;have u:rs.map (·.1)=[i1,i2,i3,i4] :=by rw[<-y];rfl
 have N:rs.map (·.2.1)=[a1,a2,a3,a4] :=by rw[<-y];rfl
 have hw:∀b∈[z,TI,TO,i1,i2,i3,i4],b=z\/b=TI\/b=TO\/b∈rs.map (·.1):= λb g=>by rw[u];simpa using g
 have a8:∀ {h:Dw} {f0:Am} {os:Ef Am} {j:Aj},MV h z TI TO f0 rs os j->TI≠z/\TO≠z/\ ∀r∈rs,r.1≠z/\r.2.1≠z:= λ {h f0 os j} Z=>⟨Ir Z.ti Z.z<|by simp,Ir Z.to Z.z<|by simp,λr hr=>by refine Dg ((Z.it r hr).1) λo ho hc _=>?_;refine Dg ((Z.it r hr).2) λo' b6 b8 _=>?_;exact⟨Ir ho Z.z<|by rw[hc];simp,Ir b6 Z.z<|by rw[b8];simp⟩⟩
 refine k z (z::TI::TO::(rs.map (·.1)++rs.map (·.2.1))) [z,TI,TO,i1,i2,i3,i4]
  (λi v h=> ∃(Ta:Az) (xs:I Am),v=AH Ta/\MV h z TI TO (Jo Ta) rs (AU xs) (i+1))
  (λi h=> ∃os,MV h z TI TO AN rs os i) l _ (a0.trans a5) G (C1.of_keeps kp) hI ⟨?_,?_,?_,?_,⟨_,Z⟩,fr,?_,?_,?_⟩ ?_
 ·rintro i h C ⟨os,Zi⟩ hk;exact⟨os,Zi.up λb g o=>hk b g o⟩
 ·rintro i s' Q' E' hi ⟨os,Zi⟩ kk;refine Rg (rA d1 d2 d3 d4 i hi) λg1 g2 g3 g4 eg=>?_;have w1:i<U v1:=by rw[u1.length];exact g1
  have w2:i<U v2:=by rw[u2.length];exact g2
  have w3:i<U v3:=by rw[u3.length];exact g3
  have w4:i<U v4:=by rw[u4.length];exact g4
  have hx:Ds (λr x=>r.2.2[i]? =D x) rs [v1[i],v2[i],v3[i],v4[i]] :=by rw[<-y];exact QW (by simp[w1])<|QW (by simp[w2])<|QW (by simp[w3])<|QW (by simp[w4]) QV
  refine fX Zi hx (by rw[u];exact nd) (by rw[<-y];simp) c0 (by rw[<-y];simp) λC Ta c3 b2 c2 c1=>?_;refine kk (AH Ta) C s'.toks (RD Ta _ B c3) (λb o g e=>c1 b o (λq=>g<|by simp[q]) (λq=>g<|by simp[q]) (λq=>g<|by rw[u]at q;simp only[CV,Au,JQ]at q⊢;rcases q with q|q|q|q<;>simp[q]) e) λX' b9 c6 b1 d=>?_;rw[eg];refine .tup (vs:=[v1[i],v2[i],v3[i],v4[i]]) ⟨_,b2,B,_,B⟩ (λq=>?_)<|Cw ((u1.get i g1 w1).up O d)<|Cw ((u2.get i g2 w2).up O d)<|Cw ((u3.get i g3 w3).up O d)<|Cw ((u4.get i g4 w4).up O d) E4;rcases b9 _ q with h|⟨o,ho⟩
  ·refine Ap (b1.tab _ h) λc5 e' _=>?_;skip
   (rw[b2]at e';cases e')
  ·exact EN<|c2.symm.trans ho
 ·rintro i v s' Q' E' ⟨Ta,xs,rfl,Zm⟩ kk;refine NZ (a8 Zm) λq1 q2 q3=>?_;exact wpAny_letOwnedTupleGo_zip Zm.z λC b5 L=>kk C ⟨_,b5,L.extBut _ _ q1 Zm.ti,L.extBut _ _ q2 Zm.to,λr hr=>(Zm.it r hr).up (λo=>L.extBut _ o (q3 r hr).1) λo=>L.extBut _ o (q3 r hr).2,Zm.sz⟩ λb o g e=>L.extBut _ _ (λq=>g<|by simp[q]) e
 ·rintro s' Q' E' ⟨os,Ze⟩ kk;rw[b4]at Ze;rw[<-y]at Ze;exact VV R.a.handled Ze (by simp[u1.length,l1]) λC hk=>kk C s'.toks λb o g e=>hk b o (λq=>g<|by simp[q]) (λq=>g<|by simp[q]) e
 ·rintro i h ⟨os,Zi⟩;exact Zi.pj hw
 ·rintro i v h ⟨Ta,xs,_,Zm⟩;exact Zm.pj hw
 ·intro b g hn;rw[u,N]at g;simp only[CV,L5,Au,JQ,ADS]at g hn;have:b=a1\/b=a2\/b=a3\/b=a4:=by obtain⟨m1,m2,m3,m4,m5,m6,m7⟩:=hn;simpa [m1,m2,m3,m4,m5,m6,m7]using g
  have ok:∀ {a:Az} {b0:Ef Am},l.heap.IsList a b0->(∃o,AA l.heap a=D o)/\ ¬T.Tab a:= λ {a b0} b7=>(by refine Dg b7 λo ho hc _=>?_;exact⟨⟨o,ho⟩,G.DI ho<|by rw[hc];exact RN⟩);rcases this with rfl|rfl|rfl|rfl
  ·exact ok h1
  ·exact ok h2
  ·exact ok h3
  ·exact ok h4
 ·intro b g hn;rw[u,N]at g;simp only[CV,L5,Au,JQ,ADS]at g hn;have:b=a1\/b=a2\/b=a3\/b=a4:=by obtain⟨m1,m2,m3,m4,m5,m6,m7⟩:=hn;simpa [m1,m2,m3,m4,m5,m6,m7]using g
  rcases this with rfl|rfl|rfl|rfl<;>assumption
abbrev Rows:=I<|I BB
inductive Vr where
 |HX (k:Bt) (ls:Rows)
 |con (x y z:Rows)
open Mine.Vr renaming con->ZV
noncomputable def gD:Vr->DV
 |.HX k a=>FI [Fu k,AL (AV a)]
 |.con x y z=>FI [Fu (S "conflict"),AL (AV x),AL (AV y),AL (AV z)]
noncomputable def MW(a Co BH:Rows):Rows:=a.filter λl=>Qf Co l&&Qf BH l
noncomputable def Gb(a:Rows):I Rows:=a.map (λl=>[l])++[[]]
noncomputable def Nv(Aw:Aa)(x y z:Rows):Vr:=match y==z with
 |true=>.HX (match x==y with|true=>S "unchanged" |false=>S "same") y
 |false=>(match Bx (0<Aw)with
  |true=>ZV x y z
  |false=>(match x==y with
   |true=>.HX (S "b") z
   |false=>(match x==z with|true=>.HX (S "a") y|false=>ZV x y z)))
noncomputable def XQ(Aw:Aa)(e:Rows):Vr:=match Aw==2 with
 |true=>ZV e e e
 |false=>.HX (S "unchanged") e
noncomputable def og(Aw:Aa):I (Rows×Rows×Rows×Rows)->I Vr
 |[] =>[]
 |p::r=>Nv Aw p.1 p.2.1 p.2.2.1::XQ Aw p.2.2.2::og Aw r
noncomputable def E6(Aw:Aa)(xs ys a es:I Rows):I Vr:=og Aw<|xs.zip<|ys.zip<|a.zip es
noncomputable def Lz:AW Bt->DV|none=>BK|some s=>Fu s
noncomputable def L0(Aw:Aa)(d:AW Bt)(a Co BH:Rows):I Vr:=
 E6 Aw (Fo a<|MW a Co BH) (Fo Co<|MW a Co BH) (Fo BH<|MW a Co BH) (Gb<|MW a Co BH)++(match d with|none=>[] |some s=>[.HX s []])
theorem rB:∀ {b:Rows},U a=U b->ML (Lu 4) (AV a) (AV b)=D (a==b):=by
 induction a with
 |nil=>
  intro b h;obtain rfl:=WV h.symm;rfl
 |cons x a d=>
  intro b h;cases b with
  |nil=>cases h
  |cons y b=>
   show(Lu 4 (AJ x)<|AJ y).bind (λc=>(ML (Lu 4) (AV a)<|AV b).bind λr=>D<|c&&r)=_;rw[d<|OB h];rfl
theorem XR(a b:Rows):Lu 5 (AL (AV a)) (AL (AV b))=D (a==b):=by
 show(match(AV a).length==(AV b).length with|true=>ML (Lu 4) (AV a) (AV b)|false=>D AB)=_;rw[CN,CN];cases h:U a==U b with
 |true=>exact rB<|by simpa using h
 |false=>
  have: ¬a=b:= λq=>by rw[q]at h;simp at h
  have:(a==b)=false:=by simpa using this
  rw[this]
theorem As(as cs){st:Ct}(O:Cr T)(h:Gm (vS T k 20 G pv st as)=D ((fl,EA),cs))(a:ER cs):Fn T k G pv st fl EA:= λenv K=>
 (oM O K 20 _ _ _).only h a
theorem rC{st:Ct}(O:Cr T)(a:st= .For (Kk st) (FX st) (DR st) [] (W2 st))(l:Kk st=KU ts tk tp)(d:FX st=El (Bu x p) [e1,e2,e3,e4] [] cp)(j:Zs G (Kk st)=J)(hs:MQ (FX st)=J)
  (hz:O0 G pv x=D (Ah (Ae "zip")))(q:Gm (Rl (vE T k m G pv) [e1,e2,e3,e4] as)=D ([AL d1,AL d2,AL d3,AL d4],cs))(r:ER cs)(i:U d1=mm)(h:U d2=mm)(g:U d3=mm)(e:U d4=mm)
  (u:KN T k G (Kk st) (DR st) pv (QD d1 d2 d3 d4) fl EA):Fn T k G pv st fl EA:= λenv K=>by
 rw[a];refine oU O K j hs ?_ u;rw[l,d];exact wD O (HZ O K hz) ((JJ (Io O K m).1).only q r) i h g e
noncomputable def GG:GV:=⟨(E2 0).names,HA,[S "groups"],AQ⟩
noncomputable def bG:I Stmt:=Cc M3
noncomputable def M4:Stmt:=BA 3 bG
noncomputable def UY(Aw:Aa)(g:DV)(d Co BH:Rows)(a b c x y z e:PV):BD:=
 [(S "base",mw<|AL<|AV d),(S "ours",mw<|AL<|AV Co),(S "theirs",mw<|AL<|AV BH),(S "kept",a),(S "ends",b),(S "groups",c),(S "x",x),(S "y",y),(S "z",z),(S "end",e),(S "odd",mw g),(S "manner",mw<|AM Aw)]
noncomputable def rD(r:Rows):PV:=mw<|AL<|AV r
noncomputable def dK(a:I Vr):PV:=BP AQ<|JW<|a.map gD
theorem fY(a:I Vr)(g:Vr):dK (a++[g])=BP AQ (JW (a.map gD++[gD g])):=by simp[dK]
theorem ABQ(P:HN T)(n:Aj)(Aw:Aa)(r:DV)(i Co BH:Rows)(a b e:PV)(gs:I Vr)(x y z:Rows)(hz:U gs<=AY):
  Fn T n GG (UY Aw r i Co BH a b (dK gs) (rD x) (rD y) (rD z) e) (BA 0 (DR M4)) Aq (UY Aw r i Co BH a b (dK (gs++[Nv Aw x y z])) (rD x) (rD y) (rD z) e):=by
 have g:∀p q c,(p==q)=c->Cg T n To (AL<|AV p) (AL<|AV q) c:= λp q c h=>h▸Ng (XR p q);have u:∀p q c,(p==q)=c->Cg T n H8 (AL<|AV p) (AL<|AV q) (!c):= λp q c h=>h▸Nh (XR p q);have d:(gs.map gD).length<=sizeLine:=by rw[Ai];exact hz
 rw[fY];unfold Nv;cases l:y==z with
 |true=>
  cases j:x==y with
  |true=>exact As [.b J,.b J,.b J,.b J] [Cg T n To (AL<|AV y) (AL<|AV z) J,Cg T n To (AL<|AV x) (AL<|AV y) J,J=J,(gs.map gD).length<=AY,J=J] P.O ⋯ ⟨g _ _ _ l,g _ _ _ j,B,d,B,AI⟩
  |false=>exact As [.b J,.b J,.b AB,.b AB] [Cg T n To (AL<|AV y) (AL<|AV z) J,Cg T n To (AL<|AV x) (AL<|AV y) AB,AB=AB,(gs.map gD).length<=AY,J=J] P.O ⋯ ⟨g _ _ _ l,g _ _ _ j,B,d,B,AI⟩
 |false=>
  cases j:Bx (0<Aw)with
  |true=>exact As [.b AB,.b AB,.b J,.b J] [Cg T n To (AL<|AV y) (AL<|AV z) AB,Bx (0<Aw)=J,(gs.map gD).length<=AY,J=J,AB=AB] P.O ⋯ ⟨g _ _ _ l,j,d,B,B,AI⟩
  |false=>
   cases v:x==y with
   |true=>exact As [.b AB,.b AB,.b AB,.b AB,.b AB,.b AB,.b J,.b J] [Cg T n To (AL<|AV y) (AL<|AV z) AB,Cg T n H8 (AL<|AV x) (AL<|AV y) AB,AB=AB,Bx (0<Aw)=AB,Cg T n To (AL<|AV x) (AL<|AV y) J,(gs.map gD).length<=AY,J=J,AB=AB,AB=AB] P.O ⋯ ⟨g _ _ _ l,u _ _ _ v,B,j,g _ _ _ v,d,B,B,B,AI⟩
   |false=>
    cases C:x==z with
    |true=>exact As [.b AB,.b AB,.b AB,.b J,.b J,.b AB,.b AB,.b AB,.b AB] [Cg T n To (AL<|AV y) (AL<|AV z) AB,Cg T n H8 (AL<|AV x) (AL<|AV y) J,Cg T n H8 (AL<|AV x) (AL<|AV z) AB,J=J,Bx (0<Aw)=AB,Cg T n To (AL<|AV x) (AL<|AV y) AB,(gs.map gD).length<=AY,AB=AB,AB=AB,AB=AB] P.O ⋯ ⟨g _ _ _ l,u _ _ _ v,u _ _ _ C,B,j,g _ _ _ v,d,B,B,B,AI⟩
    |false=>exact As [.b AB,.b AB,.b AB,.b J,.b J,.b J,.b J] [Cg T n To (AL<|AV y) (AL<|AV z) AB,Cg T n H8 (AL<|AV x) (AL<|AV y) J,Cg T n H8 (AL<|AV x) (AL<|AV z) J,J=J,Bx (0<Aw)=AB,(gs.map gD).length<=AY,J=J,AB=AB] P.O ⋯ ⟨g _ _ _ l,u _ _ _ v,u _ _ _ C,B,j,d,B,B,AI⟩
theorem AEK(P:HN T)(n:Aj)(Aw:Aa)(g:DV)(d Co BH:Rows)(a b:PV)(gs:I Vr)(x y z:PV)(e:Rows)(hz:U gs<=AY):
  Fn T n GG (UY Aw g d Co BH a b (dK gs) x y z (rD e)) (BA 1 (DR M4)) Aq (UY Aw g d Co BH a b (dK (gs++[XQ Aw e])) x y z (rD e)):=by
 have h:(gs.map gD).length<=sizeLine:=by rw[Ai];exact hz
 rw[fY];unfold XQ;cases i:Aw==2 with
 |true=>exact As [.b J] [(Aw==2)=J,(gs.map gD).length<=AY] P.O ⋯ ⟨i,h,AI⟩
 |false=>exact As [.b AB] [(Aw==2)=AB,(gs.map gD).length<=AY] P.O ⋯ ⟨i,h,AI⟩
theorem cC(Aw:Aa)(a b c d:I Rows):(E6 Aw a b c d).length<=2*U a:=by
 have h:∀l,(og Aw l).length=2*U l:=by
  intro l;induction l with
  |nil=>rfl
  |cons p r e=>exact BI (· +2) e
 unfold E6;rw[h,Hy];exact Me 2<|MD ..
noncomputable def G3(a:I Rows):I DV:=(JV a).map AL
theorem QE(a:I Rows):(G3 a).length=U a:=by simp[G3,JV]
theorem rE(base Co BH:Rows):(MW base Co BH).length<=U base:=QY _ _
theorem wG(O:Cr T)(e:ss=[s1,s2])(h:Fn T k G pv s1 Aq BE)(g:Fn T k G BE s2 fl Fh):Ge T k G pv ss fl Fh:= λenv K=>by
 rw[e];refine My<|(h env K).weak λa EA ⟨e1,e2⟩=>?_;subst e1 e2;refine My<|(g env K).weak λa EA ⟨e1,e2⟩=>?_;subst e1 e2;cases a with
 |next=>exact jk ⟨B,B⟩
 |brk=>exact⟨B,B⟩
 |cont=>exact⟨B,B⟩
 |ret d=>exact⟨B,B⟩
 |exc=>exact⟨B,B⟩
theorem Sy(h:U l=m+1):∃x r,l=x::r/\U r=m:=by
 cases l with
 |nil=>cases h
 |cons x r=>exact(RD x r B<|by simpa using h)
theorem fZ(P:HN T)(n:Aj)(Aw:Aa)(h:DV)(d Co BH:Rows)(a b:PV):∀m as bs cs es gs x y z e,U as=m->U bs=m->U cs=m->U es=m->U gs+2*m<=100000->
  ∃u j i e',KN T n GG (Kk M4) (DR M4) (UY Aw h d Co BH a b (dK gs) x y z e) (QD (G3 as) (G3 bs) (G3 cs) (G3 es)) Aq (UY Aw h d Co BH a b (dK (gs++E6 Aw as bs cs es)) u j i e'):=by
 intro m;induction m with
 |zero=>
  exactλas bs cs es gs x y z e Q N L G _=>by obtain rfl:=WV Q;obtain rfl:=WV N;obtain rfl:=WV L;obtain rfl:=WV G;refine(OH x y z e ?_);have:gs++E6 Aw [] [] [] [] =gs:=Fi gs;rw[this];exact KN.done
 |succ m v=>
  exactλa3 a2 a1 a0 gs x y z e Q N L G hz=>by
   (refine I9 (Sy Q) λp as g g1=>?_;subst g)
   (refine I9 (Sy N) λq bs g g2=>?_;subst g)
   (refine I9 (Sy L) λr cs g g3=>?_;subst g)
   (refine I9 (Sy G) λt es g g4=>?_;subst g)
   have hs:=Ak;have z1:U gs<=sizeLine:=hs▸AO (AO (Ci ..) hz) (by decide);have z2:(gs++[Nv Aw p q r]).length<=sizeLine:=by rw[hs,Ad,Ac,BL];exact DT [_,_] [.l (.a A9<|.m 2<|.a BQ DB)<|.n 100000] (.a A9<|.a Mr DB) (.n 16777216) [1] B hz
   refine Rg (v as bs cs es (gs++[Nv Aw p q r] ++[XQ Aw t]) (rD p) (rD q) (rD r) (rD t) g1 g2 g3 g4<|by simp only[Ad,Ac,BL];exact DT [_,_] [.l (.a A9<|.m 2<|.a BQ DB)<|.n 100000] (.a (.a (.a A9<|.a Mr DB)<|.a Mr DB)<|.m 2 BQ) (.n 100000) [1] B hz) λu j i e' ih=>?_;have e1:gs++E6 Aw (p::as) (q::bs) (r::cs) (t::es)=gs++[Nv Aw p q r] ++[XQ Aw t] ++E6 Aw as bs cs es:=by rw[DN,DN];rfl
   rw[e1];refine(OH u j i e' ?_);have C:QD (G3<|p::as) (G3<|q::bs) (G3<|r::cs) (G3<|t::es)=FI [AL<|AV p,AL<|AV q,AL<|AV r,AL<|AV t] ::QD (G3 as) (G3 bs) (G3 cs) (G3 es):=B;rw[C];refine KN.step (Ec:=UY Aw h d Co BH a b (dK gs) (rD p) (rD q) (rD r)<|rD t) (BE:=UY Aw h d Co BH a b (dK<|gs++[Nv Aw p q r] ++[XQ Aw t]) (rD p) (rD q) (rD r)<|rD t) ⋯ ?_ ih;exact wG P.O ⋯ (ABQ P n Aw h d Co BH a b (rD t) gs p q r z1)<|AEK P n Aw h d Co BH a b (gs++[Nv Aw p q r]) (rD p) (rD q) (rD r) t z2
noncomputable def cG0:Expr:=Hz<|BA 0 bG
noncomputable def cG1:Expr:=exL<|Hz<|BA 1 bG
theorem rF(P:HN T)(n:Aj)(Aw:Aa)(j:DV)(g Co BH:Rows):∀r,EO T n (EY GG (Bd cG0)) (DA GG (UY Aw j g Co BH Af Af Af Af Af Af Af) (Bd cG0).names) (PY cG0) (FT cG0) (FY cG0) (AV r) (AV (r.filter λl=>Qf Co l&&Qf BH l)):=by
 intro r;induction r with
 |nil=>
  exact Mi
 |cons l r u=>
  exact by
   have v:=u;have d:∀q c,Qf q l=c->Cg T n Yi (AJ l) (AL<|AV q) c:= λq c h=>h▸K4 (UT l q);skip;cases a:Qf Co l with
   |false=>
    have e:(l::r).filter (λl=>Qf Co l&&Qf BH l)=r.filter λl=>Qf Co l&&Qf BH l:=by rw[Bb,a];rfl
    rw[e];exact ay B (GO [.b AB,.b AB] AB [Cg T n Yi (AJ l) (AL<|AV Co) AB,AB=AB] P.O ⋯ B ⋯ ⟨d _ _ a,B,AI⟩) v
   |true=>
    cases i:Qf BH l with
    |false=>
     have e:(l::r).filter (λl=>Qf Co l&&Qf BH l)=r.filter λl=>Qf Co l&&Qf BH l:=by rw[Bb,a,i];rfl
     rw[e];exact ay B (GO [.b J,.b J,.b AB] AB [Cg T n Yi (AJ l) (AL<|AV Co) J,Cg T n Yi (AJ l) (AL<|AV BH) AB,J=J] P.O ⋯ B ⋯ ⟨d _ _ a,d _ _ i,B,AI⟩) v
    |true=>
     have e:(l::r).filter (λl=>Qf Co l&&Qf BH l)=l::r.filter λl=>Qf Co l&&Qf BH l:=by rw[Bb,a,i];rfl
     rw[e];exact HL B (GO [.b J,.b J,.b J] J [Cg T n Yi (AJ l) (AL<|AV Co) J,Cg T n Yi (AJ l) (AL<|AV BH) J,J=J] P.O ⋯ B ⋯ ⟨d _ _ a,d _ _ i,B,AI⟩)
      (EC [] [] P.O ⋯ AI) v
theorem rG(P:HN T)(n:Aj)(Aw:Aa)(e:DV)(d Co BH:Rows)(a:PV):∀r,EO T n (EY GG (Bd cG1)) (DA GG (UY Aw e d Co BH a Af Af Af Af Af Af) (Bd cG1).names) (PY cG1) (FT cG1) (FY cG1) (AV r) (G3 (r.map λl=>[l])):=by
 intro r;induction r with
 |nil=>
  exact Mi
 |cons l r g=>
  exact HL B (E5 ⋯) (EC [] [] P.O ⋯ AI) g
noncomputable def FU(a:I Vr):DV:=AL<|a.map gD
theorem lE(P:Rq T)(n:Aj)(Aw:Aa)(i:AW Bt)(base Co BH:Rows)(h1:U base<=900)(h2:U Co<=900)(h3:U BH<=900)
  (y:(Fo base (MW base Co BH)).length=(MW base Co BH).length+1)(g2:(Fo Co (MW base Co BH)).length=(MW base Co BH).length+1)(g3:(Fo BH (MW base Co BH)).length=(MW base Co BH).length+1):
  CP T (n+2) (EG 0 [Lz i,AM Aw]) [AL (AV base),AL (AV Co),AL (AV BH)] (FU (L0 Aw i base Co BH)):=by
 have q:=P.toHN;have z:∀k,k<=1000->k<=sizeLine:= λk=>Km;have hs:=Ak;generalize Q:MW base Co BH=kept at y g2 g3;have kl:=AO (Q▸rE base Co BH) h1;have el:(Gb kept).length=U kept+1:=by simp[Gb]
 have s0:Fn T (n+1) GG (UY Aw (Lz i) base Co BH Af Af Af Af Af Af Af) (BA 0 bG) Aq (UY Aw (Lz i) base Co BH (rD kept) Af Af Af Af Af Af):=
  GJ P.O ⋯ ⋯ (D7 [] (AV base) [] P.O ⋯ ⋯ ⋯ ⋯ AI (by rw[CN];exact z _<|by exact AO (by assumption)<|by decide)<|Q▸rF q (n+1) Aw (Lz i) base Co BH base) ⋯
 have c1:Ms T (n+1) GG (UY Aw (Lz i) base Co BH (rD kept) Af Af Af Af Af Af) cG1 (AL<|G3<|kept.map λl=>[l]):=
  Kl [] (AV kept) [] P.O ⋯ ⋯ ⋯ ⋯ AI (by rw[CN];exact z _<|by exact AO (by assumption)<|by decide) (rG q (n+1) Aw (Lz i) base Co BH (rD kept) kept)
 have ea:G3 (Gb kept)=G3 (kept.map λl=>[l])++[AL []] :=by simp[G3,JV,Gb,AV]
 refine Rg (fZ q (n+1) Aw (Lz i) base Co BH (rD kept) (mw<|AL<|G3<|Gb kept) (U kept+1) (Fo base kept) (Fo Co kept) (Fo BH kept) (Gb kept) [] Af Af Af Af y g2 g3 el<|by simp only[BL];exact DT [_] [.l A9<|.n 900] (.a Mr<|.m 2<|.a A9 DB) (.n 100000) [2] B kl) λL G C e' lp=>?_;rw[Hx]at lp;have j:∀l,U l<=900->CP T (n+1) (Ah<|AH 1255) [AL<|AV l,AL<|AV kept] (AL<|G3<|Fo l kept):= λl hl=>ABJ q n l kept hl;have N:Bf T (Ah<|AH 1255):=by refine E0 (CS q 26 1255 1254 (A6 78) (S "_law_cut") AN ⋯ ⋯ ⋯ B B) λdc pm F=>?_;refine Ap F.obj λo ho hd=>?_;exact bS ho hd F.tab
 have s3:Fn T (n+1) GG (UY Aw (Lz i) base Co BH (rD kept) (mw<|AL<|G3<|Gb kept) (dK []) Af Af Af Af) M4 Aq (UY Aw (Lz i) base Co BH (rD kept) (mw<|AL<|G3<|Gb kept) (dK<|E6 Aw (Fo base kept) (Fo Co kept) (Fo BH kept)<|Gb kept) L G C e'):=
  rC (m:=20) (x:=S "zip") (p:=Nr<|KO<|FX M4) (tp:=Nr<|Kk M4) (cp:=Nr<|FX M4) (ts:=AD9<|Kk M4) (tk:=0) (e1:=EP 0<|FX M4) (e2:=EP 1<|FX M4) (e3:=EP 2<|FX M4) (e4:=EP 3<|FX M4) (mm:=U kept+1)
   (as:=[.t<|AL<|G3<|Fo base kept,.t<|AL<|G3<|Fo Co kept,.t<|AL<|G3<|Fo BH kept])
   (cs:=[CP T (n+1) (Ah<|AH 1255) [AL<|AV base,AL<|AV kept]<|AL<|G3<|Fo base kept,Bf T<|Ah<|AH 1255,CP T (n+1) (Ah<|AH 1255) [AL<|AV Co,AL<|AV kept]<|AL<|G3<|Fo Co kept,Bf T<|Ah<|AH 1255,CP T (n+1) (Ah<|AH 1255) [AL<|AV BH,AL<|AV kept]<|AL<|G3<|Fo BH kept,Bf T<|Ah<|AH 1255])
   P.O ⋯ ⋯ ⋯ ⋯ ⋯ ⋯ ⋯ ⟨j _ h1,N,j _ h2,N,j _ h3,N,AI⟩ (by rw[QE,y]) (by rw[QE,g2]) (by rw[QE,g3]) (by rw[QE,el]) lp
 have gl:=cC Aw (Fo base kept) (Fo Co kept) (Fo BH kept)<|Gb kept;have s2:Fn T (n+1) GG (UY Aw (Lz i) base Co BH (rD kept) (mw<|AL<|G3<|Gb kept) Af Af Af Af Af) (BA 2 bG) Aq (UY Aw (Lz i) base Co BH (rD kept) (mw<|AL<|G3<|Gb kept) (dK []) Af Af Af Af):=
  As [] [] P.O ⋯ AI
 have r:∀as d cs,VP (Qy (vS T (n+1) 20 ⟨(E2 0).names,HA,[S "groups"],AQ⟩) bG (EB [S "base",S "ours",S "theirs"] [AL<|AV base,AL<|AV Co,AL<|AV BH] [S "kept",S "ends",S "groups",S "x",S "y",S "z",S "end"] ++(DY 0).zip (Se [Lz i,AM Aw]))
   (.v Aq (UY Aw (Lz i) base Co BH (rD kept) Af Af Af Af Af Af):: .t (AL<|G3<|kept.map λl=>[l]):: .t (AL<|G3<|Gb kept):: .v Aq (UY Aw (Lz i) base Co BH (rD kept) (mw<|AL<|G3<|Gb kept) (dK []) Af Af Af Af)::
    .v Aq (UY Aw (Lz i) base Co BH (rD kept) (mw<|AL<|G3<|Gb kept) (dK<|E6 Aw (Fo base kept) (Fo Co kept) (Fo BH kept)<|Gb kept) L G C e'):: .fz (S "groups")::as))=D (JF d,cs)->ER cs->CP T (n+2) (EG 0 [Lz i,AM Aw]) [AL<|AV base,AL<|AV Co,AL<|AV BH] d:= λas d cs h hc=>
  AEF P (B9 q) ⋯ (λCd code a0 doc pm=>br λu v w=>by kernel_rfl!) ⋯ ⋯ B (by decide+kernel) ⋯ h hc
 have g:∀cs,ER cs->ER ([Fn T (n+1) GG (UY Aw (Lz i) base Co BH Af Af Af Af Af Af Af) (BA 0 bG) Aq<|UY Aw (Lz i) base Co BH (rD kept) Af Af Af Af Af Af,
   Ms T (n+1) GG (UY Aw (Lz i) base Co BH (rD kept) Af Af Af Af Af Af) cG1 (AL<|G3<|kept.map λl=>[l]),
   SU T (n+1) iY (AL<|G3<|kept.map λl=>[l]) (AL [AL []]) (AL<|G3<|Gb kept),
   Fn T (n+1) GG (UY Aw (Lz i) base Co BH (rD kept) (mw<|AL<|G3<|Gb kept) Af Af Af Af Af) (BA 2 bG) Aq (UY Aw (Lz i) base Co BH (rD kept) (mw<|AL<|G3<|Gb kept) (dK []) Af Af Af Af),
   Fn T (n+1) GG (UY Aw (Lz i) base Co BH (rD kept) (mw<|AL<|G3<|Gb kept) (dK []) Af Af Af Af) M4 Aq (UY Aw (Lz i) base Co BH (rD kept) (mw<|AL<|G3<|Gb kept) (dK<|E6 Aw (Fo base kept) (Fo Co kept) (Fo BH kept)<|Gb kept) L G C e')] ++cs):= λcs hc=>
  ⟨s0,c1,ea▸JZ P.O (by rw[QE,Ai,hs];simp only[Ac,BL];exact Bj (by assumption)<|by decide),s2,s3,hc⟩
 unfold L0;rw[Q];cases i with
 |none=>
  rw[Fi];exact r [.b J] _ _ ⋯<|g [J=J] ⟨B,AI⟩
 |some w=>
  have e1:FU (E6 Aw (Fo base kept) (Fo Co kept) (Fo BH kept) (Gb kept)++[.HX w []])=AL ((E6 Aw (Fo base kept) (Fo Co kept) (Fo BH kept)<|Gb kept).map gD++[FI [Fu w,AL []]]):=by simp[FU,gD,AV]
  skip;rw[e1];exact r [.b AB,.t<|AL<|(E6 Aw (Fo base kept) (Fo Co kept) (Fo BH kept)<|Gb kept).map gD++[FI [Fu w,AL []]]] _ _ ⋯
   (g [SU T (n+1) iY (AL<|(E6 Aw (Fo base kept) (Fo Co kept) (Fo BH kept)<|Gb kept).map gD) (AL [FI [Fu w,AL []]])<|AL<|(E6 Aw (Fo base kept) (Fo Co kept) (Fo BH kept)<|Gb kept).map gD++[FI [Fu w,AL []]],AB=AB] ⟨JZ P.O<|by rw[Ai,hs];simp only[Ac,BL];exact DT [_,_,_] [.e A9<|.a BQ DB,.l BQ<|.n 900,.l B5<|.m 2 A9] (.a B5<|.a Mr DB) (.n 16777216) [2,2,1] B y kl gl,B,AI⟩)
theorem zf(n:Aj)(p q:Rows)(c:Ba)(h:(p==q)=c):Cg T n To (AL (AV p)) (AL (AV q)) c:=h▸Ng (XR p q)
noncomputable def wH(x y z:Rows):Bool:=match x==y with|true=>J|false=>(match x==z with|true=>J|false=>AB)
noncomputable def OV(x y z:Rows):Rows:=match x==y with|true=>z|false=>y
theorem oh(P:HN T)(n:Aj)(x y z:Rows):CP T (n+1) (Ah (AH 1013)) [AL (AV x),AL (AV y),AL (AV z)] (BZ (wH x y z)):=by
 refine E0 (CS P 0 1013 1012 (A6 57) (S "_can_merge_lines") AN ⋯ ⋯ ⋯ B B) λdc pm F=>?_;have a:∀as d cs,VP (Qy (vS T n 20 ⟨(D2<|A6 57).names,HA,[],AQ⟩) (Cc<|A6 57) (EB [S "base_lines",S "a_lines",S "b_lines"] [AL<|AV x,AL<|AV y,AL<|AV z] []) as)=D (JF d,cs)->ER cs->CP T (n+1) (Ah<|AH 1013) [AL<|AV x,AL<|AV y,AL<|AV z] d:= λas d cs h i=>
  JS P.O F (B9 P) B (br λu v w=>by kernel_rfl!) ⋯ B (by decide+kernel) ⋯ h i
 unfold wH;cases e:x==y with
 |true=>exact a [.b J,.b J] _ [Cg T n To (AL<|AV x) (AL<|AV y) J,J=J] ⋯ ⟨zf n x y _ e,B,AI⟩
 |false=>
  cases g:x==z with
  |true=>exact a [.b AB,.b AB,.b J,.b J] _ [Cg T n To (AL<|AV x) (AL<|AV y) AB,Cg T n To (AL<|AV x) (AL<|AV z) J,J=J,AB=AB] ⋯ ⟨zf n x y _ e,zf n x z _ g,B,B,AI⟩
  |false=>exact a [.b AB,.b AB,.b AB,.b AB] _ [Cg T n To (AL<|AV x) (AL<|AV y) AB,Cg T n To (AL<|AV x) (AL<|AV z) AB,AB=AB,AB=AB] ⋯ ⟨zf n x y _ e,zf n x z _ g,B,B,AI⟩
theorem rH(P:HN T)(n:Aj)(x y z:Rows):CP T (n+1) (Ah (AH 1027)) [AL (AV x),AL (AV y),AL (AV z)] (AL (AV (OV x y z))):=by
 refine E0 (CS P 4 1027 1026 (A6 59) (S "_merge_lines") AN ⋯ ⋯ ⋯ B B) λdc pm F=>?_;have a:∀as d cs,VP (Qy (vS T n 20 ⟨(D2<|A6 59).names,HA,[],AQ⟩) (Cc<|A6 59) (EB [S "base_lines",S "a_lines",S "b_lines"] [AL<|AV x,AL<|AV y,AL<|AV z] []) as)=D (JF d,cs)->ER cs->CP T (n+1) (Ah<|AH 1027) [AL<|AV x,AL<|AV y,AL<|AV z] d:= λas d cs h i=>
  JS P.O F (B9 P) B (br λu v w=>by kernel_rfl!) ⋯ B (by decide+kernel) ⋯ h i
 unfold OV;cases e:x==y with
 |true=>exact a [.b J,.b J] _ [Cg T n To (AL<|AV x) (AL<|AV y) J,J=J] ⋯ ⟨zf n x y _ e,B,AI⟩
 |false=>
  cases g:x==z with
  |true=>exact a [.b AB,.b AB,.b J,.b J] _ [Cg T n To (AL<|AV x) (AL<|AV y) AB,Cg T n To (AL<|AV x) (AL<|AV z) J,J=J,AB=AB] ⋯ ⟨zf n x y _ e,zf n x z _ g,B,B,AI⟩
  |false=>exact a [.b AB,.b AB,.b AB,.b AB] _ [Cg T n To (AL<|AV x) (AL<|AV y) AB,Cg T n To (AL<|AV x) (AL<|AV z) AB,AB=AB,AB=AB] ⋯ ⟨zf n x y _ e,zf n x z _ g,B,B,AI⟩
noncomputable def Ru:I DV:=[Fu<|S "unchanged",Fu<|S "a",Fu<|S "b",Fu<|S "same"]
noncomputable def UZ(k:Bt):Bool:=Jm (S "unchanged") k||(Jm (S "a") k||(Jm (S "b") k||(Jm (S "same") k||AB)))
theorem fe(k:Bt):ir 5 (Fu k) Ru=D (UZ k):=B
noncomputable def G9:I UInt8:=[60,60,60,60,60,60,60,32,111,117,114,115,10]
noncomputable def QF:I UInt8:=[61,61,61,61,61,61,61,10]
noncomputable def IW:I UInt8:=[62,62,62,62,62,62,62,32,116,104,101,105,114,115,10]
noncomputable def NP:Vr->Rows
 |.HX _ a=>a
 |.con x y z=>match wH x y z with
  |true=>OV x y z
  |false=>[G9] ++y++[QF] ++z++[IW]
noncomputable def By:I Vr->Rows
 |[] =>[]
 |g::a=>NP g++By a
theorem Z4:By [] =([]):=B
theorem Z5:By (g::a)=(NP g++By a):=B
def lF:Vr->Prop
 |.HX k _=>UZ k=J
 |.con .. =>True
noncomputable def GM:GV:=⟨(D2<|A6 58).names,HA,[S "result"],AQ⟩
noncomputable def bM:I Stmt:=Cc<|A6 58
noncomputable def Ma:Stmt:=BA 2 bM
noncomputable def Ua(a:DV)(r g x y z m:PV):BD:=[(S "groups",mw a),(S "result",r),(S "group",g),(S "base_lines",x),(S "a_lines",y),(S "b_lines",z),(S "merged_lines",m)]
noncomputable def LS(a:Rows):PV:=BP AQ<|JW<|AV a
theorem ff(a b:Rows):LS (a++b)=BP AQ (JW (AV a++AV b)):=by unfold LS;rw[Ss]
theorem GP(k:Aj)(h:ds[k]? =D d)(hz:U ds<=1000):CC T n (FI ds) (AM (k:Aa)) d:=vZ (by exact Av _) (by simpa using h)<|Km hz
theorem B6(P:HN T)(i:Aj)(a c:Az)(st:Ct)(q:Bt)(dflt:Am)(r:(Lb.zip K1)[i]? =D (a,⟨Ae "function",AQ,IB (LP st q [] dflt (AH c) AN),#[]⟩))
  (l:(Lb.zip K1)[i+1]? =D (c,⟨Ae "code",AQ,BF (ED (i+1)),#[]⟩))(j:vo ((ED (i+1))[1]?)=D q)(h:DI a=J)(g:DI c=J):Bf T (Ah (AH a)):=by
 refine E0 (CS P i a c st q dflt r l j h g) λdc pm F=>?_;refine Ap F.obj λo d e=>?_;exact bS d e F.tab
theorem XS(P:HN T)(n:Aj)(v:DV)(rs:Rows)(x y z m:PV)(g:Vr)(hg:lF g)(hz:U rs+(NP g).length<=100000):
  ∃L G C N,Ge T (n+1) GM (Ua v (LS rs) (mw (gD g)) x y z m) (DR Ma) Aq (Ua v (LS (rs++NP g)) (mw (gD g)) L G C N):=by
 have hs:=Ak;have q:∀k c,UZ k=c->Cg T (n+1) Yi (Fu k) (FI Ru) c:= λk c h=>h▸Po (fe k);have i:∀k,k<=200000->k<=sizeLine:= λk h=>by rw[hs];exact AO (by assumption)<|by decide
 cases g with
 |HX k j=>
  refine(OH x y z m ?_);have hk:=hg;have lz:=hz;rw[show NP (.HX k j)=j from B,ff];exact Ee [.t<|Fu k,.b J,.b J,.t<|AL<|AV j] [CC T (n+1) (FI [Fu k,AL<|AV j]) (AM 0)<|Fu k,Cg T (n+1) Yi (Fu k) (FI Ru) J,CC T (n+1) (FI [Fu k,AL<|AV j]) (AM 1)<|AL<|AV j,(AV rs).length+(AV j).length<=AY,J=J] P.O ⋯
   ⟨GP 0 B<|by simp,q k _ hk,GP 1 B<|by simp,by rw[CN,CN];exact i _<|by exact AO (by assumption)<|by decide,B,AI⟩
 |con a b c=>
  have u:=B6 P 0 1013 1012 (A6 57) (S "_can_merge_lines") AN ⋯ ⋯ ⋯ B B;have Q:=B6 P 4 1027 1026 (A6 59) (S "_merge_lines") AN ⋯ ⋯ ⋯ B B;have kn:UZ (S "conflict")=false:=by kernel_rfl!
  cases r:wH a b c with
  |true=>
   have e:NP (ZV a b c)=OV a b c:=by simp only[NP,r]
   rw[e]at hz⊢;rw[ff];refine(OH (rD a) (rD b) (rD c) (rD<|OV a b c) ?_);exact Ee [.t<|Fu<|S "conflict",.b AB,.b AB,.t<|Fu<|S "conflict",.b J,.t<|AL<|AV a,.t<|AL<|AV b,.t<|AL<|AV c,.t<|BZ J,.b J,.t<|AL<|AV<|OV a b c] [CC T (n+1) (gD<|ZV a b c) (AM 0)<|Fu<|S "conflict",Cg T (n+1) Yi (Fu<|S "conflict") (FI Ru) AB,CC T (n+1) (gD<|ZV a b c) (AM 0)<|Fu<|S "conflict",
     CC T (n+1) (gD<|ZV a b c) (AM 1) (AL<|AV a),CC T (n+1) (gD<|ZV a b c) (AM 2)<|AL<|AV b,CC T (n+1) (gD<|ZV a b c) (AM 3)<|AL<|AV c,
     CP T (n+1) (Ah<|AH 1013) [AL<|AV a,AL<|AV b,AL<|AV c] (BZ J),Bf T<|Ah<|AH 1013,CP T (n+1) (Ah<|AH 1027) [AL<|AV a,AL<|AV b,AL<|AV c]<|AL<|AV<|OV a b c,Bf T<|Ah<|AH 1027,
     (AV rs).length+(AV<|OV a b c).length<=AY,J=J,J=J,AB=AB] P.O ⋯
    ⟨GP 0 B<|by simp,q _ _ kn,GP 0 B<|by simp,GP 1 B<|by simp,GP 2 B<|by simp,GP 3 B<|by simp,r▸oh P n a b c,u,rH P n a b c,Q,by rw[CN,CN];exact i _<|by exact AO (by assumption)<|by decide,B,B,B,AI⟩
  |false=>
   have e:NP (ZV a b c)=[G9] ++b++[QF] ++c++[IW] :=by simp only[NP,r]
   rw[e]at hz⊢;have d:U rs+U b+U c+3<=100000:=by simp only[Ad,Ac,BL]at hz;exact DT [_,_,_] [.l (.a A9<|.a (.a (.a (.a (.a Mr DB) BQ)<|.a Mr DB) B5)<|.a Mr DB)<|.n 100000] (.a (.a (.a A9 BQ) B5)<|.n 3) (.n 100000) [1] B hz
   have e2:rs++([G9] ++b++[QF] ++c++[IW])=rs++[G9] ++b++[QF] ++c++[IW] :=by simp
   rw[e2];have er:LS (rs++[G9] ++b++[QF] ++c++[IW])=BP AQ (JW<|(((AV rs++[AJ G9])++AV b)++[AJ QF] ++AV c)++[AJ IW]):=by unfold LS;simp[AV]
   rw[er];refine(OH (rD a) (rD b) (rD c) m ?_);exact Ee [.t<|Fu<|S "conflict",.b AB,.b AB,.t<|Fu<|S "conflict",.b J,.t<|AL<|AV a,.t<|AL<|AV b,.t<|AL<|AV c,.t<|BZ AB,.b AB] [CC T (n+1) (gD<|ZV a b c) (AM 0)<|Fu<|S "conflict",Cg T (n+1) Yi (Fu<|S "conflict") (FI Ru) AB,CC T (n+1) (gD<|ZV a b c) (AM 0)<|Fu<|S "conflict",
     CC T (n+1) (gD<|ZV a b c) (AM 1) (AL<|AV a),CC T (n+1) (gD<|ZV a b c) (AM 2)<|AL<|AV b,CC T (n+1) (gD<|ZV a b c) (AM 3)<|AL<|AV c,
     CP T (n+1) (Ah<|AH 1013) [AL<|AV a,AL<|AV b,AL<|AV c] (BZ AB),Bf T<|Ah<|AH 1013,
     (AV rs).length<=AY,(AV rs++[AJ G9]).length+(AV b).length<=AY,(AV rs++[AJ G9] ++AV b).length<=AY,(AV rs++[AJ G9] ++AV b++[AJ QF]).length+(AV c).length<=AY,(AV rs++[AJ G9] ++AV b++[AJ QF] ++AV c).length<=AY,
     AB=AB,J=J,AB=AB] P.O ⋯
    ⟨GP 0 B<|by simp,q _ _ kn,GP 0 B<|by simp,GP 1 B<|by simp,GP 2 B<|by simp,GP 3 B<|by simp,r▸oh P n a b c,u,
     by rw[CN];exact i _<|DT [_,_,_] [.l (.a (.a (.a A9 BQ) B5)<|.n 3)<|.n 100000] A9 (.n 200000) [1] B d,by simp only[Ad,CN,Ac,BL];exact i _<|DT [_,_,_] [.l (.a (.a (.a A9 BQ) B5)<|.n 3)<|.n 100000] (.a (.a A9<|.a Mr DB) BQ) (.n 200000) [1] B d,by simp only[Ad,CN,Ac,BL];exact i _<|DT [_,_,_] [.l (.a (.a (.a A9 BQ) B5)<|.n 3)<|.n 100000] (.a (.a A9<|.a Mr DB) BQ) (.n 200000) [1] B d,by simp only[Ad,CN,Ac,BL];exact i _<|DT [_,_,_] [.l (.a (.a (.a A9 BQ) B5)<|.n 3)<|.n 100000] (.a (.a (.a (.a A9<|.a Mr DB) BQ)<|.a Mr DB) B5) (.n 200000) [1] B d,by simp only[Ad,CN,Ac,BL];exact i _<|DT [_,_,_] [.l (.a (.a (.a A9 BQ) B5)<|.n 3)<|.n 100000] (.a (.a (.a (.a A9<|.a Mr DB) BQ)<|.a Mr DB) B5) (.n 200000) [1] B d,B,B,B,AI⟩
theorem lG(P:HN T)(n:Aj)(gd:DV):∀gs rs g x y z m,(∀q∈gs,lF q)->U rs+(By gs).length<=100000->
  ∃g' N C r m',KN T (n+1) GM (Kk Ma) (DR Ma) (Ua gd (LS rs) g x y z m) (gs.map gD) Aq (Ua gd (LS (rs++By gs)) g' N C r m'):=by
 intro gs;induction gs with
 |nil=>
  exactλrs g x y z m _ _=>(nU g x y z m<|by rw[show rs++By [] =rs from Fi _];exact .done)
 |cons q gs ih=>
  exactλrs g x y z m h hz=>by
   have d:U rs+(NP q).length+(By gs).length<=100000:=by
    have:(By<|q::gs).length=(NP q).length+(By gs).length:=by simp[Z4,Z5]
    exact DT [_,_,_,_] [.l (.a A9 BQ)<|.n 100000,.e BQ<|.a B5 Jj] (.a (.a A9 B5) Jj) (.n 100000) [1,-1] B hz this
   refine Rg (XS P n gd rs x y z m q (h q<|B0 _)<|DT [_,_,_] [.l (.a (.a A9 BQ) B5)<|.n 100000] (.a A9 BQ) (.n 100000) [1] B d) λL v j Q h1=>?_;refine bJ (ih (rs++NP q) (mw<|gD q) L v j Q (λp hp=>h p<|Cb _ hp)<|by rw[Ad];exact DT [_,_,_] [.l (.a (.a A9 BQ) B5)<|.n 100000] (.a (.a A9 BQ) B5) (.n 100000) [1] B d) λg2 G u i O h2=>?_;refine(nU g2 G u i O ?_);have e:rs++By (q::gs)=rs++NP q++By gs:=by simp[Z4,Z5]
   rw[e,B4];exact KN.step (Ec:=Ua gd (LS rs) (mw<|gD q) x y z m) ⋯ h1 h2
theorem Qi(P:HN T)(n:Aj)(a:I Vr)(l:∀q∈a,lF q)(hz:(By a).length<=100000)(r:(By a).flatten.length<=AY):CP T (n+2) (Ah (AH 1020)) [FU a] (AJ (By a).flatten):=by
 refine E0 (CS P 2 1020 1019 (A6 58) (S "_merge3_to_bytes") AN ⋯ ⋯ ⋯ B B) λdc pm F=>?_;refine bJ (lG P n (FU a) a [] Af Af Af Af Af l<|by simpa using hz) λi g e d h j=>?_;rw[Hx]at j;have s1:Fn T (n+1) GM (Ua (FU a) Af Af Af Af Af Af) (BA 1 bM) Aq (Ua (FU a) (LS []) Af Af Af Af Af):=
  As [] [] P.O ⋯ AI
 have s2:Fn T (n+1) GM (Ua (FU a) (LS []) Af Af Af Af Af) Ma Aq (Ua (FU a) (LS<|By a) i g e d h):=
  JL [] (a.map gD) [] P.O ⋯ ⋯ ⋯ ⋯ AI j
 exact JS (m:=20) (ps:=[S "groups"]) (locs:=[S "result",S "group",S "base_lines",S "a_lines",S "b_lines",S "merged_lines"]) (Fe:=[S "result"])
  (as:=[.v Aq<|Ua (FU a) (LS []) Af Af Af Af Af,.v Aq<|Ua (FU a) (LS<|By a) i g e d h,.fz<|S "result",.m (AS "bytes.join")<|AJ (By a).flatten])
  (cs:=[Fn T (n+1) GM (Ua (FU a) Af Af Af Af Af Af) (BA 1 bM) Aq<|Ua (FU a) (LS []) Af Af Af Af Af,Fn T (n+1) GM (Ua (FU a) (LS []) Af Af Af Af Af) Ma Aq<|Ua (FU a) (LS<|By a) i g e d h,
   H7 T (n+1) (AJ []) "join" (AS "bytes.join"),Bf T<|Ah<|AS "bytes.join",CP T (n+1) (Ah<|AS "bytes.join") [AJ [],AL<|AV<|By a]<|AJ (By a).flatten])
  P.O F (B9 P) B (OR λu=>by kernel_rfl!) ⋯ B (by decide+kernel) ⋯ ⋯ ⟨s1,s2,Kt,A3,P7 r,AI⟩
noncomputable def Gp:AW Aa->DV|none=>BK|some i=>AM i
noncomputable def G0:AW Aa->Aa|none=>0|some i=>i
noncomputable def DD(l:I Aj):I DV:=l.map λ(j:Aj)=>AM (j:Aa)
noncomputable def tc(l:I Aj)(j:Aj):Bool:=l.any λx=>(x:Aa)==(j:Aa)
noncomputable def E7(rows:Rows)(a:I Aj):Rows:=a.map λj=>rows.getD j []
theorem Jb(l:I Aj):(DD l).length=U l:=by simp[DD]
theorem wI(j:Aj)(l:I Aj):ir 5 (AM (j:Aa)) (DD l)=D (tc l j):=by
 induction l with
 |nil=>rfl
 |cons x r a=>
  show(Lu 5 (AM (x:Aa))<|AM (j:Aa)).bind (λc=>(ir 5 (AM (j:Aa))<|DD r).bind λy=>D<|c||y)=_;rw[a];rfl
theorem wJ:∀ {b:I Aj},U a=U b->ML (Lu 4) (DD a) (DD b)=D (a==b):=by
 induction a with
 |nil=>
  intro b h;obtain rfl:=WV h.symm;rfl
 |cons x a d=>
  intro b h;cases b with
  |nil=>cases h
  |cons y b=>
   show(Lu 4 (AM (x:Aa))<|AM (y:Aa)).bind (λc=>(ML (Lu 4) (DD a)<|DD b).bind λr=>D<|c&&r)=_;rw[d<|OB h];show D (((x:Aa)==(y:Aa))&&(a==b))=D ((x==y)&&(a==b));rw[show((x:Aa)==(y:Aa))=(x==y)from Ck.mpr (Bh.trans<|G7.trans Bh.symm)]
theorem rI(a b:I Aj):Lu 5 (AL (DD a)) (AL (DD b))=D (a==b):=by
 show(match(DD a).length==(DD b).length with|true=>ML (Lu 4) (DD a) (DD b)|false=>D AB)=_;rw[Jb,Jb];cases h:U a==U b with
 |true=>exact wJ<|F7 h
 |false=>
  have: ¬a=b:= λq=>by rw[q]at h;simp at h
  have:(a==b)=false:=by simpa using this
  rw[this]
noncomputable def GU:GV:=⟨(D2<|A6 80).names,HA,[S "zone"],AQ⟩
noncomputable def bU:I Stmt:=Cc<|A6 80
noncomputable def om:Stmt:=BA 4 bU
noncomputable def ifU:Stmt:=BA 0<|DR om
noncomputable def elU:I Stmt:=ifB ifU
noncomputable def QG(rows:Rows)(ba ou th:AW Aa)(lf:PV)(Cf:Ba)(b o t:Aa)(text:I BB)(a k d HX:PV):BD:=
 [(S "rows",mw<|AL<|AV rows),(S "base",mw<|Gp ba),(S "ours",mw<|Gp ou),(S "theirs",mw<|Gp th),(S "left",lf),(S "clash",mw<|BZ Cf),(S "b",mw<|AM b),(S "o",mw<|AM o),(S "t",mw<|AM t),(S "text",mw<|AJ text),(S "zone",a),(S "k",k),(S "one",d),(S "two",HX)]
noncomputable def zD(z:I Aj):PV:=mw<|AL<|DD z
noncomputable def wK:Expr:=Hz<|BA 0 elU
noncomputable def wL:Expr:=Hz<|BA 1 elU
noncomputable def wM:Stmt:=BA 2 elU
noncomputable def RE:Expr:=EP 0<|exR<|Hz<|BA 0<|zd wM
noncomputable def XT:Expr:=EP 0<|exR<|Hz<|BA 1<|ifB wM
noncomputable def OW:Expr:=EP 0<|exR<|exL<|Hz<|BA 2<|ifB wM
theorem tm(j:Aj):KL (j:Aa)=true:=by simp[KL]
section
variable(P:HN T)(n:Nat)(rows:Rows)(ba ou th:Option Int)(lf:PV)(Cf:Bool)(b o t:Int)(text:List UInt8)(k:PV)
include P
theorem wN(d HX:PV)(a:PV):∀z,EO T n (EY GU (Bd wK)) (DA GU (QG rows ba ou th lf Cf b o t text a k d HX) (Bd wK).names) (PY wK) (FT wK) (FY wK) (DD z) (DD (z.filter (Bo (B1 b o)))):=by
 intro z;induction z with
 |nil=>
  exact Mi
 |cons j z e=>
  exact by
   have g:=e;skip;cases h:Bo (B1 b o) j with
   |true=>
    rw[Bb,h];exact HL B (GO [] (Bo (B1 b o) j) [KL (j:Aa)=J] P.O ⋯ h ⋯ ⟨tm j,AI⟩) (EC [] [] P.O ⋯ AI) g
   |false=>
    rw[Bb,h];exact ay B (GO [] (Bo (B1 b o) j) [KL (j:Aa)=J] P.O ⋯ h ⋯ ⟨tm j,AI⟩) g
theorem wO(d HX:PV)(a:PV):∀z,EO T n (EY GU (Bd wL)) (DA GU (QG rows ba ou th lf Cf b o t text a k d HX) (Bd wL).names) (PY wL) (FT wL) (FY wL) (DD z) (DD (z.filter (Bo (B1 b t)))):=by
 intro z;induction z with
 |nil=>
  exact Mi
 |cons j z e=>
  exact by
   have g:=e;skip;cases h:Bo (B1 b t) j with
   |true=>
    rw[Bb,h];exact HL B (GO [] (Bo (B1 b t) j) [KL (j:Aa)=J] P.O ⋯ h ⋯ ⟨tm j,AI⟩) (EC [] [] P.O ⋯ AI) g
   |false=>
    rw[Bb,h];exact ay B (GO [] (Bo (B1 b t) j) [KL (j:Aa)=J] P.O ⋯ h ⋯ ⟨tm j,AI⟩) g
theorem cD(j:Aj)(a:j<U rows)(hz:U rows<=1000):CC T n (AL (AV rows)) (AM (j:Aa)) (AJ (rows.getD j [])):=
 Er (by exact Av _) (by have:=fJ a;rw[Al,AR a];exact this) (by rw[CN];exact Km hz)
theorem rJ(hz:U rows<=1000)(d HX:PV)(a:PV):∀z,(∀j∈z,j<U rows)->EO T n (EY GU (Bd XT)) (DA GU (QG rows ba ou th lf Cf b o t text a k d HX) (Bd XT).names) (PY XT) (FT XT) (FY XT) (DD z) (AV (E7 rows (z.filter (Bo o)))):=by
 intro z;induction z with
 |nil=>
  exactλ_=>Mi
 |cons j z e=>
  exactλl=>by
   have g:=e λi q=>l i<|Cb _ q;skip;cases h:Bo o j with
   |true=>
    rw[Bb,h];exact HL B (GO [] (Bo o j) [KL (j:Aa)=J] P.O ⋯ h ⋯ ⟨tm j,AI⟩) (EC [.t<|AJ<|rows.getD j []] [CC T n (AL<|AV rows) (AM (j:Aa))<|AJ<|rows.getD j []] P.O ⋯ ⟨cD P n rows j (l j<|B0 _) hz,AI⟩) g
   |false=>
    rw[Bb,h];exact ay B (GO [] (Bo o j) [KL (j:Aa)=J] P.O ⋯ h ⋯ ⟨tm j,AI⟩) g
theorem fh(hz:U rows<=1000)(d HX:PV)(a:PV):∀z,(∀j∈z,j<U rows)->EO T n (EY GU (Bd OW)) (DA GU (QG rows ba ou th lf Cf b o t text a k d HX) (Bd OW).names) (PY OW) (FT OW) (FY OW) (DD z) (AV (E7 rows (z.filter (Bo t)))):=by
 intro z;induction z with
 |nil=>
  exactλ_=>Mi
 |cons j z e=>
  exactλl=>by
   have g:=e λi q=>l i<|Cb _ q;skip;cases h:Bo t j with
   |true=>
    rw[Bb,h];exact HL B (GO [] (Bo t j) [KL (j:Aa)=J] P.O ⋯ h ⋯ ⟨tm j,AI⟩) (EC [.t<|AJ<|rows.getD j []] [CC T n (AL<|AV rows) (AM (j:Aa))<|AJ<|rows.getD j []] P.O ⋯ ⟨cD P n rows j (l j<|B0 _) hz,AI⟩) g
   |false=>
    rw[Bb,h];exact ay B (GO [] (Bo t j) [KL (j:Aa)=J] P.O ⋯ h ⋯ ⟨tm j,AI⟩) g
noncomputable def H0(b:Aa)(a HX:I Aj)(j:Aj):Bool:=match tc a j with
 |true=> !(Bo b j==J)
 |false=> !(Bo b j==tc HX j)
theorem rK(hz:U rows<=1000)(a HX:I Aj)(g:PV):∀z,(∀j∈z,j<U rows)->EO T n (EY GU (Bd RE)) (DA GU (QG rows ba ou th lf Cf b o t text g k (zD a) (zD HX)) (Bd RE).names) (PY RE) (FT RE) (FY RE) (DD z) (AV (E7 rows (z.filter (H0 b a HX)))):=by
 intro z;induction z with
 |nil=>
  exactλ_=>Mi
 |cons j z u=>
  exactλx=>by
   have v:=u λi y=>x i<|Cb _ y;have r:∀q c,tc q j=c->Cg T n Yi (AM (j:Aa)) (AL<|DD q) c:= λq c h=>h▸K4 (wI j q);skip;have d:ek T n (EY GU<|Bd RE) ((S "j",mw<|AM (j:Aa))::DA GU (QG rows ba ou th lf Cf b o t text g k (zD a)<|zD HX) (Bd RE).names) (FT RE) (H0 b a HX j):=by
    cases l:tc a j with
    |true=>
     have e:H0 b a HX j= !(Bo b j==J):=by simp only[H0,l]
     rw[e];exact GO [.b J,.b J] (!(Bo b j==J)) [KL (j:Aa)=J,Cg T n Yi (AM (j:Aa)) (AL<|DD a) J,J=J] P.O ⋯ B ⋯ ⟨tm j,r _ _ l,B,AI⟩
    |false=>
     have e:H0 b a HX j= !(Bo b j==tc HX j):=by simp only[H0,l]
     rw[e];exact GO [.b AB,.b AB,.b<|tc HX j] (!(Bo b j==tc HX j)) [KL (j:Aa)=J,Cg T n Yi (AM (j:Aa)) (AL<|DD a) AB,Cg T n Yi (AM (j:Aa)) (AL<|DD HX)<|tc HX j,AB=AB] P.O ⋯ B ⋯ ⟨tm j,r _ _ l,r _ _ B,B,AI⟩
   cases h:H0 b a HX j with
   |true=>
    rw[Bb,h];rw[h]at d;exact HL B d (EC [.t<|AJ<|rows.getD j []] [CC T n (AL<|AV rows) (AM (j:Aa))<|AJ<|rows.getD j []] P.O ⋯ ⟨cD P n rows j (x j<|B0 _) hz,AI⟩) v
   |false=>
    rw[Bb,h];rw[h]at d;exact ay B d v
end
noncomputable def Hu(b o:Aa)(z:I Aj):I Nat:=z.filter<|Bo<|B1 b o
noncomputable def fi(a HX:I Aj):Bool:=match a== []with
 |true=>J
 |false=>(match HX== []with|true=>J|false=>a==HX)
noncomputable def Ha(rows:Rows)(z:I Aj):I UInt8:=(E7 rows z).flatten
noncomputable def Gq(rows:Rows)(b o t:Aa)(text:I BB)(z:I Aj):I UInt8:=match fi (Hu b o z) (Hu b t z)with
 |true=>text++Ha rows (z.filter<|H0 b (Hu b o z)<|Hu b t z)
 |false=>text++G9++Ha rows (z.filter<|Bo o)++QF++Ha rows (z.filter<|Bo t)++IW
noncomputable def F5(b o t:Aa)(Cf:Ba)(z:I Aj):Bool:=match fi (Hu b o z) (Hu b t z)with
 |true=>Cf
 |false=>J
theorem rL(h:∀r∈rows,U r<=100):∀z,(Ha rows z).length<=100*U z:=by
 intro z;induction z with
 |nil=>
  exact by simp[Ha,E7]
 |cons j z d=>
  exact by
   have g:=d;have i:(rows.getD j []).length<=100:=by
    rw[Al];cases e:rows[j]?with
    |none=>simp
    |some r=>exact h r<|BJ e
   have:Ha rows (j::z)=rows.getD j [] ++Ha rows z:=by simp[Ha,E7]
   rw[this,Ad,Ac];exact DT [_,_,_] [.l A9<|.m 100 BQ,.l B5<|.n 100] (.a B5 A9) (.m 100<|.a BQ DB) [1,1] B g i
theorem MA(a:∀r∈rows,U r<=100)(p:Aj->Ba)(z:I Aj)(hz:U z<=100):(Ha rows (z.filter p)).length<=10000:=by have e:=rL a<|z.filter p;have d:=QY p z;exact DT [_,_,_] [.l A9<|.n 100,.l BQ<|.m 100 B5,.l B5 A9] BQ (.n 10000) [100,1,100] B hz e d
theorem cE(n:Aj)(rows:Rows)(z:I Aj)(h:(Ha rows z).length<=AY):CP T n (Ah (AS "bytes.join")) [AJ [],AL (AV (E7 rows z))] (AJ (Ha rows z)):=P7 h
theorem ABS(P:HN T)(n:Aj)(rows:Rows)(ba ou th:AW Aa)(lf:PV)(Cf:Ba)(b o t:Aa)(text:I BB)(k:PV)(z:I Aj)(hz:U rows<=1000)(hr:∀r∈rows,U r<=100)(v:U z<=100)(hj:∀j∈z,j<U rows)(x:U text<=10000000):
  Fn T n GU (QG rows ba ou th lf Cf b o t text (zD z) k (zD (Hu b o z)) (zD (Hu b t z))) wM Aq (QG rows ba ou th lf (F5 b o t Cf z) b o t (Gq rows b o t text z) (zD z) k (zD (Hu b o z)) (zD (Hu b t z))):=by
 have hs:=Ak;have N:= @Km (U z) (by exact AO (by assumption)<|by decide);have i:∀p q c,(p==q)=c->Cg T n To (AL<|DD p) (AL<|DD q) c:= λp q c h=>h▸Ng (rI p q);generalize h1:Hu b o z=d;generalize h2:Hu b t z=HX;have f1:=MA hr (H0 b d HX) z v;have G:=MA hr (Bo o) z v;have f3:=MA hr (Bo t) z v;have y:Ms T n GU (QG rows ba ou th lf Cf b o t text (zD z) k (zD d)<|zD HX) RE (AL<|AV<|E7 rows<|z.filter<|H0 b d HX):=
  Kl [] (DD z) [] P.O ⋯ ⋯ ⋯ ⋯ AI (by rw[Jb];exact N) (rK P n rows ba ou th lf Cf b o t text k hz d HX (zD z) z hj)
 have u:Ms T n GU (QG rows ba ou th lf J b o t text (zD z) k (zD d)<|zD HX) XT (AL<|AV<|E7 rows<|z.filter<|Bo o):=
  Kl [] (DD z) [] P.O ⋯ ⋯ ⋯ ⋯ AI (by rw[Jb];exact N) (rJ P n rows ba ou th lf J b o t text k hz (zD d) (zD HX) (zD z) z hj)
 have g:Ms T n GU (QG rows ba ou th lf J b o t (text++G9++Ha rows (z.filter<|Bo o)) (zD z) k (zD d)<|zD HX) OW (AL<|AV<|E7 rows<|z.filter<|Bo t):=
  Kl [] (DD z) [] P.O ⋯ ⋯ ⋯ ⋯ AI (by rw[Jb];exact N) (fh P n rows ba ou th lf J b o t (text++G9++Ha rows (z.filter<|Bo o)) k hz (zD d) (zD HX) (zD z) z hj)
 have j1:=cE (T:=T) n rows (z.filter<|H0 b d HX)<|by rw[hs];exact AO (by assumption)<|by decide
 have j2:=cE (T:=T) n rows (z.filter<|Bo o)<|by rw[hs];exact AO (by assumption)<|by decide
 have j3:=cE (T:=T) n rows (z.filter<|Bo t)<|by rw[hs];exact AO (by assumption)<|by decide
 have C:U G9=13:=B;have Q:U QF=8:=B;have l3:U IW=15:=B;unfold Gq F5;rw[h1,h2];have gS:∀cs,ER cs->ER ([Ms T n GU (QG rows ba ou th lf Cf b o t text (zD z) k (zD d)<|zD HX) RE<|AL<|AV<|E7 rows<|z.filter<|H0 b d HX,H7 T n (AJ []) "join"<|AS "bytes.join",Bf T<|Ah<|AS "bytes.join",CP T n (Ah<|AS "bytes.join") [AJ [],AL<|AV<|E7 rows<|z.filter<|H0 b d HX]<|AJ<|Ha rows<|z.filter<|H0 b d HX,U text+(Ha rows<|z.filter<|H0 b d HX).length<=16777216] ++cs):= λcs hc=>⟨y,Kt,A3,j1,DT [_,_] [.l A9<|.n 10000000,.l BQ<|.n 10000] (.a A9 BQ) (.n 16777216) [1,1] B x f1,hc⟩;unfold fi;cases L:d== []with
 |true=>exact As [.b J,.b J,.b J,.t<|AL<|AV<|E7 rows<|z.filter<|H0 b d HX,.m (AS "bytes.join")<|AJ<|Ha rows<|z.filter<|H0 b d HX] _ P.O ⋯<|show ER ([Cg T n To (AL<|DD d) (AL<|DD []) J,J=J] ++_)from⟨i _ _ _ L,B,gS [J=J] ⟨B,AI⟩⟩
 |false=>
  cases c2:HX== []with
  |true=>exact As [.b AB,.b AB,.b J,.b J,.b J,.t<|AL<|AV<|E7 rows<|z.filter<|H0 b d HX,.m (AS "bytes.join")<|AJ<|Ha rows<|z.filter<|H0 b d HX] _ P.O ⋯<|show ER ([Cg T n To (AL<|DD d) (AL<|DD []) AB,Cg T n To (AL<|DD HX) (AL<|DD []) J,J=J,AB=AB] ++_)from⟨i _ _ _ L,i _ _ _ c2,B,B,gS [J=J] ⟨B,AI⟩⟩
  |false=>
   cases c3:d==HX with
   |true=>exact As [.b AB,.b AB,.b AB,.b AB,.b J,.b J,.t<|AL<|AV<|E7 rows<|z.filter<|H0 b d HX,.m (AS "bytes.join")<|AJ<|Ha rows<|z.filter<|H0 b d HX] _ P.O ⋯<|show ER ([Cg T n To (AL<|DD d) (AL<|DD []) AB,Cg T n To (AL<|DD HX) (AL<|DD []) AB,Cg T n To (AL<|DD d) (AL<|DD HX) J,AB=AB,AB=AB] ++_)from⟨i _ _ _ L,i _ _ _ c2,i _ _ _ c3,B,B,gS [J=J] ⟨B,AI⟩⟩
   |false=>
    generalize a1:Ha rows (z.filter<|Bo o)=J1 at G g j2;generalize a0:Ha rows (z.filter<|Bo t)=J2 at f3 j3;exact As [.b AB,.b AB,.b AB,.b AB,.b AB,.b AB,.t<|AL<|AV<|E7 rows<|z.filter<|Bo o,.m (AS "bytes.join")<|AJ J1,.t<|AL<|AV<|E7 rows<|z.filter<|Bo t,.m (AS "bytes.join")<|AJ J2] [Cg T n To (AL<|DD d) (AL<|DD []) AB,Cg T n To (AL<|DD HX) (AL<|DD []) AB,Cg T n To (AL<|DD d) (AL<|DD HX) AB,AB=AB,AB=AB,
      U text+U G9<=16777216,Ms T n GU (QG rows ba ou th lf J b o t text (zD z) k (zD d)<|zD HX) XT<|AL<|AV<|E7 rows<|z.filter<|Bo o,H7 T n (AJ []) "join"<|AS "bytes.join",Bf T<|Ah<|AS "bytes.join",CP T n (Ah<|AS "bytes.join") [AJ [],AL<|AV<|E7 rows<|z.filter<|Bo o]<|AJ J1,(text++G9).length+U J1<=16777216,
      (text++G9++J1).length+U QF<=16777216,Ms T n GU (QG rows ba ou th lf J b o t (text++G9++J1) (zD z) k (zD d)<|zD HX) OW<|AL<|AV<|E7 rows<|z.filter<|Bo t,H7 T n (AJ []) "join"<|AS "bytes.join",Bf T<|Ah<|AS "bytes.join",CP T n (Ah<|AS "bytes.join") [AJ [],AL<|AV<|E7 rows<|z.filter<|Bo t]<|AJ J2,(text++G9++J1++QF).length+U J2<=16777216,(text++G9++J1++QF++J2).length+U IW<=16777216,AB=AB]
     P.O ⋯ ⟨i _ _ _ L,i _ _ _ c2,i _ _ _ c3,B,B,DT [_,_] [.l A9<|.n 10000000,.e BQ<|.n 13] (.a A9 BQ) (.n 16777216) [1,1] B x C,u,Kt,A3,j2,by simp only[Ad];exact DT [_,_,_] [.l A9<|.n 10000000,.e BQ<|.n 13,.l B5<|.n 10000] (.a (.a A9 BQ) B5) (.n 16777216) [1,1,1] B x C G,by simp only[Ad];exact DT [_,_,_,_] [.l A9<|.n 10000000,.e BQ<|.n 13,.e B5<|.n 8,.l Jj<|.n 10000] (.a (.a (.a A9 BQ) Jj) B5) (.n 16777216) [1,1,1,1] B x C Q G,g,Kt,A3,j3,by simp only[Ad];exact DT [_,_,_,_,_] [.l A9<|.n 10000000,.e BQ<|.n 13,.e B5<|.n 8,.l Jj<|.n 10000,.l df<|.n 10000] (.a (.a (.a (.a A9 BQ) Jj) B5) df) (.n 16777216) [1,1,1,1,1] B x C Q G f3,by simp only[Ad];exact DT [_,_,_,_,_,_] [.l A9<|.n 10000000,.e BQ<|.n 13,.e B5<|.n 8,.e Jj<|.n 15,.l df<|.n 10000,.l la5<|.n 10000] (.a (.a (.a (.a (.a A9 BQ) df) B5) la5) Jj) (.n 16777216) [1,1,1,1,1,1] B x C Q l3 G f3,B,AI⟩
noncomputable def wQ(e:Ct):Pos:=if h:e.ctorIdx=12 then SJ (motive_2:= λ_=>LH) e h λ_ _ _ p=>p else BN
theorem Ub{st:Ct}(O:Cr T)(a:st= .If (zb st) (zd st) (ifB st) (wQ st))(h:Gm (vT T k m G (lend pv) (zb st) as)=D (c,cs))(g:ER cs)(d:c=bit)
  (j:bit=J->Ge T k G pv (zd st) fl EA)(i:bit=AB->Ge T k G pv (ifB st) fl EA):Fn T k G pv st fl EA:= λenv K=>by
 rw[a];exact jm O (MM O<|(Io O K m).2 _ _ _ _ _ (HM h) g) (λe=>j (d▸e) env K) λe=>i (d▸e) env K
theorem Cq(a:ss=s1::r)(e:Fn T k G pv s1 Aq BE)(d:Ge T k G BE r fl Fh):Ge T k G pv ss fl Fh:= λenv K=>by rw[a];refine My<|(e env K).weak λg EA ⟨e1,e2⟩=>?_;subst e1 e2;exact d env K
theorem A7(i)(a:List Stmt)(d:ss=BA i a::a.drop (i+1))(g:Fn T k G pv (BA i a) .next BE)(e:Ge T k G BE (a.drop (i+1)) fl Fh):Ge T k G pv ss fl Fh:=Cq d g e
theorem Ea(h:ss=[]):Ge T k G pv ss Aq pv:= λenv K=>by rw[h];exact jk ⟨B,B⟩
theorem Qj(O:Cr T)(h:Ge T k G (Yc x pv) ss fl EA):Ge T k G pv ss fl EA:= λenv K=>Zk O<|h env K
noncomputable def zO(z:I Aj):PV:=BP AQ<|JW<|DD z
noncomputable def rM(b o t:Aa)(k:Aj):Bool:=Ag ((Ag (Ag b o) t).fdiv<|2^k) 1==0
noncomputable def LU(rows:Rows)(b o t:Aa)(k:Aj):Bool:=match Bx ((k:Aa)<(U rows:Aa))with
 |true=>rM b o t k
 |false=>AB
noncomputable def Jz(rows:Rows)(k:Aj):Rows:=De (D (k:Aa)) (D<|(k:Aa)+1) rows
noncomputable def Jc(rows:Rows)(b o t:Aa):Aj->Aj->I BB->I Aj->Ba->I BB×Ba
 |0,_,text,_,Cf=>(text,Cf)
 |m+1,k,text,z,Cf=>match LU rows b o t k with
  |true=>Jc rows b o t m (k+1) text (z++[k]) Cf
  |false=>Jc rows b o t m (k+1) (Gq rows b o t text z++(Jz rows k).flatten) [] (F5 b o t Cf z)
theorem Sz(d:∀r∈rows,U r<=100)(b o t:Aa)(text:I BB)(z:I Aj)(hz:U z<=100):(Gq rows b o t text z).length<=U text+20036:=by
 unfold Gq;have u:=MA d (H0 b (Hu b o z)<|Hu b t z) z hz;have q:=MA d (Bo o) z hz;have j:=MA d (Bo t) z hz;have i:U G9=13:=B;have h:U QF=8:=B;have g:U IW=15:=B
 split
 ·rw[Ad];exact F0 (AO u<|by decide) _
 ·simp only[Ad];exact DT [_,_,_,_,_,_] [.l A9<|.n 10000,.l BQ<|.n 10000,.e B5<|.n 13,.e Jj<|.n 8,.e df<|.n 15] (.a (.a (.a (.a (.a la5 B5) A9) Jj) BQ) df) (.a la5<|.n 20036) [1,1,1,1,1] B q j i h g
theorem fw(a:∀r∈rows,U r<=100)(k:Aj):(Jz rows k).flatten.length<=100:=by
 unfold Jz De;simp only[VK];have e1:MF (U rows) ((k:Aa)+1)=min (k+1) (U rows):=by have:=Kg (U rows)<|k+1;simpa using this
 rw[Kg,e1];have d:=RY<|AO (Nat.le_min.mpr ⟨MD ..,IQ<|PD ..⟩)<|B8<|(zQ k<|U rows).trans<|Pb _ 1;generalize min (k+1) (U rows)-min k (U rows)=q at d;rcases jQ 0 q with h|h
 ·have:q=1:=by exact Ye (by assumption) (by assumption)
  subst this;cases e:rows.drop (min k<|U rows)with
  |nil=>simp
  |cons r rest=>
   have:=nK<|e▸Hh ..;simpa using a r this
 ·have:q=0:=Yb [_] [.l A9 Mr] A9 Mr [1] [0] B B h;subst this;simp
theorem wR(P:HN T)(n:Aj)(rows:Rows)(ba ou th:AW Aa)(lf:PV)(Cf:Ba)(b o t:Aa)(text:I BB)(k:Aj)(z:I Aj)(h p2:PV)(hz:U rows<=900)(hr:∀r∈rows,U r<=100)(G:U z<=100)(hj:∀j∈z,j<U rows)(ht:U text<=10000000):
  ∃C y,Fn T n GU (QG rows ba ou th lf Cf b o t text (zO z) (mw (AM (k:Aa))) h p2) ifU Aq (match LU rows b o t k with
   |true=>QG rows ba ou th lf Cf b o t text (zO (z++[k])) (mw (AM (k:Aa))) C y
   |false=>QG rows ba ou th lf (F5 b o t Cf z) b o t (Gq rows b o t text z++(Jz rows k).flatten) (zO []) (mw (AM (k:Aa))) C y):=by
 have hs:=Ak;have q:U rows<=1000:=by exact AO (by assumption)<|by decide
 have Q:CP T n (Ah<|AS "len") [AL<|AV rows] (AM (U rows:Aa)):=CN rows▸FR (by rw[CN];exact Km q);have a0:(DD<|z++[k])=DD z++[AM (k:Aa)] :=by simp[DD]
 have u:=Sz hr b o t text z G;have tl:=fw hr k;have N:= @Km (U z) (by exact AO (by assumption)<|by decide);have g:Ge T n GU (QG rows ba ou th lf Cf b o t text (zO z) (mw<|AM (k:Aa)) h p2) elU Aq (QG rows ba ou th lf (F5 b o t Cf z) b o t (Gq rows b o t text z++(Jz rows k).flatten) (zO []) (mw<|AM (k:Aa)) (zD<|Hu b o z)<|zD<|Hu b t z):=by
  refine Qj (x:=S "zone") P.O ?_;have e0:Yc (S "zone") (QG rows ba ou th lf Cf b o t text (zO z) (mw<|AM (k:Aa)) h p2)=QG rows ba ou th lf Cf b o t text (zD z) (mw<|AM (k:Aa)) h p2:=by kernel_rfl!
  rw[e0];refine A7 0 elU (BE:=QG rows ba ou th lf Cf b o t text (zD z) (mw<|AM (k:Aa)) (zD<|Hu b o z) p2) ⋯ ?_ ?_
  ·exact GJ P.O ⋯ ⋯ (D7 [] (DD z) [] P.O ⋯ ⋯ ⋯ ⋯ AI (by rw[Jb];exact N)<|wN P n rows ba ou th lf Cf b o t text _ h p2 (zD z) z) ⋯
  refine A7 1 elU (BE:=QG rows ba ou th lf Cf b o t text (zD z) (mw<|AM (k:Aa)) (zD<|Hu b o z)<|zD<|Hu b t z) ⋯ ?_ ?_
  ·exact GJ P.O ⋯ ⋯ (D7 [] (DD z) [] P.O ⋯ ⋯ ⋯ ⋯ AI (by rw[Jb];exact N)<|wO P n rows ba ou th lf Cf b o t text _ (zD<|Hu b o z) p2 (zD z) z) ⋯
  refine Cq (s1:=wM) (r:=elU.drop 3) ⋯ (ABS P n rows ba ou th lf Cf b o t text (mw<|AM (k:Aa)) z q hr G hj ht) ?_;generalize Gq rows b o t text z=text1 at u;refine A7 3 elU (BE:=QG rows ba ou th lf (F5 b o t Cf z) b o t (text1++(Jz rows k).flatten) (zD z) (mw<|AM (k:Aa)) (zD<|Hu b o z)<|zD<|Hu b t z) ⋯ ?_ ?_
  ·exact As [.t<|AL<|AV<|Jz rows k,.m (AS "bytes.join")<|AJ (Jz rows k).flatten] [Fm T n (AL<|AV rows) (D (k:Aa)) (D<|(k:Aa)+1)<|AL<|AV<|Jz rows k,H7 T n (AJ []) "join"<|AS "bytes.join",Bf T<|Ah<|AS "bytes.join",CP T n (Ah<|AS "bytes.join") [AJ [],AL<|AV<|Jz rows k]<|AJ (Jz rows k).flatten,U text1+(Jz rows k).flatten.length<=16777216] P.O ⋯
    ⟨N6 (D (k:Aa)) (D<|(k:Aa)+1) rows▸Gw P.O (by rw[CN];exact Km q),Kt,A3,P7<|by rw[hs];exact AO (by assumption)<|by decide,DT [_,_,_] [.l A9<|.n 10000000,.l BQ<|.n 100,.l B5<|.a A9<|.n 20036] (.a B5 BQ) (.n 16777216) [1,1,1] B ht tl u,AI⟩
  refine A7 4 elU (BE:=QG rows ba ou th lf (F5 b o t Cf z) b o t (text1++(Jz rows k).flatten) (zO []) (mw<|AM (k:Aa)) (zD<|Hu b o z)<|zD<|Hu b t z) ⋯ ?_<|Ea ⋯;exact As [] [] P.O ⋯ AI
 have L:Ge T n GU (QG rows ba ou th lf Cf b o t text (zO z) (mw<|AM (k:Aa)) h p2) (zd ifU) Aq (QG rows ba ou th lf Cf b o t text (zO<|z++[k]) (mw<|AM (k:Aa)) h p2):=by unfold zO;rw[a0];exact Ee [] [(DD z).length<=AY] P.O ⋯ ⟨by rw[Jb];exact N,AI⟩
 cases d:Bx ((k:Aa)<(U rows:Aa))with
 |false=>
  have e:LU rows b o t k=false:=by simp only[LU,d]
  rw[e];exact(NJ _ _<|Ub (m:=20) (as:=[.t<|AM (U rows:Aa),.b AB]) (c:=AB) (bit:=AB) (cs:=[CP T n (Ah<|AS "len") [AL<|AV rows]<|AM (U rows:Aa),Bf T<|Ah<|AS "len",Bx ((k:Aa)<(U rows:Aa))=AB]) P.O ⋯ ⋯ ⟨Q,A3,d,AI⟩ B AGA λ_=>g)
 |true=>
  have e:LU rows b o t k=rM b o t k:=by simp only[LU,d]
  rw[e];have v:Gm (vT T n 20 GU (lend<|QG rows ba ou th lf Cf b o t text (zO z) (mw<|AM (k:Aa)) h p2) (zb ifU) [.t<|AM (U rows:Aa),.b J])=D (rM b o t k,[CP T n (Ah<|AS "len") [AL<|AV rows]<|AM (U rows:Aa),Bf T<|Ah<|AS "len",KL (k:Aa)=J,Bx ((k:Aa)<(U rows:Aa))=J]):=by kernel_rfl!
  cases i:rM b o t k with
  |true=>exact(NJ _ _<|Ub (bit:=J) P.O ⋯ v ⟨Q,A3,tm k,d,AI⟩ i (λ_=>L) ADk)
  |false=>exact(NJ _ _<|Ub (bit:=AB) P.O ⋯ v ⟨Q,A3,tm k,d,AI⟩ i AGA λ_=>g)
section
set_option backward.match.sparseCases true
theorem oo(O:Cr T){ps locs Fe:I Bt}(F:Pt T f fd)(W:∀x d,glob x=D d->Kj T x d)
  (a:fd.body=KS body)(e:JI fd ps)(hs:OK fd.scope=J)(q:U ps=U ds)(l:(ps++locs).Nodup)
  (j:ps.all (λx=>kG (CY x fd.scope.names))=J)
  (i:Ge T n ⟨fd.scope.names,glob,Fe,AQ⟩ (EB ps ds locs) body (JF d) EA):CP T (n+1) (Ah (AH f)) ds d:=by
 have g:=hs;simp only[OK,A4,Cu,CR,Bh]at g;obtain⟨⟨⟨y,v⟩,u⟩,r⟩:=g;refine AAg O ⟨F.obj,F.tab,F.code,F.Te,F.Cd,v,u,r⟩ a q e l (tZ j) λL=>?_;refine Ex.weak (i _<|oN F hs W λ_ h=>EN h) λfl pv ⟨e1,e2⟩=>?_;subst e1;rfl
theorem wU(P:HN T)(n:Aj)(rows:Rows)(ba ou th:AW Aa)(lf:PV)(b o t:Aa)(hz:U rows<=90)(hr:∀r∈rows,U r<=100):∀m k text (z:I Aj) Cf G v u,
  (∀j∈z,j<U rows)->U z<=k->k+m<=91->U text+m*20136<=10000000->
  ∃y i O N,KN T n GU (Kk om) (DR om) (QG rows ba ou th lf Cf b o t text (zO z) G v u) (Dd (k:Aa) m) Aq (QG rows ba ou th lf (Jc rows b o t m k text z Cf).2 b o t (Jc rows b o t m k text z Cf).1 (zO y) i O N):=by
 intro m;induction m with
 |zero=>
  exactλk text z Cf G v u _ _ _ _=>(OH z G v u<|.done)
 |succ m C=>
  exactλk text z Cf G v u hj x q ht=>by
   have L:=Sz hr b o t text z<|DT [_,_,_] [.l A9 BQ,.l (.a BQ<|.a B5 DB)<|.n 91] A9 (.n 100) [1,1] B x q;have tl:=fw hr k;refine E0 (wR P n rows ba ou th lf Cf b o t text k z v u (by exact AO (by assumption)<|by decide) hr (DT [_,_,_] [.l A9 BQ,.l (.a BQ<|.a B5 DB)<|.n 91] A9 (.n 100) [1,1] B x q) hj<|AO (Ci ..) ht) λq1 q2 d=>?_;cases g:LU rows b o t k with
   |true=>
    rw[g]at d;have hk:k<U rows:=by
     unfold LU at g
     split at g
     ·rename_i h;have:=E8 h;exact Kd.mp this
     ·exact Pm g
    obtain⟨y,i,a1,a2,Q⟩:=C (k+1) text (z++[k]) Cf (mw<|AM (k:Aa)) q1 q2 (λj a0=>by
     rcases IF a0 with h|h
     ·exact hj j h
     ·rw[Cx h];exact hk) (by simp;exact DT [_,_] [.l A9 BQ] A9 BQ [1] B x) (DT [_,_] [.l (.a A9<|.a BQ DB)<|.n 91] (.a (.a A9 DB) BQ) (.n 91) [1] B q)<|AO (F0 (qN _<|Ej _) _) ht
    refine(OH y i a1 a2 ?_);have e:Jc rows b o t (m+1) k text z Cf=Jc rows b o t m (k+1) text (z++[k]) Cf:=by simp only[Jc,g]
    rw[e];exact KN.step (Ec:=QG rows ba ou th lf Cf b o t text (zO z) (mw<|AM (k:Aa)) v u) ⋯ (Cq (s1:=ifU) (r:=[]) ⋯ d<|Ea B) Q
   |false=>
    rw[g]at d;refine Rg (C (k+1) (Gq rows b o t text z++(Jz rows k).flatten) [] (F5 b o t Cf z) (mw<|AM (k:Aa)) q1 q2 IL (by simp) (DT [_,_] [.l (.a A9<|.a BQ DB)<|.n 91] (.a (.a A9 DB) BQ) (.n 91) [1] B q)<|by rw[Ad];exact DT [_,_,_,_] [.l (.a A9<|.a BQ<|.n 20136)<|.n 10000000,.l B5<|.a A9<|.n 20036,.l Jj<|.n 100] (.a (.a B5 Jj) BQ) (.n 10000000) [1,1,1] B (show U text+(m*20136+20136)<=10000000 from Nat.succ_mul m 20136▸ht) L tl) λy i a1 a2 Q=>?_;refine(OH y i a1 a2 ?_);have e:Jc rows b o t (m+1) k text z Cf=Jc rows b o t m (k+1) (Gq rows b o t text z++(Jz rows k).flatten) [] (F5 b o t Cf z):=by simp only[Jc,g]
    rw[e];exact KN.step (Ec:=QG rows ba ou th lf Cf b o t text (zO z) (mw<|AM (k:Aa)) v u) ⋯ (Cq (s1:=ifU) (r:=[]) ⋯ d<|Ea B) Q
noncomputable def J0(ba ou th:AW Aa):Bool:=ou.elim (zi th) λo=>th.elim J λt=>bif !(o==t)then ba.isNone else AB
noncomputable def Hb(rows:Rows)(ba ou th:AW Aa):I BB×Bool:=Jc rows (G0 ba) (G0 ou) (G0 th) (U rows+1) 0 [] []<|J0 ba ou th
noncomputable def tn(rows:Rows)(ba ou th:AW Aa)(lf Cf b o t text a k d HX:PV):BD:=
 [(S "rows",mw<|AL<|AV rows),(S "base",mw<|Gp ba),(S "ours",mw<|Gp ou),(S "theirs",mw<|Gp th),(S "left",lf),(S "clash",Cf),(S "b",b),(S "o",o),(S "t",t),(S "text",text),(S "zone",a),(S "k",k),(S "one",d),(S "two",HX)]
noncomputable def XU:Expr:=Hz<|BA 2 bU
theorem Uc(P:HN T)(n:Aj)(rows:Rows)(ba ou th:AW Aa)(lf c:PV)(x:AW Aa):Ms T n (EY GU (Bd XU)) ((S "side",mw (Gp x))::DA GU (tn rows ba ou th lf c Af Af Af Af Af Af Af Af) (Bd XU).names) (FY XU) (AM (G0 x)):=by
 cases x with
 |none=>exact EC [.b J] [J=J] P.O ⋯ ⟨B,AI⟩
 |some i=>exact EC [.b AB] [AB=AB] P.O ⋯ ⟨B,AI⟩
theorem wV(P:HN T)(n:Aj)(rows:Rows)(ba ou th:AW Aa)(lf:PV)(d: ¬(ou=AQ/\th=AQ))(a:(ou=AQ\/th=AQ)->∃y,ba=D y):Fn T n GU (tn rows ba ou th lf Af Af Af Af Af Af Af Af Af) (BA 1 bU) Aq (tn rows ba ou th lf (mw (BZ (J0 ba ou th))) Af Af Af Af Af Af Af Af):=by
 cases ou with
 |none=>
  cases th with
  |none=>exact Ay ⟨B,B⟩ d
  |some t=>
   obtain⟨y,rfl⟩:=a<|Ax B;exact As [.b J,.b AB,.b J] [J=J,AB=AB,J=J] P.O ⋯ ⟨B,B,B,AI⟩
 |some o=>
  cases th with
  |none=>
   obtain⟨y,rfl⟩:=a<|BC B;exact As [.b J,.b AB,.b AB] [AB=AB,AB=AB,J=J] P.O ⋯ ⟨B,B,B,AI⟩
  |some t=>
   cases h: !(o==t)with
   |false=>
    have e:J0 ba (D o) (D t)=false:=by show(bif !(o==t)then _ else AB)=_;rw[h];rfl
    rw[e];exact As [.b AB] [(!(o==t))=AB] P.O ⋯ ⟨h,AI⟩
   |true=>
    have e:J0 ba (D o) (D t)=ba.isNone:=by show(bif !(o==t)then _ else AB)=_;rw[h];rfl
    rw[e];cases ba with
    |none=>exact As [.b J,.b J] [J=J,(!(o==t))=J] P.O ⋯ ⟨B,h,AI⟩
    |some y=>exact As [.b J,.b AB,.b AB] [AB=AB,AB=AB,(!(o==t))=J] P.O ⋯ ⟨B,B,h,AI⟩
end
noncomputable def NS(rows:Rows)(ba:AW Aa):AW Aa->AW (I BB×Ba)
 |none=>D ([],AB)
 |some x=>(match ba with
  |none=>D (Cn rows x,AB)
  |some y=>(match x==y with|true=>D ([],AB)|false=>AQ))
noncomputable def LZ(rows:Rows)(ba ou th:AW Aa):AW (I BB×Ba):=match ou with
 |none=>NS rows ba th
 |some x=>(match th with|none=>NS rows ba (D x)|some _=>AQ)
noncomputable def Kn(rows:Rows)(ba ou th:AW Aa):I BB×Bool:=match LZ rows ba ou th with
 |some r=>r
 |none=>Hb rows ba ou th
noncomputable def frE(rows:Rows)(ba ou th:AW Aa)(lf:DV):BD:=tn rows ba ou th (mw lf) Af Af Af Af Af Af Af Af Af
noncomputable def Bi(r:I BB×Ba):DV:=FI [AJ r.1,BZ r.2]
theorem K8(a:ss=s1::r)(e:Fn T k G pv s1 (JF d) BE):Ge T k G pv ss (JF d) BE:= λenv K=>by rw[a];refine My<|(e env K).weak λg EA ⟨e1,e2⟩=>?_;subst e1 e2;exact⟨B,B⟩
theorem wW(P:HN T)(n:Aj)(rows:Rows)(ba ou th:AW Aa)(lf:PV)(hz:U rows<=90)(v:∀r∈rows,U r<=100)(e: ¬(ou=AQ/\th=AQ))(g:(ou=AQ\/th=AQ)->∃y,ba=D y):
  ∃EA,Ge T n GU (tn rows ba ou th lf Af Af Af Af Af Af Af Af Af) (bU.drop 1) (JF (Bi (Hb rows ba ou th))) EA:=by
 have hs:=Ak;refine Rg (wU P n rows ba ou th lf (G0 ba) (G0 ou) (G0 th) hz v (U rows+1) 0 [] [] (J0 ba ou th) Af Af Af IL (by simp) (DT [_] [.l A9<|.n 90] (.a Mr<|.a A9 DB) (.n 91) [1] B hz)<|by simp;exact AO (qN _<|Dk hz)<|by decide) λh d j i q=>?_;have u:CP T n (Ah<|AS "len") [AL<|AV rows] (AM (U rows:Aa)):=CN rows▸FR (by rw[CN];exact Km<|DT [_] [.l A9<|.n 90] A9 (.n 1000) [1] B hz);have Ll:Ms T n GU (tn rows ba ou th lf (mw<|BZ<|J0 ba ou th) Af Af Af Af Af Af Af Af) XU (AL [AM<|G0 ba,AM<|G0 ou,AM<|G0 th]):=
  Kl [] [Gp ba,Gp ou,Gp th] [] P.O ⋯ ⋯ ⋯ ⋯ AI (Km<|by simp)
   (HL B (E5 ⋯) (Uc P n rows ba ou th lf _ ba)<|HL B (E5 ⋯) (Uc P n rows ba ou th lf _ ou)<|HL B (E5 ⋯) (Uc P n rows ba ou th lf _ th) Mi)
 refine⟨QG rows ba ou th lf (Hb rows ba ou th).2 (G0 ba) (G0 ou) (G0 th) (Hb rows ba ou th).1 (zO h) d j i,A7 1 bU ⋯ (wV P n rows ba ou th lf e g) ?_⟩;refine A7 2 bU (BE:=tn rows ba ou th lf (mw<|BZ<|J0 ba ou th) (mw<|AM<|G0 ba) (mw<|AM<|G0 ou) (mw<|AM<|G0 th) Af Af Af Af Af) ⋯ ?_ ?_
 ·exact As [.t<|AL [AM<|G0 ba,AM<|G0 ou,AM<|G0 th]] [Ms T n GU (tn rows ba ou th lf (mw<|BZ<|J0 ba ou th) Af Af Af Af Af Af Af Af) XU<|AL [AM<|G0 ba,AM<|G0 ou,AM<|G0 th]] P.O ⋯ ⟨Ll,AI⟩
 refine A7 3 bU (BE:=QG rows ba ou th lf (J0 ba ou th) (G0 ba) (G0 ou) (G0 th) [] (zO []) Af Af Af) ⋯ ?_ ?_
 ·exact As [] [] P.O ⋯ AI
 refine Cq (s1:=om) (r:=bU.drop 5) ⋯ (JL [.t<|AM (U rows:Aa)] (Dd 0<|U rows+1) [CP T n (Ah<|AS "len") [AL<|AV rows]<|AM (U rows:Aa),Bf T<|Ah<|AS "len",-(2^62)<=(U rows:Aa)+1/\(U rows:Aa)+1<2^62] P.O ⋯ ⋯ ⋯ ⋯ ⟨u,A3,⟨AAF _,AAG hz<|by decide⟩,AI⟩ q) ?_;refine K8 (s1:=BA 5 bU) (r:=[]) (BE:=QG rows ba ou th lf (Hb rows ba ou th).2 (G0 ba) (G0 ou) (G0 th) (Hb rows ba ou th).1 (zO h) d j i) ⋯ ?_;exact As [] [] P.O ⋯ AI
theorem cF(P:HN T)(n:Aj)(rows:Rows)(ba ou th:AW Aa)(hz:U rows<=90)(G:∀r∈rows,U r<=100)(N:U rows.flatten<=AY):CP T (n+2) (Ah (AH 1267)) [AL (AV rows),Gp ba,Gp ou,Gp th] (Bi (Kn rows ba ou th)):=by
 refine E0 (CS P 30 1267 1266 (A6 80) (S "_law_due") AN ⋯ ⋯ ⋯ B B) λdc pm F=>?_;have z:=B6 P 18 1227 1226 (A6 74) (S "_law_text") AN ⋯ ⋯ ⋯ B B;have q:∀x,CP T (n+1) (Ah<|AH 1227) [AL<|AV rows,AM x] (AJ<|Cn rows x):= λx=>QA P n rows x (DT [_] [.l A9<|.n 90] A9 (.n 1000) [1] B hz) N;have g:∀d EA,Ge T (n+1) GU (tn rows ba ou th Af Af Af Af Af Af Af Af Af Af) bU (JF d) EA->CP T (n+2) (Ah<|AH 1267) [AL<|AV rows,Gp ba,Gp ou,Gp th] d:= λd EA h=>
  oo P.O (ps:=[S "rows",S "base",S "ours",S "theirs"]) (locs:=[S "left",S "clash",S "b",S "o",S "t",S "text",S "zone",S "k",S "one",S "two"]) (Fe:=[S "zone"])
   F (B9 P) B (W9 λu v w x=>by kernel_rfl!) ⋯ B (by decide+kernel) ⋯ h
 have C:bU=BA 0 bU::bU.drop 1:=by kernel_rfl!
 have a:∀d as cs EA,Gm (vS T (n+1) 20 GU (tn rows ba ou th Af Af Af Af Af Af Af Af Af Af) (BA 0 bU) as)=D ((JF d,EA),cs)->ER cs->CP T (n+2) (Ah<|AH 1267) [AL<|AV rows,Gp ba,Gp ou,Gp th] d:= λd as cs EA h i=>
  g d EA (K8 C<|As _ _ P.O h i)
 have j:∀lf as cs,Gm (vS T (n+1) 20 GU (tn rows ba ou th Af Af Af Af Af Af Af Af Af Af) (BA 0 bU) as)=D ((Aq,tn rows ba ou th lf Af Af Af Af Af Af Af Af Af),cs)->ER cs-> ¬(ou=AQ/\th=AQ)->((ou=AQ\/th=AQ)->∃y,ba=D y)->CP T (n+2) (Ah<|AH 1267) [AL<|AV rows,Gp ba,Gp ou,Gp th] (Bi<|Hb rows ba ou th):= λlf as cs h i h1 Q=>by refine Dx (wW P (n+1) rows ba ou th lf hz G h1 Q) λEA L=>?_;exact g _ EA<|Cq C (As _ _ P.O h i) L
 cases ou with
 |none=>
  cases th with
  |none=>exact a _ [.b J,.b J,.b J,.b J,.b J] [J=J,J=J,J=J,J=J,J=J] (frE rows ba AQ AQ BK) ⋯ ⟨B,B,B,B,B,AI⟩
  |some x=>
   cases ba with
   |none=>exact a _ [.b J,.b J,.b J,.b AB,.b AB,.b J,.t<|AJ<|Cn rows x] [J=J,J=J,AB=AB,AB=AB,CP T (n+1) (Ah<|AH 1227) [AL<|AV rows,AM x]<|AJ<|Cn rows x,Bf T<|Ah<|AH 1227,J=J,J=J] (frE rows AQ AQ (D x)<|AM x) ⋯ ⟨B,B,B,B,q x,z,B,B,AI⟩
   |some y=>
    cases h:x==y with
    |true=>
     have e:Kn rows (D y) AQ (D x)=([],AB):=by simp only[Kn,LZ,NS,h]
     rw[e];exact a _ [.b J,.b J,.b J,.b AB,.b J] [J=J,J=J,AB=AB,(x==y)=J,J=J] (frE rows (D y) AQ (D x)<|AM x) ⋯ ⟨B,B,B,h,B,AI⟩
    |false=>
     have e:Kn rows (D y) AQ (D x)=Hb rows (D y) AQ (D x):=by simp only[Kn,LZ,NS,h]
     rw[e];exact j (mw<|AM x) [.b J,.b J,.b J,.b AB,.b AB,.b AB] [J=J,J=J,AB=AB,(x==y)=AB,AB=AB,J=J] ⋯ ⟨B,B,B,h,B,B,AI⟩ (by simp) λ_=>⟨y,B⟩
 |some x=>
  cases th with
  |none=>
   cases ba with
   |none=>exact a _ [.b AB,.b J,.b AB,.b AB,.b AB,.b J,.t<|AJ<|Cn rows x] [AB=AB,AB=AB,AB=AB,AB=AB,CP T (n+1) (Ah<|AH 1227) [AL<|AV rows,AM x]<|AJ<|Cn rows x,Bf T<|Ah<|AH 1227,J=J,J=J] (frE rows AQ (D x) AQ<|AM x) ⋯ ⟨B,B,B,B,q x,z,B,B,AI⟩
   |some y=>
    cases h:x==y with
    |true=>
     have e:Kn rows (D y) (D x) AQ=([],AB):=by simp only[Kn,LZ,NS,h]
     rw[e];exact a _ [.b AB,.b J,.b AB,.b AB,.b J] [AB=AB,AB=AB,AB=AB,(x==y)=J,J=J] (frE rows (D y) (D x) AQ<|AM x) ⋯ ⟨B,B,B,h,B,AI⟩
    |false=>
     have e:Kn rows (D y) (D x) AQ=Hb rows (D y) (D x) none:=by simp only[Kn,LZ,NS,h]
     rw[e];exact j (mw<|AM x) [.b AB,.b J,.b AB,.b AB,.b AB,.b AB] [AB=AB,AB=AB,AB=AB,(x==y)=AB,AB=AB,J=J] ⋯ ⟨B,B,B,h,B,B,AI⟩ (by simp) λ_=>⟨y,B⟩
  |some t=>
   have e:Kn rows ba (D x) (D t)=Hb rows ba (D x) (D t):=by simp only[Kn,LZ]
   rw[e];exact j Af [.b AB,.b AB] [AB=AB,AB=AB] ⋯ ⟨B,B,AI⟩ (by simp)<|by simp
structure Bw(T:Th):Prop extends Rq T where
 pX:∀a o,(a,o)∈UE.zip UG->∃o',AA T.H1 a=D o'/\nW o'=o
 yy:∃mc,T.H1.Ns iz mc/\mc "thirdparty.any" =AQ
noncomputable def cG(dc pm c:Am):Yg->Yg
 |.func f=>IB {f with doc:=dc,pyModule:=pm}
 |.fields vs=>bif Na c then BF (vs.setIfInBounds 3 dc)else BF vs
 |d=>d
noncomputable def lH(dc pm:Am)(o:NU):Obj:=⟨o.cls,o.dict,cG dc pm o.cls o.data,o.slots⟩
noncomputable def AGr(c:Am):Yg->Am
 |.func f=>f.doc
 |.fields vs=>bif Na c then vs.getD 3 AN else AN
 |_=>AN
noncomputable def K9:AW NU->Am
 |some o=>AGr o.cls o.data
 |none=>AN
noncomputable def pmD:Yg->Am
 |.func f=>f.pyModule
 |_=>AN
noncomputable def Vs:AW NU->Am
 |some o=>pmD o.data
 |none=>AN
theorem AI5(vs:Ef Am):(vs.setIfInBounds 3 AN).setIfInBounds 3 (vs.getD 3 AN)=vs:=by
 apply SK;intro i;rw[Lq,Lq];by_cases h:3=i
 ·subst h;simp only[EU,Di];by_cases a:3<AK vs
  ·rw[Dh a,IA,NG a];rfl
  ·rw[CQ a,PI<|by exact bK<|by assumption]
 ·rw[CQ h,CQ h]
theorem wX(c:Am)(d:Yg):cG (AGr c d) (pmD d) c (Za c d)=d:=by
 cases d with
 |fields vs=>
  show cG (bif Na c then vs.getD 3 AN else AN) _ c (bif Na c then BF (vs.setIfInBounds 3 AN)else BF vs)=_;cases q:Na c with
  |true=>show(bif Na c then _ else _)=_;rw[q];exact BI BF<|AI5 vs
  |false=>show(bif Na c then _ else _)=_;rw[q];rfl
 |_=>rfl
theorem fy(o:NU):lH (K9 (D o)) (Vs (D o)) (U4 o)=o:=BI (λx=>(⟨o.cls,o.dict,x,o.slots⟩:NU))<|wX o.cls o.data
noncomputable def hsD:Yg->Aj->Aa
 |.dict es _,i=>(es.getD i BN).hash
 |_,_=>0
noncomputable def Vt:AW NU->Aj->Aa
 |some o,i=>hsD o.data i
 |none,_=>0
noncomputable def oq(hs:Aj->Aa):Yg->Yg
 |.dict es n=>Gr (es.mapIdx λi e=>⟨hs i,e.key,e.val⟩) n
 |d=>d
noncomputable def lI(hs:Aj->Aa)(o:NU):Obj:=⟨o.cls,o.dict,oq hs o.data,o.slots⟩
theorem wY(d:Yg):oq (hsD d) (uW d)=d:=by
 cases d with
 |dict es n=>
  refine BI (λx=>Gr x n)<|SK λi=>?_;rw[Array.getElem?_mapIdx,Array.getElem?_map];show((es[i]?.map λe=>(⟨0,e.key,e.val⟩:az)).map λe=>(⟨(es.getD i BN).hash,e.key,e.val⟩:az))=_;rw[IA];cases es[i]? <;>rfl
 |_=>rfl
theorem gA(o:NU):lI (Vt (D o)) (nW o)=o:=BI (λx=>(⟨o.cls,o.dict,x,o.slots⟩:NU))<|wY o.data
noncomputable def KX(dc pm:Aj->Am)(hs:Aj->Aj->Aa):Frag:=
 ((Lb.zip K1).filter λp=>DI p.1).map (λp=>(p.1,lH (dc p.1) (pm p.1) p.2))++(UE.zip UG).map λp=>(p.1,lI (hs p.1) p.2)
theorem AI6:∀p∈UE.zip UG,DI p.1=true:=by decide+kernel
theorem J3(P:Bw T)(d:Cm T s):(KX (λa=>K9 (AA T.H1 a)) (λa=>Vs (AA T.H1 a)) (λa=>Vt (AA T.H1 a))).In s.heap:= λa o e=>by
 have j:=mem_of_lookupK e;rcases IF j with h|h
 ·refine Ap (JY h) λp hp e2=>?_;cases e2;refine F3 (Hv.mp hp) λr l=>?_;refine Ap (P.Tf _ _ r) λo' g i=>?_;have:lH (K9<|AA T.H1 p.1) (Vs<|AA T.H1 p.1) p.2=o':=by rw[g,<-i,fy]
  rw[this];exact d.ext _ _ (λq=>DI.ok l<|(P.tab _).mp q) g
 ·refine Ap (JY h) λp hp e2=>?_;cases e2;refine Ap (P.pX _ _ hp) λo' g i=>?_;have:lI (Vt<|AA T.H1 p.1) p.2=o':=by rw[g,<-i,gA]
  rw[this];exact d.ext _ _ (λq=>DI.ok (AI6 p hp)<|(P.tab _).mp q) g
section
variable(dc pm:Nat->Value)(hs:Nat->Nat->Int)
theorem ABT:Hq (KX dc pm hs) (AH 512) "__getattribute__" =D (D (AS "object.__getattribute__")):=by kernel_rfl!
theorem Z6:Hq (KX dc pm hs) (AH 512) "__getattr__" =D none:=by kernel_rfl!
theorem AEM:Hq (KX dc pm hs) (AH 512) "__bool__" =D none:=by kernel_rfl!
theorem AGs:Hq (KX dc pm hs) (AH 512) "__len__" =D none:=by kernel_rfl!
end
theorem Ed(m j:Aj):Bo (m:Aa) j=AG m j:=AB4 m j
noncomputable def pk(R:Rows)(p:Aj->Ba)(z:I Aj):Rows:=E7 R<|z.filter p
theorem cx(R:Rows)(p:Aj->Ba)(y z:I Aj):pk R p (y++z)=pk R p y++pk R p z:=by unfold pk E7;rw[List.filter_append,Cv]
theorem yS(R:Rows)(m:Aj):∀rs k,R.drop k=rs->D8 (m:Aa) k rs=pk R (AG m) (HY k (U rs)):=by
 intro rs;induction rs with
 |nil=>
  exactλk _=>B
 |cons r rs a=>
  exactλk h=>by
   have g:R.drop (k+1)=rs:=by rw[<-List.drop_drop,h];rfl
   have e:R.getD k [] =r:=by
    have:R[k]? =D r:=by rw[<-List.head?_drop,h];rfl
    rw[Al,this];rfl
   have d:=a (k+1) g;unfold D8;rw[Ed,d,Ac,Ov];unfold pk E7;rw[Bb];cases AG m k with
   |true=>simp only[EU,B4,e]
   |false=>simp
theorem HB(R:Rows)(m:Aj):D8 (m:Aa) 0 R=pk R (AG m) (DL (U R)):=by rw[RB];exact yS R m R 0 B
noncomputable def Fq(K:Aj->Ba):I Aj->I Aj->I (I Aj×AW Aj)
 |[],z=>[(z,AQ)]
 |j::r,z=>match K j with
  |true=>(z,D j)::Fq K r []
  |false=>Fq K r (z++[j])
noncomputable def YC(R:Rows):AW Aj->Rows
 |some j=>[R.getD j []]
 |none=>[]
theorem sU(R:Rows)(a:Rows)(K p:Aj->Ba):∀r z i,(∀j∈r,K j=J->p j=J)->(∀j∈r,Qf a (R.getD j [])=K j)->
  (Jx a i (pk R p z) (pk R p r)).1++[(Jx a i (pk R p z) (pk R p r)).2] =i++(Fq K r z).map λq=>pk R p q.1:=by
 intro r;induction r with
 |nil=>
  exactλz i _ _=>B
 |cons j r d=>
  exactλz i x v=>by
   have g:= λz i=>d z i (λk h=>x k<|Cb _ h) λk h=>v k<|Cb _ h;have u:=v j<|B0 _;unfold Fq;cases l:K j with
   |true=>
    have hp:=x j (B0 _) l;have e:pk R p (j::r)=R.getD j [] ::pk R p r:=by unfold pk E7;rw[Bb,hp];rfl
    rw[e];rw[XF];rw[u,l];skip;have:=g []<|i++[pk R p z];rw[show pk R p [] =[]from B]at this;rw[this,B4];simp
   |false=>
    cases hp:p j with
    |true=>
     have e:pk R p (j::r)=R.getD j [] ::pk R p r:=by unfold pk E7;rw[Bb,hp];rfl
     have e2:pk R p z++[R.getD j []] =pk R p (z++[j]):=by rw[cx];unfold pk E7;rw[Bb,hp];rfl
     rw[e];rw[XF];rw[u,l];skip;rw[e2];exact g (z++[j]) i
    |false=>
     have e:pk R p (j::r)=pk R p r:=by unfold pk E7;rw[Bb,hp];rfl
     have e2:pk R p (z++[j])=pk R p z:=by rw[cx];unfold pk E7;rw[Bb,hp];simp
     rw[e];have:=g (z++[j]) i;rw[e2]at this;exact this
theorem YD(R:Rows)(K:Aj->Ba):∀r z,Gb (pk R K r)=(Fq K r z).map λq=>YC R q.2:=by
 intro r;induction r with
 |nil=>
  exactλz=>B
 |cons j r a=>
  exactλz=>by
   unfold Fq;cases d:K j with
   |true=>
    have e:pk R K (j::r)=R.getD j [] ::pk R K r:=by unfold pk E7;rw[Bb,d];rfl
    rw[e,B4,<-a []];rfl
   |false=>
    have e:pk R K (j::r)=pk R K r:=by unfold pk E7;rw[Bb,d];rfl
    rw[e];exact a<|z++[j]
theorem AB5:Qf l x=J↔x∈l:=by unfold Qf;rw[Ow];exact⟨λ⟨b,a,e⟩=>by rw[Bh]at e;exact e▸a,λh=>(CB x h<|by simp)⟩
theorem YE(d:R.Nodup)(p:Aj->Ba)(hz:∀j∈z,j<U R)(r:j<U R)(l:j∈z):Qf (pk R p z) (R.getD j [])=p j:=by
 rw[Ck,AB5];unfold pk E7;rw[iW];constructor
 ·rintro⟨k,q,e⟩;obtain⟨i,g⟩:=Hv.mp q;have a:=hz k i;have:k=j:=by rw[Al,Al,AR a,AR r]at e;exact(List.getElem_inj d).mp<|by simpa using e
  rw[<-this];exact g
 ·intro h;exact(CB j (Hv.mpr ⟨l,h⟩) B)
noncomputable def keepB(b o t:Nat)(j:Nat):Bool:=b.testBit j&&o.testBit j&&t.testBit j
theorem yT(b o t j:Aj):rM (b:Aa) (o:Aa) (t:Aa) j= !keepB b o t j:=by
 unfold rM;rw[Oo,Oo];have:Bo (((b&&&o)&&&t:Aj):Aa) j=keepB b o t j:=by rw[Ed,H6,H6];rfl
 rw[<-this];unfold Bo;generalize a:((((b&&&o)&&&t:Aj):Aa).fdiv<|2^j)=q;have d:Ag q 1=0\/Ag q 1=1:=by
  have e:q=((Bp q:Aj):Aa):=by
   have:0<=q:=by rw[<-a];rw[Im _<|I5<|Ra<|by decide];exact Int.ediv_nonneg (Av _)<|I5<|Ra<|by decide
   exact Pk this
  rw[e,show(1:Aa)=((1:Aj):Aa)from B,Oo,uQ];exact(bD<|Bp q).imp (BI λn:Aj=>(n:Aa))<|BI λn:Aj=>(n:Aa)
 rcases d with h|h<;>rw[h] <;>rfl
noncomputable def YF(R:Rows)(b o t:Aa):I (I Aj×AW Aj)->I BB->Ba->I BB×Ba
 |[],text,Cf=>(text,Cf)
 |q::a,text,Cf=>YF R b o t a (Gq R b o t text q.1++(YC R q.2).flatten) (F5 b o t Cf q.1)
theorem yU:YF R b o t [] text Cf=((text,Cf)):=B
theorem yV:YF R b o t (q::a) text Cf=(YF R b o t a (Gq R b o t text q.1++(YC R q.2).flatten) (F5 b o t Cf q.1)):=B
theorem iC(R:Rows)(k:Aj)(h:k<=U R):Jz R k=(R.drop k).take 1:=by
 unfold Jz De;simp only[VK];have e1:MF (U R) ((k:Aa)+1)=min (k+1) (U R):=by have:=Kg (U R)<|k+1;simpa using this
 rw[Kg,e1,Jl h];by_cases a:k+1<=U R
 ·rw[Jl a,il]
 ·rw[F8<|by exact bK<|by assumption];simp
theorem mQ(R:Rows)(b o t:Aj):∀m k text z Cf,k+m=U R->Jc R b o t (m+1) k text z Cf=YF R b o t (Fq (keepB b o t) (HY k m) z) text Cf:=by
 intro m;induction m with
 |zero=>
  exactλk text z Cf h=>by
   have g:LU R b o t k=false:=by unfold LU;rw[show Bx ((k:Aa)<(U R:Aa))=AB by simp;exact B8<|nB<|by assumption]
   have d:Jz R k=[] :=by rw[iC R k<|by exact B8<|by assumption,F8<|by exact B8<|nB<|by assumption];rfl
   unfold Jc;rw[g]
   dsimp only
   rw[d];rfl
 |succ m i=>
  exactλk text z Cf h=>by
   have g:LU R b o t k= !keepB b o t k:=by unfold LU;rw[show Bx ((k:Aa)<(U R:Aa))=J by simp;exact Pj [_,_,_] [.e (.a A9<|.a BQ DB) B5] A9 B5 [1] B h];exact yT b o t k
   rw[Ov];unfold Jc Fq;rw[g];cases j:keepB b o t k with
   |true=>
    show Jc R b o t (m+1) (k+1) _ [] _=YF R b o t (Fq _ _ []) _ _;rw[i (k+1) _ [] _<|Yb [_,_,_] [.e (.a A9<|.a BQ DB) B5] (.a (.a A9 DB) BQ) B5 [1] [-1] B B h];have d:Jz R k=[R.getD k []] :=by rw[iC R k<|h▸Ci ..,E9 (h▸PH (Ml _):k<U R),Al,AR (h▸PH (Ml _):k<U R)];rfl
    rw[d];rfl
   |false=>
    show Jc R b o t (m+1) (k+1) _ _ _=_;exact i (k+1) _ _ _<|Yb [_,_,_] [.e (.a A9<|.a BQ DB) B5] (.a (.a A9 DB) BQ) B5 [1] [-1] B B h
def aS(R:Rows)(z:I Aj):Prop:= ∀j∈z,j<U R
theorem sV(R:Rows)(p q:Aj->Ba)(h:I BB->Ba)(z:I Aj)(a:∀j∈z,p j=J->h (R.getD j [])=q j):(pk R p z).filter h=pk R (λj=>p j&&q j) z:=by
 unfold pk E7;rw[List.filter_map,List.filter_filter]
 congr 1
 refine IE λj d=>?_;cases hp:p j with
 |true=>simpa using a j d hp
 |false=>simp[hp]
theorem pO(d:R.Nodup)(b o t:Aj)(hz:aS R z):MW (pk R (AG b) z) (pk R (AG o) z) (pk R (AG t) z)=pk R (keepB b o t) z:=by
 unfold MW;rw[sV R (AG b) (λj=>AG o j&&AG t j) _ z λj a _=>by rw[YE d _ hz (hz j a) a,YE d _ hz (hz j a) a]];unfold keepB
 congr 1
 funext j
 rw[Bool.and_assoc]
theorem cX(d:R.Nodup)(hz:aS R z):(pk R p z==pk R q z)=J↔ ∀j∈z,p j=q j:=by
 rw[Bh];constructor
 ·intro e j a;rw[<-YE d p hz (hz j a) a,<-YE d q hz (hz j a) a,e]
 ·intro e;unfold pk;rw[IE e]
theorem AB6(d:R.Nodup)(b o t:Aj)(z:I Aj)(hz:aS R z):∀j∈z,Qf (pk R (keepB b o t) z) (R.getD j [])=keepB b o t j:= λj a=>YE d _ hz (hz j a) a
noncomputable def Q3(x y z:Rows):Rows:=match y==z with
 |true=>y
 |false=>(match x==y with
  |true=>z
  |false=>(match x==z with|true=>y|false=>[G9] ++y++[QF] ++z++[IW]))
theorem zB(a:Aa)(x y z:Rows):NP (Nv a x y z)=Q3 x y z:=by unfold Nv Q3;cases h:y==z<;>cases g:Bx (0<a)<;>cases e:x==y<;>cases d:x==z<;>first|rfl|(unfold NP wH OV;simp only[e,d])
theorem ACV(a:Aa)(e:Rows):NP (XQ a e)=e:=by
 unfold XQ;cases h:a==2
 ·rfl
 ·have d:(e==e)=true:=by simp
  show(match(match e==e with|true=>J|false=>(match e==e with|true=>J|false=>AB))with|true=>(match e==e with|true=>e|false=>e)|false=>_)=e;rw[d]
noncomputable def J8(R:Rows)(b o t:Aj):I (I Aj×AW Aj)->Rows
 |[] =>[]
 |q::a=>Q3 (pk R (AG b) q.1) (pk R (AG o) q.1) (pk R (AG t) q.1)++YC R q.2++J8 R b o t a
theorem yW:J8 R b o t [] =([]):=B
theorem QM:J8 R b o t (q::a)=(Q3 (pk R (AG b) q.1) (pk R (AG o) q.1) (pk R (AG t) q.1)++YC R q.2++J8 R b o t a):=B
theorem cY(a:Aa)(b o t:Aj):∀qs,By (E6 a (qs.map λq=>pk R (AG b) q.1) (qs.map λq=>pk R (AG o) q.1) (qs.map λq=>pk R (AG t) q.1) (qs.map λq=>YC R q.2))=J8 R b o t qs:=by
 intro qs;induction qs with
 |nil=>
  exact B
 |cons q qs d=>
  exact by have e:=d;show NP (Nv a _ _ _)++(NP (XQ a _)++By (E6 a _ _ _ _))=_;rw[e,zB,ACV,<-DN];rfl
noncomputable def E3(R:Rows)(b o t:Aj):I (I Aj×AW Aj):=Fq (keepB b o t) (DL<|U R) []
theorem V5(a:R.Nodup)(b o t:Aj)(p:Aj->Ba)(hp:∀j,keepB b o t j=J->p j=J):Fo (pk R p (DL (U R))) (pk R (keepB b o t) (DL (U R)))=(E3 R b o t).map λq=>pk R p q.1:=by have hz:aS R (DL<|U R):= λj d=>Mv.mp d;have:=sU R (pk R (keepB b o t)<|DL<|U R) (keepB b o t) p (DL<|U R) [] [] (λj _ h=>hp j h)<|AB6 a b o t _ hz;rw[show pk R p [] =[]from B]at this;unfold Fo;rw[this,Hx];rfl
theorem R0(a:R.Nodup)(d:Aa)(b o t:Aj):By (L0 d AQ (D8 b 0 R) (D8 o 0 R) (D8 t 0 R))=J8 R b o t (E3 R b o t):=by have hz:aS R (DL<|U R):= λj e=>Mv.mp e;unfold L0;rw[HB,HB,HB,pO a b o t hz];rw[V5 a b o t (AG b) λj h=>by unfold keepB at h;simp only[A4]at h;exact h.1.1];rw[V5 a b o t (AG o) λj h=>by unfold keepB at h;simp only[A4]at h;exact h.1.2];rw[V5 a b o t (AG t) λj h=>by unfold keepB at h;simp only[A4]at h;exact h.2];rw[YD R (keepB b o t) (DL<|U R) [],Fi];exact cY d b o t<|E3 R b o t
theorem sW:∀K r z,aS R r->aS R z->∀q∈Fq K r z,aS R q.1:=by
 intro K r;induction r generalizing K with
 |nil=>
  exactλz d hz q hq=>by rw[Cx hq];exact hz
 |cons j r g=>
  exactλz d hz q hq=>by
   have a:aS R r:= λi e=>d i<|Cb _ e;unfold Fq at hq;cases l:K j with
   |true=>
    rw[l]at hq;rcases DO hq with rfl|hq
    ·exact hz
    ·exact g K [] a (λ_ h=>Ay h Au) q hq
   |false=>
    rw[l]at hq;refine g K (z++[j]) a (λi e=>?_) q hq;rcases IF e with h|h
    ·exact hz i h
    ·rw[Cx h];exact d j<|B0 _
noncomputable def Gh(z:I Aj)(p q:Aj->Ba):Bool:=z.all λj=>p j==q j
theorem DZ:Gh z p q=J↔ ∀j∈z,p j=q j:=by unfold Gh;rw[Cu];simp
theorem H3(a:R.Nodup)(hz:aS R z):(pk R p z==pk R q z)=Gh z p q:=by rw[Ck,cX a hz,DZ]
theorem AEx(b o j:Aj):Bo (B1 (b:Aa) (o:Aa)) j=(AG b j^^AG o j):=by rw[M9,Ed,Fk]
theorem TU(b o:Aj):j∈Hu b o z↔j∈z/\(AG b j^^AG o j)=true:=by unfold Hu;rw[Hv,AEx]
theorem pb(b o:Aj)(z:I Aj):(Hu b o z== [])=Gh z (AG b) (AG o):=by
 rw[Ck,DZ,Bh,List.eq_nil_iff_forall_not_mem];constructor
 ·intro h j hj;have:=h j;rw[TU]at this;cases d:AG b j<;>cases a:AG o j<;>simp_all
 ·intro h j hj;rw[TU]at hj;rw[h j hj.1]at hj;simp at hj
theorem AB7(b o t:Aj)(z:I Aj):(Hu b o z==Hu b t z)=Gh z (AG o) (AG t):=by
 rw[Ck,DZ,Bh];constructor
 ·intro h j a;have:j∈Hu b o z↔j∈Hu b t z:=by rw[h]
  rw[TU,TU]at this;cases g:AG b j<;>cases e:AG o j<;>cases d:AG t j<;>simp_all
 ·intro h;unfold Hu;refine IE λj a=>?_;rw[AEx,AEx,h j a]
theorem ACU:tc l j=J↔j∈l:=by
 unfold tc;rw[Ow];constructor
 ·rintro⟨x,a,e⟩;rw[Bh]at e;rw[<-AKV e];exact a
 ·intro h;exact(CB j h<|by simp)
theorem pP(b o:Aj)(a:j∈z):tc (Hu b o z) j=(AG b j^^AG o j):=by rw[Ck,ACU,TU];exact⟨λh=>h.2,λh=>⟨a,h⟩⟩
noncomputable def LD(b o t:Aj)(z:I Aj):Bool:=Gh z (AG b) (AG o)||Gh z (AG b) (AG t)||Gh z (AG o) (AG t)
theorem yX(b o t:Aj)(z:I Aj):fi (Hu b o z) (Hu b t z)=LD b o t z:=by unfold fi LD;rw[pb,pb,AB7];cases Gh z (AG b) (AG o)<;>cases Gh z (AG b) (AG t)<;>rfl
theorem yY(g:R.Nodup)(b o t:Aj)(text:I BB)(hz:aS R z):Gq R b o t text z=text++(Q3 (pk R (AG b) z) (pk R (AG o) z) (pk R (AG t) z)).flatten:=by
 have v:z.filter (Bo (o:Aa))=z.filter (AG o):=IE λj _=>Ed o j;have u:z.filter (Bo (t:Aa))=z.filter (AG t):=IE λj _=>Ed t j;have d:∀p,(∀j∈z,(match(AG b j^^AG o j)with|true=> !AG b j|false=>(AG b j^^(AG b j^^AG t j)))=p j)->Ha R (z.filter<|H0 b (Hu b o z)<|Hu b t z)=(pk R p z).flatten:= λp h=>by unfold Ha pk;rw[IE (q:=p) λj a=>?_];rw[<-h j a];unfold H0;rw[pP b o a,pP b t a,Ed];cases AG b j<;>cases AG o j<;>cases AG t j<;>rfl
 unfold Gq Q3;rw[yX,H3 g hz,H3 g hz,H3 g hz];unfold LD;cases r:Gh z (AG o) (AG t)with
 |true=>
  have e:=d (AG o) λj a=>by rw[<-(DZ.mp r) j a];cases AG b j<;>cases AG o j<;>rfl
  cases Gh z (AG b) (AG o)<;>cases Gh z (AG b) (AG t)<;>exact BI (text++ ·) e
 |false=>
  cases l:Gh z (AG b) (AG o)with
  |true=>
   have e:=d (AG t) λj a=>by rw[<-(DZ.mp l) j a];cases AG b j<;>cases AG t j<;>rfl
   cases Gh z (AG b) (AG t)<;>exact BI (text++ ·) e
  |false=>
   cases i:Gh z (AG b) (AG t)with
   |true=>
    have e:=d (AG o) λj a=>by rw[<-(DZ.mp i) j a];cases AG b j<;>cases AG o j<;>rfl
    exact BI (text++ ·) e
   |false=>
    show text++G9++Ha R (z.filter<|Bo o)++QF++Ha R (z.filter<|Bo t)++IW=text++([G9] ++_++[QF] ++_++[IW]).flatten;unfold Ha;rw[v,u,Fv,Fv,Fv,Fv];unfold pk;simp only[List.flatten_singleton,DN]
noncomputable def NR(b o t:Aj)(a:I (I Aj×AW Aj)):Bool:=a.any λq=> !LD b o t q.1
theorem yZ(e:R.Nodup)(b o t:Aj):∀a text c,(∀q∈a,aS R q.1)->YF R b o t a text c=(text++(J8 R b o t a).flatten,c||NR b o t a):=by
 intro a;induction a with
 |nil=>
  exactλtext c _=>by(unfold NR;rw[yU,yW]);simp
 |cons q a d=>
  exactλtext c h=>by
   have g:= λtext c=>d text c λr i=>h r<|Cb _ i;rw[yV];rw[g,yY e b o t text<|h q<|B0 _];have e1:F5 b o t c q.1=(c|| !LD b o t q.1):=by unfold F5;rw[yX];cases LD b o t q.1<;>simp
   rw[e1];unfold NR;rw[G5,dJ]
   congr 1
   rw[QM,Fv,Fv,DN,DN,DN]
section
set_option tactic.hygienic true
theorem Vu(l:es.map (·.val)=[x,v,u,q])(Q:Ds (λ(e:az) n=> ∃t,e.key=Bz n t) es [O,N,L,G]):
  ∃h0 h1 h2 h3 j i h g,es=[⟨h0,Bz O j,x⟩,⟨h1,Bz N i,v⟩,⟨h2,Bz L h,u⟩,⟨h3,Bz G g,q⟩] :=by
 cases Q with
 | @cons x0 _ _ _ a r=>cases r with
  | @cons x1 _ _ _ b r=>cases r with
   | @cons x2 _ _ _ c r=>cases r with
    | @cons x3 _ _ _ d r=>
     cases r;refine Dx a λj e0=>?_;refine Dx b λi e1=>?_;refine Dx c λh e2=>?_;refine Dx d λg e3=>?_;simp only[B4,ig,AKN,and_true]at l;refine FD l λq0 C z y=>?_;refine(WZ x0.hash x1.hash x2.hash x3.hash j i h g ?_);simp only[<-e0,<-e1,<-e2,<-e3,<-q0,<-C,<-z,<-y]
noncomputable abbrev GZ:I Str:=[S "_sha",S "_chunked_text",S "_needs_serialization",S "object_format"]
noncomputable def Ud:DV->Ba
 |.val _=>AB
 |_=>J
theorem Qk(a:Ud d=J)(t:Tr T h X d v):handedIn v=true:=by cases t<;>first|rfl|(exact Pm a;done)
noncomputable abbrev KT(T:Th):Frag:=KX (λa=>K9<|AA T.H1 a) (λa=>Vs<|AA T.H1 a) λa=>Vt<|AA T.H1 a
noncomputable def TA(g e d a:DV):DV:=YT 512 GZ [g,e,d,a]
theorem TB(ta:A8 T h X [y,x,v,u] vs):∃e d a v3,vs=[e,d,a,v3] /\Tr T h X y e/\Tr T h X x d/\Tr T h X v a/\Tr T h X u v3:=by refine Bk ta.inv λe vs q l r=>?_;refine Bk r.inv λd vs e1 j r=>?_;refine Bk r.inv λa vs e2 i r=>?_;refine Bk r.inv λv3 vs e3 g r=>?_;exact⟨e,d,a,v3,by rw[q,e1,e2,e3,r.inv],l,j,i,g⟩
theorem Ql(P:Bw T)(hd:Ud d1=J):Ey T n (TA d0 d1 d2 d3) (S "_chunked_text") d1:=by
 intro A X s u Q E a d x t K
 (refine JX t.inv λai dx vs g hI nx L y=>?_;subst g)
 ·refine EJ hI λes k sl h1 h2 hv hp=>?_
  (refine Gv (TB y) λr i q l h t0 j t2 t3=>?_;subst h)
  ····skip
      (refine MH (Vu hv hp) λq0 G C z k0 k1 O N e=>?_;subst e)
      exact bA (v:=i) (K:=KT T) (od:=D<|Hl [⟨q0,Bz (S "_sha") k0,r⟩,⟨G,Bz (S "_chunked_text") k1,i⟩,⟨C,Bz (S "_needs_serialization") O,q⟩,⟨z,Bz (S "object_format") N,l⟩] k) (J3 P d) ⟨h1,B,B,h2⟩ (ABT _ _ _) ⋯ (Qk hd j)<|K _ _ (C1.refl _) (d.toks _) j
theorem lJ(P:Bw T)(hd:Ud d2=J):Ey T n (TA d0 d1 d2 d3) (S "_needs_serialization") d2:=by
 intro A X s u Q E a d x t K
 (refine JX t.inv λai dx vs g hI nx L y=>?_;subst g)
 ·refine EJ hI λes k sl h1 h2 hv hp=>?_
  (refine Gv (TB y) λr q i l h t0 t1 j t3=>?_;subst h)
  ····skip
      (refine MH (Vu hv hp) λq0 G C z k0 k1 O N e=>?_;subst e)
      exact bA (v:=i) (K:=KT T) (od:=D<|Hl [⟨q0,Bz (S "_sha") k0,r⟩,⟨G,Bz (S "_chunked_text") k1,q⟩,⟨C,Bz (S "_needs_serialization") O,i⟩,⟨z,Bz (S "object_format") N,l⟩] k) (J3 P d) ⟨h1,B,B,h2⟩ (ABT _ _ _) ⋯ (Qk hd j)<|K _ _ (C1.refl _) (d.toks _) j
theorem Z7(P:Bw T)(hd:Ud d=J)
  (hf:∀q0 z y r N L G C q l j i k,findObj (KT T) 512 (D (Hl [⟨q0,Bz (S "_sha") N,q⟩,⟨z,Bz (S "_chunked_text") L,l⟩,⟨y,Bz (S "_needs_serialization") G,j⟩,⟨r,Bz (S "object_format") C,i⟩] k)) x=D (.bind (AS "property.__get__") (AH pa)))
  (hp:recIn (KT T) pa "property" =D (AH fg::rest))(h:jh T n (Ah (AH fg)) [TA d0 d1 d2 d3] d):Ey T (n+1) (TA d0 d1 d2 d3) x d:=by
 intro A X s u Q E a e xo t K;have t':=t
 (refine JX t.inv λai dx vs a1 hI nx a3 ta=>?_;subst a1)
 ·refine EJ hI λes k sl h1 h2 hv O=>?_
  (refine Gv (TB ta) λq l j i a2 t0 t1 t2 t3=>?_;subst a2)
  ····skip
      (refine MH (Vu hv O) λq0 z y r N L G C a0=>?_;subst a0)
      refine get_bind (K:=KT T) (od:=D<|Hl [⟨q0,Bz (S "_sha") N,q⟩,⟨z,Bz (S "_chunked_text") L,l⟩,⟨y,Bz (S "_needs_serialization") G,j⟩,⟨r,Bz (S "object_format") C,i⟩] k) (J3 P e) ⟨h1,B,B,h2⟩ (ABT _ _ _) (hf _ _ _ _ _ _ _ _ _ _ _ _ _) (Z6 _ _ _) ?_;refine F9<|prop_get (K:=KT T) (J3 P<|e.toks _) hp<|h A.in1 X {s with toks:=s.toks+1} (AH fg) [AH ai] _ a.in1 (e.toks _) xo (ACX _) (Cw t' E4) λv s' x' i' g=>?_;show Ao _ A (handedOut v) Q E s';rw[handedOut_of<|Qk hd g];exact AP<|K v s' x' i' g
end
section
set_option backward.match.sparseCases true
set_option tactic.hygienic true
theorem Z8(P:Bw T)(hf:Hq (KT T) (AH 512) x=D (D (AH f)))(ht:WJ (KT T) (AH f)=D (Ae "function"))
  (hs:∀q0 q l j z y v r i h g e k,shadowIn (D (Hl [⟨q0,Bz (S "_sha") z,i⟩,⟨q,Bz (S "_chunked_text") y,h⟩,⟨l,Bz (S "_needs_serialization") v,g⟩,⟨j,Bz (S "object_format") r,e⟩] k)) x=D AB):H7 T n (TA d0 d1 d2 d3) x (AH f):=by
 intro A X s u pl Q E a d xo t K
 (refine JX t.inv λai dx vs L hI nx a0 O=>?_;subst L)
 ·refine EJ hI λes k sl h1 h2 hv C=>?_
  (refine Gv (TB O) λi h g e N t0 t1 t2 t3=>?_;subst N)
  ····skip
      (refine MH (Vu hv C) λq0 q l j z y v r G=>?_;subst G)
      exact method_fn (K:=KT T) (od:=D<|Hl [⟨q0,Bz (S "_sha") z,i⟩,⟨q,Bz (S "_chunked_text") y,h⟩,⟨l,Bz (S "_needs_serialization") v,g⟩,⟨j,Bz (S "object_format") r,e⟩] k) (J3 P d) ⟨h1,B,B,h2⟩ (ABT _ _ _) (Z6 _ _ _) hf ht (hs _ _ _ _ _ _ _ _ _ _ _ _ _) K
theorem wZ(P:Bw T):H7 T n (TA g e d a) (S "as_raw_chunks") (AH 365):=Z8 P ⋯ ⋯ λ_ _ _ _ _ _ _ _ _ _ _ _ _=>by kernel_rfl!
theorem wa(P:Bw T):H7 T n (TA g e d a) (S "as_raw_string") (AH 372):=Z8 P ⋯ ⋯ λ_ _ _ _ _ _ _ _ _ _ _ _ _=>by kernel_rfl!
noncomputable def Lg(e d:DV)(a:Rows):DV:=TA e (AL<|AV a) (BZ AB) d
theorem lK(P:Bw T)(n:Aj)(e d:DV)(a:Rows):CP T (n+1) (Ah (AH 365)) [Lg e d a] (AL (AV a)):=by
 refine E0 (CS P.toHN 62 365 364 (Bl 39 2) (S "ShaFile.as_raw_chunks") AN ⋯ ⋯ ⋯ B B) λdc pm F=>?_;exact JS (m:=20) (ps:=[S "self"]) (locs:=[]) (Fe:=[]) (as:=[.t<|BZ AB,.b AB,.t<|AL<|AV a,.t<|AL<|AV a])
  (cs:=[Ey T n (Lg e d a) (S "_needs_serialization")<|BZ AB,AB=AB,Ey T n (Lg e d a) (S "_chunked_text")<|AL<|AV a,J=J,Ey T n (Lg e d a) (S "_chunked_text")<|AL<|AV a])
  P.O F (B9 P.toHN) B (OR λu=>by kernel_rfl!) ⋯ B (by decide+kernel) ⋯ ⋯ ⟨lJ P B,B,Ql P B,B,Ql P B,AI⟩
theorem lL(P:Bw T)(n:Aj)(d a:DV)(chunks:Rows)(hz:U chunks.flatten<=AY):CP T (n+2) (Ah (AH 372)) [Lg d a chunks] (AJ (AF chunks)):=by
 refine E0 (CS P.toHN 64 372 371 (Bl 39 3) (S "ShaFile.as_raw_string") AN ⋯ ⋯ ⋯ B B) λdc pm F=>?_;have e:=B6 P.toHN 62 365 364 (Bl 39 2) (S "ShaFile.as_raw_chunks") AN ⋯ ⋯ ⋯ B B;exact JS (m:=20) (ps:=[S "self"]) (locs:=[]) (Fe:=[]) (as:=[.m (AH 365)<|AL<|AV chunks,.m (AS "bytes.join")<|AJ<|AF chunks])
  (cs:=[H7 T (n+1) (Lg d a chunks) (S "as_raw_chunks")<|AH 365,Bf T<|Ah<|AH 365,CP T (n+1) (Ah<|AH 365) [Lg d a chunks]<|AL<|AV chunks,H7 T (n+1) (AJ []) "join"<|AS "bytes.join",Bf T<|Ah<|AS "bytes.join",CP T (n+1) (Ah<|AS "bytes.join") [AJ [],AL<|AV chunks]<|AJ<|AF chunks])
  P.O F (B9 P.toHN) B (OR λu=>by kernel_rfl!) ⋯ B (by decide+kernel) ⋯ ⋯ ⟨wZ P,e,lK P n d a chunks,Kt,A3,P7 hz,AI⟩
theorem wb(P:Bw T)(n:Aj)(d a:DV)(chunks:Rows)(hz:U chunks.flatten<=AY):jh T (n+3) (Ah (AH 461)) [Lg d a chunks] (AJ (AF chunks)):=by
 refine E0 (CS P.toHN 73 461 460 (Bl 40 4) (S "Blob.data") AN ⋯ ⋯ ⋯ B B) λdc pm F=>?_;have e:=B6 P.toHN 64 372 371 (Bl 39 3) (S "ShaFile.as_raw_string") AN ⋯ ⋯ ⋯ B B;exact bg (cq:=AQ) (m:=20) (ps:=[S "self"]) (locs:=[]) (Fe:=[]) (as:=[.m (AH 372)<|AJ<|AF chunks])
  (cs:=[H7 T (n+2) (Lg d a chunks) (S "as_raw_string")<|AH 372,Bf T<|Ah<|AH 372,CP T (n+2) (Ah<|AH 372) [Lg d a chunks]<|AJ<|AF chunks])
  P.O F (B9 P.toHN) B (OR λu=>by kernel_rfl!) ⋯ B (by decide+kernel) ⋯ ⋯ ⟨wa P,e,lL P n d a chunks hz,AI⟩ (λ_ h=>EN h)
theorem gB(P:Bw T)(n:Aj)(e d:DV)(a:Rows):jh T (n+1) (Ah (AH 478)) [Lg e d a] (AL (AV a)):=by
 refine E0 (CS P.toHN 78 478 477 (Bl 40 6) (S "Blob.chunked") AN ⋯ ⋯ ⋯ B B) λdc pm F=>?_;exact bg (cq:=AQ) (m:=20) (ps:=[S "self"]) (locs:=[]) (Fe:=[]) (as:=[.t<|AL<|AV a,.t<|AL<|AV a])
  (cs:=[Ey T n (Lg e d a) (S "_chunked_text")<|AL<|AV a,J=J,Ey T n (Lg e d a) (S "_chunked_text")<|AL<|AV a])
  P.O F (B9 P.toHN) B (OR λu=>by kernel_rfl!) ⋯ B (by decide+kernel) ⋯ ⋯ ⟨Ql P B,B,Ql P B,AI⟩ (λ_ h=>EN h)
theorem DH(P:Bw T)(n:Aj)(d a:DV)(chunks:Rows)(hz:U chunks.flatten<=AY):Ey T (n+4) (Lg d a chunks) (S "data") (AJ (AF chunks)):=
 Z7 P (pa:=471) (fg:=461) (rest:=[AH 470,AN,K9<|AA T.H1 471,Bz (S "data") 939,FH J]) B (λ_ _ _ _ _ _ _ _ _ _ _ _ _=>by kernel_rfl!) ⋯ (wb P n d a chunks hz)
theorem cH(P:Bw T)(n:Aj)(e d:DV)(a:Rows):Ey T (n+2) (Lg e d a) (S "chunked") (AL (AV a)):=
 Z7 P (pa:=488) (fg:=478) (rest:=[AH 487,AN,K9<|AA T.H1 488,Bz (S "chunked") 958,FH J]) B (λ_ _ _ _ _ _ _ _ _ _ _ _ _=>by kernel_rfl!) ⋯ (gB P n e d a)
theorem Es(P:Bw T):FP T n (TA d0 d1 O N) true:=by
 intro A X s u Q E a e z t K
 (refine JX t.inv λh y vs g r G l C=>?_;subst g)
 ·refine EJ r λes k j x v L q=>?_;have i:=J3 P e;have d:InstAt s.heap h ⟨AH 512,D y,tN,j⟩ 512 (D<|Hl es k):=⟨x,B,B,v⟩;unfold truthy;refine AD (m:=uJ (AH h)<|S "__bool__")<|AD<|AD<|d.type.here<|(Yr i<|AEM _ _ _).here<|AP ?_;refine AD<|AD<|d.type.here<|(Yr i<|AGs _ _ _).here ?_;exact AP<|K s (C1.refl _) e
end
section
open PySem.Builtin
set_option backward.match.sparseCases true
set_option tactic.hygienic true
noncomputable def CU(b:I BB):Rows:=CT (U b) J b
noncomputable def LA:I UInt8:=[60,60,60,60,60,60,60,32,111,117,114,115]
noncomputable abbrev BR(a:Rows):DV:=Lg BK (Ah<|AH 111) a
noncomputable def GB:GV:=⟨(D2<|A6 60).names,HA,[],AQ⟩
noncomputable def bB:I Stmt:=Cc<|A6 60
theorem Qm(P:Bw T)(n:Aj)(x y z:Rows)(Cd d:DV)(g:U x.flatten<=AY)(e:U y.flatten<=AY)(hz:U z.flatten<=AY)(as:I Ja)(cs:I Prop)
  (a:VP (Qy (vS T (n+4) 20 GB) bB (EB [S "base_blob",S "ours_blob",S "theirs_blob",S "make_merge3"] [BR x,BR y,BR z,Cd] [S "m",S "base_content",S "ours_content",S "theirs_content",S "merged_content",S "has_conflicts"])
   (.b AB:: .b AB:: .b AB:: .b J:: .b J:: .t (AJ (AF x)):: .b J:: .b J:: .t (AJ (AF y)):: .b J:: .b J:: .t (AJ (AF z)):: .b AB:: .b AB::as))=D (JF d,[AB=AB,AB=AB,AB=AB,
    FP T (n+4) (BR x) J,Ey T (n+4) (BR x) (S "data") (AJ (AF x)),J=J,FP T (n+4) (BR y) J,Ey T (n+4) (BR y) (S "data") (AJ (AF y)),J=J,FP T (n+4) (BR z) J,Ey T (n+4) (BR z) (S "data") (AJ (AF z)),J=J,AB=AB,AB=AB] ++cs))(h:ER cs):CP T (n+5) (Ah (AH 1034)) [BR x,BR y,BR z,Cd] d:=by
 refine E0 (CS P.toHN 6 1034 1033 (A6 60) (S "merge_blobs") AN ⋯ ⋯ ⋯ B B) λdc pm F=>?_;exact JS P.O F (B9 P.toHN) B (W9 λu v w x=>by kernel_rfl!) ⋯ B (by decide+kernel) ⋯ a
  ⟨B,B,B,Es P,DH P n _ _ x g,B,Es P,DH P n _ _ y e,B,Es P,DH P n _ _ z hz,B,B,B,h⟩
theorem gC(P:Bw T)(n:Aj)(x y z:Rows)(Cd:DV)(d:U x.flatten<=AY)(a:U y.flatten<=AY)(hz:U z.flatten<=AY)(h:(AF y==AF z)=J):CP T (n+5) (Ah (AH 1034)) [BR x,BR y,BR z,Cd] (Bi (AF y,AB)):=
 Qm P n x y z Cd _ d a hz [.b J] [(AF y==AF z)=J] ⋯ ⟨h,AI⟩
end
section
open PySem.Builtin
theorem ABU(a:Aa)(x y z:Rows):lF (Nv a x y z):=by
 unfold Nv;cases y==z
 ·cases Bx (0<a)
  ·cases x==y
   ·cases x==z<;>first|trivial|rfl
   ·rfl
  ·trivial
 ·cases x==y<;>rfl
theorem AEN(a:Aa)(e:Rows):lF (XQ a e):=by unfold XQ;cases a==2<;>first|trivial|rfl
theorem gE(Aw:Aa)(a b c d:I Rows):∀q∈E6 Aw a b c d,lF q:=by
 have h:∀l,∀q∈og Aw l,lF q:=by
  intro l;induction l with
  |nil=>exactλq h=>Ay h Au
  |cons p r g=>
   intro q h;rcases DO h with e|h
   ·exact e▸ABU ..
   ·rcases DO h with e|h
    ·exact e▸AEN ..
    ·exact g q h
 exact h _
theorem gF(P:Bw T)(n:Aj)(x y z:Rows)(Cd:DV)(d:U x.flatten<=AY)(a:U y.flatten<=AY)(hz:U z.flatten<=AY)(h:(AF y==AF z)=AB)(e:(AF x==AF y)=J):CP T (n+5) (Ah (AH 1034)) [BR x,BR y,BR z,Cd] (Bi (AF z,AB)):=
 Qm P n x y z Cd _ d a hz [.b AB,.b J] [(AF x==AF y)=J,(AF y==AF z)=AB] ⋯ ⟨e,h,AI⟩
theorem XW(P:Bw T)(n:Aj)(x y z:Rows)(Cd:DV)(d:U x.flatten<=AY)(a:U y.flatten<=AY)(hz:U z.flatten<=AY)(h:(AF y==AF z)=AB)(g:(AF x==AF y)=AB)(e:(AF x==AF z)=J):CP T (n+5) (Ah (AH 1034)) [BR x,BR y,BR z,Cd] (Bi (AF y,AB)):=
 Qm P n x y z Cd _ d a hz [.b AB,.b AB,.b J] [(AF x==AF z)=J,(AF x==AF y)=AB,(AF y==AF z)=AB] ⋯ ⟨e,g,h,AI⟩
theorem lM(P:Bw T)(n:Aj)(x y z:Rows)(Cd:DV)(a:I Vr)(i:Bf T Cd)(C:CP T (n+4) Cd [AL (AV (CU (AF x))),AL (AV (CU (AF y))),AL (AV (CU (AF z)))] (FU a))(j:∀q∈a,lF q)(v:(By a).length<=100000)(u:(By a).flatten.length<=AY)
  (e:U x.flatten<=AY)(d:U y.flatten<=AY)(hz:U z.flatten<=AY)(h:(AF y==AF z)=AB)(r:(AF x==AF y)=AB)(l:(AF x==AF z)=AB):CP T (n+5) (Ah (AH 1034)) [BR x,BR y,BR z,Cd] (Bi ((By a).flatten,Gf LA (By a).flatten)):=by
 have g:=B6 P.toHN 2 1020 1019 (A6 58) (S "_merge3_to_bytes") AN ⋯ ⋯ ⋯ B B;exact Qm P n x y z Cd _ e d hz [.b AB,.b AB,.b AB,.m (AS "bytes.splitlines")<|AL<|AV<|CU<|AF x,.m (AS "bytes.splitlines")<|AL<|AV<|CU<|AF y,.m (AS "bytes.splitlines")<|AL<|AV<|CU<|AF z,.t<|FU a,.t<|AJ (By a).flatten,.b<|Gf LA (By a).flatten]
  [(AF x==AF z)=AB,(AF x==AF y)=AB,(AF y==AF z)=AB,H7 T (n+4) (AJ<|AF x) "splitlines"<|AS "bytes.splitlines",Bf T<|Ah<|AS "bytes.splitlines",CP T (n+4) (Ah<|AS "bytes.splitlines") [AJ<|AF x,BZ J]<|AL<|AV<|CU<|AF x,H7 T (n+4) (AJ<|AF y) "splitlines"<|AS "bytes.splitlines",Bf T<|Ah<|AS "bytes.splitlines",CP T (n+4) (Ah<|AS "bytes.splitlines") [AJ<|AF y,BZ J]<|AL<|AV<|CU<|AF y,H7 T (n+4) (AJ<|AF z) "splitlines"<|AS "bytes.splitlines",Bf T<|Ah<|AS "bytes.splitlines",CP T (n+4) (Ah<|AS "bytes.splitlines") [AJ<|AF z,BZ J]<|AL<|AV<|CU<|AF z,
   CP T (n+4) Cd [AL<|AV<|CU<|AF x,AL<|AV<|CU<|AF y,AL<|AV<|CU<|AF z] (FU a),Bf T Cd,CP T (n+4) (Ah<|AH 1020) [FU a]<|AJ (By a).flatten,Bf T<|Ah<|AH 1020,Cg T (n+4) Yi (AJ LA) (AJ (By a).flatten)<|Gf LA (By a).flatten] ⋯
  ⟨l,r,h,DE,A3,DX P.O e,DE,A3,DX P.O d,DE,A3,DX P.O hz,C,i,Qi P.toHN (n+2) a j v u,g,ZG P.O,AI⟩
noncomputable def AGt:AW Rows->DV|none=>BK|some a=>BR a
theorem OX(P:Bw T)(n:Aj)(b o t:DV)(Cd d:DV)(as:I Ja)(cs:I Prop)
  (a:VP (Qy (vS T (n+4) 20 GB) bB (EB [S "base_blob",S "ours_blob",S "theirs_blob",S "make_merge3"] [b,o,t,Cd] [S "m",S "base_content",S "ours_content",S "theirs_content",S "merged_content",S "has_conflicts"]) as)=D (JF d,cs))(e:ER cs):CP T (n+5) (Ah (AH 1034)) [b,o,t,Cd] d:=by
 refine E0 (CS P.toHN 6 1034 1033 (A6 60) (S "merge_blobs") AN ⋯ ⋯ ⋯ B B) λdc pm F=>?_;exact JS P.O F (B9 P.toHN) B (W9 λu v w x=>by kernel_rfl!) ⋯ B (by decide+kernel) ⋯ a e
theorem gG(P:Bw T)(n:Aj)(b:AW Rows)(Cd:DV):CP T (n+5) (Ah (AH 1034)) [AGt b,BK,BK,Cd] (Bi ([],AB)):=
 OX P n (AGt b) BK BK Cd _ [.b J,.b J] [J=J,J=J] ⋯ ⟨B,B,AI⟩
theorem rN(P:Bw T)(n:Aj)(z:Rows)(Cd:DV)(hz:U z.flatten<=AY):CP T (n+5) (Ah (AH 1034)) [BK,BK,BR z,Cd] (Bi (AF z,AB)):=
 OX P n BK BK (BR z) Cd _ [.b J,.b AB,.b J,.b J,.t<|AJ<|AF z] [J=J,AB=AB,J=J,Ey T (n+4) (BR z) (S "data")<|AJ<|AF z,J=J,J=J] ⋯ ⟨B,B,B,DH P n _ _ z hz,B,B,AI⟩
theorem rO(P:Bw T)(n:Aj)(y:Rows)(Cd:DV)(a:U y.flatten<=AY):CP T (n+5) (Ah (AH 1034)) [BK,BR y,BK,Cd] (Bi (AF y,AB)):=
 OX P n BK (BR y) BK Cd _ [.b AB,.b AB,.b J,.b AB,.b J,.t<|AJ<|AF y] [AB=AB,AB=AB,Ey T (n+4) (BR y) (S "data")<|AJ<|AF y,J=J,AB=AB,J=J] ⋯ ⟨B,B,DH P n _ _ y a,B,B,B,AI⟩
theorem XX(P:Bw T)(n:Aj)(y z:Rows)(Cd:DV)(a:U y.flatten<=AY)(hz:U z.flatten<=AY)(h:(AF y==AF z)=J):CP T (n+5) (Ah (AH 1034)) [BK,BR y,BR z,Cd] (Bi (AF y,AB)):=
 OX P n BK (BR y) (BR z) Cd _ [.b AB,.b AB,.b J,.b AB,.b AB,.t<|AJ<|AF y,.t<|AJ<|AF z,.b J,.t<|AJ<|AF y] [AB=AB,AB=AB,Ey T (n+4) (BR y) (S "data")<|AJ<|AF y,Ey T (n+4) (BR z) (S "data")<|AJ<|AF z,Ey T (n+4) (BR y) (S "data")<|AJ<|AF y,(AF y==AF z)=J,AB=AB,AB=AB,J=J] ⋯ ⟨B,B,DH P n _ _ y a,DH P n _ _ z hz,DH P n _ _ y a,h,B,B,B,AI⟩
theorem lN(P:Bw T)(n:Aj)(y z:Rows)(Cd:DV)(a:I Vr)(g:Bf T Cd)(r:CP T (n+4) Cd [AL [],AL (AV (CU (AF y))),AL (AV (CU (AF z)))] (FU a))(i:∀q∈a,lF q)(l:(By a).length<=100000)(j:(By a).flatten.length<=AY)(d:U y.flatten<=AY)(hz:U z.flatten<=AY)(h:(AF y==AF z)=AB):CP T (n+5) (Ah (AH 1034)) [BK,BR y,BR z,Cd] (Bi ((By a).flatten,J)):=by
 have e:=B6 P.toHN 2 1020 1019 (A6 58) (S "_merge3_to_bytes") AN ⋯ ⋯ ⋯ B B;exact OX P n BK (BR y) (BR z) Cd _ [.b AB,.b AB,.b J,.b AB,.b AB,.t<|AJ<|AF y,.t<|AJ<|AF z,.b AB,.t<|AJ<|AF y,.m (AS "bytes.splitlines")<|AL<|AV<|CU<|AF y,.t<|AJ<|AF z,.m (AS "bytes.splitlines")<|AL<|AV<|CU<|AF z,.t<|FU a,.t<|AJ (By a).flatten]
  [AB=AB,AB=AB,Ey T (n+4) (BR y) (S "data")<|AJ<|AF y,Ey T (n+4) (BR z) (S "data")<|AJ<|AF z,Ey T (n+4) (BR y) (S "data")<|AJ<|AF y,H7 T (n+4) (AJ<|AF y) "splitlines"<|AS "bytes.splitlines",Bf T<|Ah<|AS "bytes.splitlines",CP T (n+4) (Ah<|AS "bytes.splitlines") [AJ<|AF y,BZ J]<|AL<|AV<|CU<|AF y,Ey T (n+4) (BR z) (S "data")<|AJ<|AF z,H7 T (n+4) (AJ<|AF z) "splitlines"<|AS "bytes.splitlines",Bf T<|Ah<|AS "bytes.splitlines",CP T (n+4) (Ah<|AS "bytes.splitlines") [AJ<|AF z,BZ J]<|AL<|AV<|CU<|AF z,CP T (n+4) Cd [AL [],AL<|AV<|CU<|AF y,AL<|AV<|CU<|AF z]<|FU a,Bf T Cd,CP T (n+4) (Ah<|AH 1020) [FU a]<|AJ (By a).flatten,Bf T<|Ah<|AH 1020,(AF y==AF z)=AB,AB=AB,AB=AB,J=J] ⋯
  ⟨B,B,DH P n _ _ y d,DH P n _ _ z hz,DH P n _ _ y d,DE,A3,DX P.O d,DH P n _ _ z hz,DE,A3,DX P.O hz,r,g,Qi P.toHN (n+2) a i l j,e,h,B,B,B,AI⟩
theorem XY(P:Bw T)(n:Aj)(x z:Rows)(Cd:DV)(a:U x.flatten<=AY)(hz:U z.flatten<=AY)(h:(AF x==AF z)=J):CP T (n+5) (Ah (AH 1034)) [BR x,BK,BR z,Cd] (Bi ([],AB)):=
 OX P n (BR x) BK (BR z) Cd _ [.b J,.b AB,.b AB,.b J,.b J,.t<|AJ<|AF x,.b AB,.b J,.b J,.t<|AJ<|AF z,.b J,.b J,.b J,.b AB,.b J,.b J] [J=J,AB=AB,AB=AB,FP T (n+4) (BR x) J,Ey T (n+4) (BR x) (S "data")<|AJ<|AF x,J=J,AB=AB,FP T (n+4) (BR z) J,Ey T (n+4) (BR z) (S "data")<|AJ<|AF z,J=J,J=J,J=J,(AF x==AF z)=J,J=J,AB=AB,J=J] ⋯ ⟨B,B,B,Es P,DH P n _ _ x a,B,B,Es P,DH P n _ _ z hz,B,B,B,h,B,B,B,AI⟩
theorem lO(P:Bw T)(n:Aj)(x z:Rows)(Cd:DV)(a:I Vr)(g:Bf T Cd)(r:CP T (n+4) Cd [AL (AV (CU (AF x))),AL [],AL (AV (CU (AF z)))] (FU a))(i:∀q∈a,lF q)(l:(By a).length<=100000)(j:(By a).flatten.length<=AY)(d:U x.flatten<=AY)(hz:U z.flatten<=AY)(h:(AF x==AF z)=AB):CP T (n+5) (Ah (AH 1034)) [BR x,BK,BR z,Cd] (Bi ((By a).flatten,J)):=by have e:=B6 P.toHN 2 1020 1019 (A6 58) (S "_merge3_to_bytes") AN ⋯ ⋯ ⋯ B B;exact OX P n (BR x) BK (BR z) Cd _ [.b J,.b AB,.b AB,.b J,.b J,.t<|AJ<|AF x,.b AB,.b J,.b J,.t<|AJ<|AF z,.b J,.b J,.b J,.b AB,.b J,.b AB,.m (AS "bytes.splitlines")<|AL<|AV<|CU<|AF x,.m (AS "bytes.splitlines")<|AL<|AV<|CU<|AF z,.t<|FU a,.t<|AJ (By a).flatten] [J=J,AB=AB,AB=AB,FP T (n+4) (BR x) J,Ey T (n+4) (BR x) (S "data")<|AJ<|AF x,J=J,AB=AB,FP T (n+4) (BR z) J,Ey T (n+4) (BR z) (S "data")<|AJ<|AF z,J=J,J=J,J=J,H7 T (n+4) (AJ<|AF x) "splitlines"<|AS "bytes.splitlines",Bf T<|Ah<|AS "bytes.splitlines",CP T (n+4) (Ah<|AS "bytes.splitlines") [AJ<|AF x,BZ J]<|AL<|AV<|CU<|AF x,H7 T (n+4) (AJ<|AF z) "splitlines"<|AS "bytes.splitlines",Bf T<|Ah<|AS "bytes.splitlines",CP T (n+4) (Ah<|AS "bytes.splitlines") [AJ<|AF z,BZ J]<|AL<|AV<|CU<|AF z,CP T (n+4) Cd [AL<|AV<|CU<|AF x,AL [],AL<|AV<|CU<|AF z]<|FU a,Bf T Cd,CP T (n+4) (Ah<|AH 1020) [FU a]<|AJ (By a).flatten,Bf T<|Ah<|AH 1020,(AF x==AF z)=AB,J=J,AB=AB,J=J] ⋯ ⟨B,B,B,Es P,DH P n _ _ x d,B,B,Es P,DH P n _ _ z hz,B,B,B,DE,A3,DX P.O d,DE,A3,DX P.O hz,r,g,Qi P.toHN (n+2) a i l j,e,h,B,B,B,AI⟩
theorem Ue(P:Bw T)(n:Aj)(x y:Rows)(Cd:DV)(d:U x.flatten<=AY)(a:U y.flatten<=AY)(h:(AF x==AF y)=J):CP T (n+5) (Ah (AH 1034)) [BR x,BR y,BK,Cd] (Bi ([],AB)):=
 OX P n (BR x) (BR y) BK Cd _ [.b AB,.b AB,.b AB,.b J,.b J,.t<|AJ<|AF x,.b J,.b J,.t<|AJ<|AF y,.b AB,.b AB,.b J,.b AB,.b AB,.b AB,.b J] [AB=AB,AB=AB,AB=AB,FP T (n+4) (BR x) J,Ey T (n+4) (BR x) (S "data")<|AJ<|AF x,J=J,FP T (n+4) (BR y) J,Ey T (n+4) (BR y) (S "data")<|AJ<|AF y,J=J,AB=AB,AB=AB,AB=AB,(AF x==AF y)=J,AB=AB,AB=AB,J=J] ⋯ ⟨B,B,B,Es P,DH P n _ _ x d,B,Es P,DH P n _ _ y a,B,B,B,B,h,B,B,B,AI⟩
theorem cI(P:Bw T)(n:Aj)(x y:Rows)(Cd:DV)(a:I Vr)(i:Bf T Cd)(u:CP T (n+4) Cd [AL (AV (CU (AF x))),AL (AV (CU (AF y))),AL []] (FU a))(j:∀q∈a,lF q)(r:(By a).length<=100000)(l:(By a).flatten.length<=AY)(e:U x.flatten<=AY)(d:U y.flatten<=AY)(h:(AF x==AF y)=AB):CP T (n+5) (Ah (AH 1034)) [BR x,BR y,BK,Cd] (Bi ((By a).flatten,J)):=by have g:=B6 P.toHN 2 1020 1019 (A6 58) (S "_merge3_to_bytes") AN ⋯ ⋯ ⋯ B B;exact OX P n (BR x) (BR y) BK Cd _ [.b AB,.b AB,.b AB,.b J,.b J,.t<|AJ<|AF x,.b J,.b J,.t<|AJ<|AF y,.b AB,.b AB,.b J,.b AB,.b AB,.b AB,.b AB,.m (AS "bytes.splitlines")<|AL<|AV<|CU<|AF x,.m (AS "bytes.splitlines")<|AL<|AV<|CU<|AF y,.t<|FU a,.t<|AJ (By a).flatten] [AB=AB,AB=AB,AB=AB,FP T (n+4) (BR x) J,Ey T (n+4) (BR x) (S "data")<|AJ<|AF x,J=J,FP T (n+4) (BR y) J,Ey T (n+4) (BR y) (S "data")<|AJ<|AF y,J=J,AB=AB,AB=AB,AB=AB,H7 T (n+4) (AJ<|AF x) "splitlines"<|AS "bytes.splitlines",Bf T<|Ah<|AS "bytes.splitlines",CP T (n+4) (Ah<|AS "bytes.splitlines") [AJ<|AF x,BZ J]<|AL<|AV<|CU<|AF x,H7 T (n+4) (AJ<|AF y) "splitlines"<|AS "bytes.splitlines",Bf T<|Ah<|AS "bytes.splitlines",CP T (n+4) (Ah<|AS "bytes.splitlines") [AJ<|AF y,BZ J]<|AL<|AV<|CU<|AF y,CP T (n+4) Cd [AL<|AV<|CU<|AF x,AL<|AV<|CU<|AF y,AL []]<|FU a,Bf T Cd,CP T (n+4) (Ah<|AH 1020) [FU a]<|AJ (By a).flatten,Bf T<|Ah<|AH 1020,(AF x==AF y)=AB,AB=AB,AB=AB,J=J] ⋯ ⟨B,B,B,Es P,DH P n _ _ x e,B,Es P,DH P n _ _ y d,B,B,B,B,DE,A3,DX P.O e,DE,A3,DX P.O d,u,i,Qi P.toHN (n+2) a j r l,g,h,B,B,B,AI⟩
end
def QN(r:I BB):Prop:= ∃x e,r=x++e/\(e=[10] \/e=[13,10])/\ ∀c∈x,(c !=10&&c !=13)=J
def iD(d:Rows):Prop:= ∃a es,d=a++es/\(∀r∈a,QN r)/\(es=[] \/es=[Jv])
theorem iD.sub(g:iD j)(h:qs.Sublist j):iD qs:=by
 (refine Bk g λN es i L G=>?_;subst i)
 (refine Bk (List.sublist_append_iff.mp h) λy u i s1 s2=>?_;subst i)
 refine⟨y,u,B,λr C=>L r<|s1.subset C,?_⟩;rcases G with rfl|rfl
 ·exact Ax<|Vm.mp s2
 ·cases s2 with
  |cons _ s=>exact Ax<|Vm.mp s
  |cons_cons _ s=>rw[Vm.mp s];exact BC B
theorem ADI(x rest:I BB)(c:BB)(g:(c !=10&&c !=13)=AB)(h:∀c∈x,(c !=10&&c !=13)=J):(x++c::rest).takeWhile (λc=>c !=10&&c !=13)=x:=by
 induction x with
 |nil=>rw[Hx,R9,g];rfl
 |cons d x a=>
  rw[Iw,R9,h d<|B0 _];simp only[EU];rw[a λd e=>h d<|Cb _ e]
theorem mR:∀g es d,(∀r∈g,QN r)->(es=[] \/es=[Jv])->(g++es).flatten.length<=d->CT d J (g++es).flatten=g++es:=by
 intro g;induction g with
 |nil=>
  exactλes d _ h i=>by
   rcases h with rfl|rfl
   ·cases d<;>rfl
   ·match d,i with
    |0,i=>simp[Jv]at i
    |k+1,_=>rfl
 |cons r g v=>
  exactλes d L h i=>by
   (refine Bk (L r<|B0 _) λx e C z G=>?_;subst C)
   have e1:(((x++e)::g)++es).flatten=x++(e++(g++es).flatten):=by simp
   rw[e1]at i⊢
   match d,i with
   |0,i=>rcases z with rfl|rfl<;>simp at i
   |k+1,i=>
    have N:=v es k (λq j=>L q<|Cb _ j) h<|by rcases z with rfl|rfl<;>simp at i⊢ <;>omega
    generalize y:(g++es).flatten=rest at*;have:CT (k+1) J (x++(e++rest))=(x++e)::CT k J rest:=by
     rcases z with rfl|rfl
     ·have l:=ADI x rest 10 B G;have u:(x++10::rest).drop (U x)=10::rest:=ZY;show CT (k+1) J (x++10::rest)=_;cases j:x++10::rest with
      |nil=>simp at j
      |cons a q=>
       rw[j]at l u
       conv=>lhs;unfold CT
       simp only[l,u,EU];rfl
     ·have l:=ADI x (10::rest) 13 B G;have u:(x++13::10::rest).drop (U x)=13::10::rest:=ZY;show CT (k+1) J (x++13::10::rest)=_;cases j:x++13::10::rest with
      |nil=>simp at j
      |cons a q=>
       rw[j]at l u
       conv=>lhs;unfold CT
       simp only[l,u,EU]
    rw[this,N];rfl
theorem QO(g:iD rs):CU (AF rs)=rs:=by
 (refine Bk g λd es a h e=>?_;subst a)
 exact mR d es _ h e<|BO _
theorem N1(m:Aa):∀rs k,(D8 m k rs).Sublist rs:=by
 intro rs;induction rs with
 |nil=>
  exactλk=>.slnil
 |cons r rs a=>
  exactλk=>by
   unfold D8;cases Bo m k with
   |true=>exact(a<|k+1).cons_cons r
   |false=>exact(a<|k+1).cons r
def iE(r:I BB):Prop:=Gf LA r=AB/\ ∃x c,r=x++[c] /\c∉LA
theorem sX(q:iE r)(h:Gf LA rest=AB):Gf LA (r++rest)=false:=by
 obtain⟨l,x,c,rfl,u⟩:=q;rw[KW]at h l⊢;intro hs;obtain⟨i,j,t,e⟩:=JT.mp hs;have g:(x++[c]).length=U x+1:=by simp
 rcases jQ i (U x+1)with d|hge
 ·rw[WM<|g▸C7 d]at e;rcases List.append_eq_append_iff.mp e with⟨a,e1,e2⟩|⟨a,e1,e2⟩
  ·exact l<|JT.mpr ⟨i,g▸C7 d,a,e1.symm⟩
  ·refine u ?_;rw[e1,WM<|by exact Ph<|by assumption];simp
 ·rw[List.drop_append,F8<|g▸hge,Hx]at e;exact h<|JT.mpr ⟨i-(x++[c]).length,by rw[Ad]at j;exact RY<|AO j<|B8<|Pb ..,t,e⟩
theorem mS:∀(rs:Rows),(∀r∈rs,iE r)->Gf LA (AF rs)=false:=by
 intro rs;induction rs with
 |nil=>
  exactλ_=>B
 |cons r rs a=>
  exactλh=>by rw[EI];exact sX (h r<|B0 _)<|a λq d=>h q<|Cb _ d
theorem iF{rs:Rows}(h:G9∈rs):Gf LA (AF rs)=true:=by
 (refine E0 (List.append_of_mem h) λa b d=>?_;subst d)
 refine JT.mpr ⟨U a.flatten,?_,?_⟩
 ·simp
 ·rw[Fv,ZY,EI];exact⟨[10] ++AF b,B⟩
structure Fs(R:Rows):Prop where
 nd:R.Nodup
 good:iD R
 run:∀r∈R,iE r
 mq:U R<=90
 short:∀r∈R,U r<=100
theorem mT(hz:aS R z):∀r∈pk R p z,r∈R:= λr d=>by
 unfold pk E7 at d
 (refine Ap (JY d) λj g a=>?_;subst a)
 have e:=hz j (Hv.mp g).1;rw[Al,AR e];exact Ox e
theorem sY(a:R.Nodup)(b o t:Aj)(hz:aS R z):(LD b o t z=J->∀r∈Q3 (pk R (AG b) z) (pk R (AG o) z) (pk R (AG t) z),r∈R)/\(LD b o t z=AB->G9∈Q3 (pk R (AG b) z) (pk R (AG o) z) (pk R (AG t) z)):=by
 unfold Q3 LD;rw[H3 a hz,H3 a hz,H3 a hz];cases Gh z (AG o) (AG t)<;>cases Gh z (AG b) (AG o)<;>cases Gh z (AG b) (AG t)<;>refine⟨λh=>?_,λh=>?_⟩<;>first|exact mT hz|((first|exact nY h|exact Pm h|cases h);done)|skip
 simp
theorem sZ(v:R.Nodup)(b o t:Aj):∀a,(∀q∈a,aS R q.1/\ ∀j,q.2=D j->j<U R)->(NR b o t a=AB->∀r∈J8 R b o t a,r∈R)/\(NR b o t a=J->G9∈J8 R b o t a):=by
 intro a;induction a with
 |nil=>
  exactλ_=>⟨λ_ r hr=>Ay hr Au,λh=>by exact Pm h⟩
 |cons q a d=>
  exactλh=>by
   have i:=d λr hr=>h r<|Cb _ hr;have l:=sY v b o t (h q<|B0 _).1;have e:NR b o t (q::a)=(!LD b o t q.1||NR b o t a):=B;rw[e];rw[QM];refine⟨λha r hr=>?_,λha=>?_⟩
   ·rw[Bool.or_eq_false_iff]at ha;rcases IF hr with hr|hr
    ·rcases IF hr with hr|hr
     ·exact l.1 (by simpa using ha.1) r hr
     ·unfold YC at hr;cases g:q.2 with
      |none=>rw[g]at hr;exact Ay hr Au
      |some j=>
       rw[g]at hr;have u:=(h q<|B0 _).2 j g;rw[Cx hr,Al,AR u];exact Ox u
    ·exact i.1 ha.2 r hr
   ·rw[Pg]at ha;rcases ha with ha|ha
    ·exact Q7 _<|Q7 _<|l.2<|by simpa using ha
    ·exact List.mem_append_right _<|i.2 ha
noncomputable abbrev SD(R:Rows):I Nat:=DL<|U R
theorem TV:aS R (SD R):= λj a=>Mv.mp a
theorem QP(d:R.Nodup)(b o t:Aj)(c:Ba):Jc R b o t (U R+1) 0 [] [] c=((J8 R b o t (E3 R b o t)).flatten,c||NR b o t (E3 R b o t)):=by rw[mQ R b o t (U R) 0 [] [] c<|Yb [_] [] (.a Mr A9) A9 [] [] B B,<-RB];rw[yZ d b o t _ _ _<|sW (keepB b o t) _ _ TV λ_ h=>Ay h Au];simp[E3]
noncomputable def TX(R:Rows)(p:Aj->Ba):I (I Aj×AW Aj)->Rows
 |[] =>[]
 |q::a=>pk R p q.1++YC R q.2++TX R p a
theorem ya:TX R p (q::a)=(pk R p q.1++YC R q.2++TX R p a):=B
theorem YH(K p:Aj->Ba):∀r z,(∀j∈r,K j=J->p j=J)->TX R p (Fq K r z)=pk R p z++pk R p r:=by
 intro r;induction r with
 |nil=>
  exactλz _=>by show pk R p z++[] ++[] =pk R p z++[];simp
 |cons j r a=>
  exactλz h=>by
   unfold Fq;have h':∀i∈r,K i=J->p i=true:= λi d=>h i<|Cb _ d;cases g:K j with
   |true=>
    have hp:=h j (B0 _) g;show pk R p z++[R.getD j []] ++TX R p (Fq K r [])=_;rw[a [] h'];have e:pk R p (j::r)=R.getD j [] ::pk R p r:=by unfold pk E7;rw[Bb,hp];rfl
    rw[e];show pk R p z++[R.getD j []] ++pk R p r=_;simp
   |false=>
    show TX R p (Fq K r<|z++[j])=_;rw[a (z++[j]) h',cx,DN,<-cx];rfl
theorem aT(b o t:Aj)(p:Aj->Ba):∀qs,(∀q∈qs,Q3 (pk R (AG b) q.1) (pk R (AG o) q.1) (pk R (AG t) q.1)=pk R p q.1)->J8 R b o t qs=TX R p qs:=by
 intro qs;induction qs with
 |nil=>
  exactλ_=>B
 |cons q qs a=>
  exactλh=>by rw[QM,ya];rw[h q<|B0 _,a λr d=>h r<|Cb _ d]
theorem iG(b o t:Aj)(a:I (I Aj×AW Aj))(h:∀q∈a,LD b o t q.1=J):NR b o t a=false:=by unfold NR;rw[Uz];intro q d;rw[h q d];simp
theorem yb:∀K r z,∀q∈Fq K r z,(∀j∈q.1,j∈z\/j∈r)/\ ∀j,q.2=D j->j∈r:=by
 intro K r;induction r generalizing K with
 |nil=>
  exactλz q hq=>by rw[Cx hq];exact⟨λj h=>Ax h,λj h=>by exact EN h⟩
 |cons j r a=>
  exactλz q hq=>by
   unfold Fq at hq;cases d:K j with
   |true=>
    rw[d]at hq;rcases DO hq with rfl|hq
    ·exact⟨λi h=>Ax h,λi h=>by obtain rfl:=AE h;exact B0 _⟩
    ·have:=a K [] q hq;exact⟨λi h=>BC<|(this.1 i h).elim (λh=>Ay h Au)<|Cb _,λi h=>Cb _<|this.2 i h⟩
   |false=>
    rw[d]at hq;have:=a K (z++[j]) q hq;refine⟨λi h=>?_,λi h=>Cb _<|this.2 i h⟩;rcases this.1 i h with h|h
    ·rcases IF h with h|h
     ·exact Ax h
     ·exact BC<|Cx h▸B0 _
    ·exact BC<|Cb _ h
theorem N2(b o t:Aj):∀q∈E3 R b o t,aS R q.1/\ ∀j,q.2=D j->j<U R:= λq d=>by have:=yb (keepB b o t) (SD R) [] q d;exact⟨λj a=>TV j<|(this.1 j a).elim (λh=>Ay h Au) id,λj a=>TV j<|this.2 j a⟩
theorem YI(l:R.Nodup)(b o t m:Aj)(c:Ba)(v:(Gh (SD R) (AG o) (AG t)=J/\Gh (SD R) (AG o) (AG m)=J)\/(Gh (SD R) (AG b) (AG o)=J/\Gh (SD R) (AG t) (AG m)=J)\/(Gh (SD R) (AG b) (AG t)=J/\Gh (SD R) (AG o) (AG m)=J)):
  Jc R b o t (U R+1) 0 [] [] c=(Cn R m,c):=by
 have a:∀ {p q:Aj->Ba} {z:I Aj},Gh (SD R) p q=J->aS R z->Gh z p q=true:= λh hz=>DZ.mpr λj r=>(DZ.mp h) j<|U0<|hz j r;have d:∀ {p q:Aj->Ba} {z:I Aj},Gh (SD R) p q=J->aS R z->pk R p z=pk R q z:= λh hz=>Bh.mp<|(cX l hz).mpr<|DZ.mp<|a h hz;have C:∀j∈SD R,keepB b o t j=J->AG m j=true:= λj r h=>by
  unfold keepB at h;simp only[A4]at h;rcases v with⟨_,g⟩|⟨_,g⟩|⟨_,g⟩<;>rw[<-(DZ.mp g) j r]
  ·exact h.1.2
  ·exact h.2
  ·exact h.1.2
 have y:∀q∈E3 R b o t,LD b o t q.1=true:= λq u=>by have hz:=(N2 b o t q u).1;unfold LD;rcases v with⟨i,_⟩|⟨i,_⟩|⟨i,_⟩<;>rw[a i hz] <;>simp
 rw[QP l,iG b o t _ y,dI]
 congr 1
 rw[aT b o t (AG m) _ λq u=>?_]
 ·show(TX R (AG m)<|Fq (keepB b o t) (DL<|U R) []).flatten=_;rw[YH (keepB b o t) (AG m) _ [] C];unfold Cn;rw[HB];rfl
 ·have hz:=(N2 b o t q u).1;unfold Q3;rw[H3 l hz,H3 l hz,H3 l hz];rcases v with⟨i,g⟩|⟨i,g⟩|⟨i,g⟩
  ·rw[a i hz];exact d g hz
  ·rw[a i hz];cases x:Gh q.1 (AG o) (AG t)with
   |true=>rw[<-d g hz];exact Bh.mp<|(H3 l hz).trans x
   |false=>exact d g hz
  ·rw[a i hz];cases x:Gh q.1 (AG o) (AG t)with
   |true=>exact d g hz
   |false=>
    cases G:Gh q.1 (AG b) (AG o)with
    |true=>
     have e:=DZ.mpr λj r=>((DZ.mp G) j r).symm.trans<|(DZ.mp<|a i hz) j r;exact Pm<|x.symm.trans e
    |false=>exact d g hz
theorem aU(G:Fs R)(k l:Aj):(Cn R k==Cn R l)=Gh (SD R) (AG k) (AG l):=by rw[<-H3 G.nd TV,<-HB,<-HB];unfold Cn;rw[Ck,Bh,Bh];exact⟨λh=>by rw[<-QO (G.good.sub<|N1 (k:Aa) R 0),<-QO (G.good.sub<|N1 (l:Aa) R 0),h],λh=>by rw[h]⟩
theorem aV(d:k<2^U R)(a:l<2^U R):Gh (SD R) (AG k) (AG l)=(k==l):=by
 rw[Ck,DZ,Bh];constructor
 ·intro h;refine qS λj=>?_;rcases jQ j (U R)with hj|hj
  ·exact h j<|U0 hj
  ·rw[jW<|Dz d<|Rf (by exact Ej _) hj,jW<|Dz a<|Rf (by exact Ej _) hj]
 ·intro h j _;rw[h]
section
open PySem.Builtin
set_option backward.match.sparseCases true
set_option tactic.hygienic true
theorem wd(P:Rq T)(n:Aj)(d a:DV):CP T (n+1) (EG 2 []) [FI [d,a]] d:=
 cB P (body:=Rp<|ZI 2) (ps:=[S "x"]) (m:=20) (as:=[.t d]) (cs:=[CC T n (FI [d,a]) (AM 0) d]) (B9 P.toHN) ⋯ (λCd code e doc pm=>OR λu=>by kernel_rfl!) ⋯ ⋯ B (by decide+kernel) ⋯ ⋯ ⟨GP 0 B<|by simp,AI⟩
theorem we(P:Rq T)(n:Aj)(k:I BB)(ks:Rows)(ds:I DV)(d:DV)(h:(ks.zip ds).lookup k=D d):CP T (n+1) (EG 3 [EL ks ds]) [AJ k] d:=
 cB P (body:=Rp<|ZI 3) (ps:=[S "name"]) (m:=20) (as:=[.t d]) (cs:=[CC T n (EL ks ds) (AJ k) d]) (B9 P.toHN) ⋯ (λCd code a doc pm=>OR λu=>by kernel_rfl!) ⋯ ⋯ B (by decide+kernel) ⋯ ⋯ ⟨P8 P.O h,AI⟩
theorem wj(P:Rq T)(n:Aj)(b:I BB)(h0:0<U b)(hz:U b<=AY):CP T (n+1) (EG 4 []) [AJ b] (AM ((122-((b.getD 0 0).toNat:Aa)).fdiv 2)):=
 cB P (body:=Rp<|ZI 4) (ps:=[S "name"]) (m:=20) (as:=[.t<|AM ((b.getD 0 0).toNat:Aa)]) (cs:=[CC T n (AJ b) (AM 0)<|AM ((b.getD 0 0).toNat:Aa)]) (B9 P.toHN) ⋯ (λCd code a doc pm=>OR λu=>by kernel_rfl!) ⋯ ⋯ B (by decide+kernel) ⋯ ⋯ ⟨W0 (by exact Av _) (by exact Iz.mpr<|by assumption) hz,AI⟩
end
section
open PySem.Builtin
def Li(T:Th)(n:Aj)(f:Az)(o:K2)(ds:I DV)(o':K2)(d:DV):Prop:=
 ∀A X s F vs R,Le n A->Cm T s->Hs T X s.heap->Ei T X s.heap F o->(∀b∈F,X b)->A8 T s.heap X ds vs->
  (∀v s',(∀a e,¬T.Tab a->a∉F->AA s.heap a=D e->AA s'.heap a=D e)->Cm T s'->Ei T X s'.heap F o'->Tr T s'.heap X d v->R (zr<|N8 v) s')->Mf (M T) A (qB (AH f) ⟨AH (HI F)::vs,[]⟩) R s
noncomputable def QH(x:Bt)(F:I Az)(o:K2)(ps:I Bt)(ds:I DV)(locs ES:I Bt)(xs:I DV):BD:=(x,BP (D F) o)::(EB ps ds locs++ES.zip (Se xs))
noncomputable def gH(F:I Az)(h:Dw)(b:Az):AW Obj:=if b∈F then AQ else AA h b
theorem Z9(O:Cr T){ps locs ES:I Bt}
  (a:Le (n+1) A)(d:Cm T s)(x:Hs T X s.heap)(w:Ei T X s.heap F o)(xF:∀b∈F,X b)(ta:A8 T s.heap X ds vs)(tx:A8 T s.heap X xs ws)(b4:Ds (λc v=>s.heap.IsCell c (D v)) cs ws)(nx:∀c∈cs,¬X c)(d5:cs.Nodup)
  (a8:fd.closure=ES.zip cs)(c4:U ES=U cs)(c3:Su fd.scope ES=J)(hl:U ps=U ds)(b3:((x0::ps)++locs++ES).Nodup)(hk:fd.scope.kind=BY)
  (a5:∀x∈x0::ps,fd.scope.names.lookup x=D .local\/(fd.scope.names.lookup x=D BX/\((B3 0 fd.scope.names []).lookup x).isSome=J))
  (K:∀X₁ s₁,(∀b,X b->X₁ b)->(∀b ob,AA s.heap b=D ob->AA s₁.heap b=D ob)->Sx T n (A.deeper (DS fd (AK s.heap.objs) f)) X₁ (DS fd (AK s.heap.objs) f) (QH x0 F o ps ds locs ES xs) (gH F s.heap) (λy=>if y=x0 then F else []) s₁->Q (DS fd (AK s.heap.objs) f) s₁):
  Ao (M T) A.in1 (LM fd.scope fd.globals fd.closure ((x0,AH (HI F))::ps.zip vs) (fd.qualname++ ".<locals>.") (D f) fd.code AQ fd.builtins) Q E s:=by
 have c2:=ta.length;have c1:∀p∈(x0,AH<|HI F)::ps.zip vs,p.1∈x0::ps:= λp hp=>by
  rcases DO hp with rfl|hp
  ·exact B0 _
  ·exact Cb _ (Df (a:=p.1) (b:=p.2) hp).1
 have c0:=(EH.mp b3).1;have b9:=(EH.mp b3).2.1;have b8:(((x0,AH<|HI F)::ps.zip vs).map CZ).Nodup:=by rw[B4,FJ<|DT [_,_,_] [.e A9 BQ,.e B5 BQ] A9 B5 [1,-1] B hl c2];exact(EH.mp c0).1
 refine XH hk (λp hp=>?_) λenv u s₁ C=>?_
 ·rcases a5 p.1 (c1 p hp)with h|⟨h,h'⟩
  ·exact Ax h
  ·exact BC ⟨h,IT h'⟩
 have a6:DS fd (AK s.heap.objs) f=env:=by rw[u,a8];unfold DS;rw[a8]
 have hL:env.locals=AK s.heap.objs:=by rw[u];rfl
 have hN:∀y,env.kindOf y=fd.scope.names.lookup y:= λy=>by rw[u];rfl
 generalize b2:B3 (AK s.heap.objs+1) fd.scope.names [] =a2 at C u;have hC:env.cells=a2++ES.zip cs:=by rw[u,a8];rfl
 rw[a6]at K;clear u a6;have j:∀b,AK s.heap.objs<=b->AA s.heap b=none:= λb i=>by
  cases e:AA s.heap b with
  |none=>rfl
  |some o'=>exact Ay (BS e)<|G6.mpr i
 have b0:∀y c,a2.lookup y=D c->AK s.heap.objs<c:= λy c hc=>by have:=C.above y c<|BW hc;rwa[hL]at this
 have c5:∀c∈cs,∃o,AA s.heap c=D o:= λc hc=>(by refine I9 (Paired.N4 b4 hc) λv o ho _=>?_;exact⟨o,ho⟩);have b1:∀b,AA s.heap b=AQ->AA T.H1 b=none:= λb i=>(Du d i).1;refine I9 C.done λd7 tk a4 d2=>?_;have l:∀b o,AA s.heap b=D o->AA s₁.heap b=D o:=by rw[a4];exact d2
 have c6:=d.keeps O l (by rw[a4])<|by rw[a4]
 have X0:=x.ext d<|C1.of_keeps l
 let X₁:Az->Prop:= λb=>X b\/b=env.locals\/ ∃y,a2.lookup y=D b
 have a9:∀b,X b->X₁ b:= λb i=>Ax i;refine FW (id C.toInCall.ns) λoL d9 e0 c9 d4 d8=>?_;have a1:∀y c,a2.lookup y=D c->s₁.heap.IsCell c (jE env.kindOf ((x0,AH<|HI F)::ps.zip vs) (λ_=>AQ) y):= λy c hc=>C.cell y c hc;have X1:Hs T X₁ s₁.heap:=⟨λb i=>Ax<|x.tab b i,λb i=>by
  rcases i with i|rfl|⟨y,hy⟩
  ·exact X0.kind b i
  ·exact BC ⟨b1 _<|j _<|by rw[hL];exact BO _,oL,c9,Ax<|by rw[d4];exact K3 B⟩
  ·refine Ap (a1 y b hy) λoc c8 d3=>?_;exact BC ⟨b1 _<|j _<|C7<|b0 y b hy,oc,c8,Ax<|by rw[d3];exact K3 B⟩⟩
 have a3:Up s.heap X s₁.heap X₁:= λb ob e nx=>⟨l b ob e,λq=>by
  rcases q with q|rfl|⟨y,hy⟩
  ·exact nx q
  ·(exact EN<|(j _<|by rw[hL];exact BO _).symm.trans e)
  ·exact EN<|(j _<|C7<|b0 y b hy).symm.trans e⟩
 have c7:∀b∈F,∃ob,AA s.heap b=D ob:= λb i=>(by refine Ap (w.fields b i) λob h _=>?_;exact⟨ob,h⟩);have b7:∀b∈F,b<AK s.heap.objs:= λb i=>(by refine Dx (c7 b i) λ_ h=>?_;exact BS h);have d6:∀b∈F,AA T.H1 b=none:= λb i=>by
  refine Ap (w.fields b i) λob r L=>?_;rcases x.kind b (xF b i)with h|h
  ·exact Ay h<|d.Bn r L
  ·exact h.1
 have DY:∀y∈ES,env.kindOf y=D Bm/\a2.lookup y=none:= λy hy=>by refine F3 (fP c3 y hy) λr L=>?_;exact⟨by rw[hN];exact r,b2▸L _⟩
 have N:∀y c,env.kindOf y=D BX->env.cells.lookup y=D c->a2.lookup y=D c:= λy c r L=>by
  rw[hC,IM]at L;cases e:a2.lookup y with
  |some c'=>(rw[e]at L;cases L);rfl
  |none=>
   rw[e]at L;have:=(O5<|show(ES.zip cs).lookup y=D c from L).1
   (rw[(DY y this).1]at r;cases r)
 have b5:∀y v,(y,v)∈(x0,AH<|HI F)::ps.zip vs->Rd env s₁.heap y v:= λy v hv=>by
  rcases a5 y (c1 _ hv)with h|⟨h,h'⟩
  ·exact Ax ⟨by rw[hN];exact h,_,C.toInCall.ns,OI _ _ b8 hv<|by rw[hN];exact h⟩
  ·refine Dx (SN<|IT (k:=AK s.heap.objs+1) h') λc hc=>?_;rw[b2]at hc;have d0:env.kindOf y≠D .local:=by rw[hN,h];nofun
   exact BC ⟨Ax<|by rw[hN];exact h,c,by rw[hC,IM,hc];rfl,by rw[<-OJ (kf:=env.kindOf) _ (λ_=>AQ) b8 hv d0];exact a1 y c hc⟩
 have b6:∀p∈EB ps ds locs++ES.zip (Se xs),(p.2=Af\/ ∃t,p.2=mw t/\(p.1,mw t)∈ps.zip (Se ds))\/ ∃t,p.2=mw t/\(p.1,mw t)∈ES.zip (Se xs):= λp hp=>by
  rcases IF hp with h|h
  ·exact Ax<|MK h
  ·refine Dx (bX (x:=p.1) (w:=p.2) h) λt e=>?_;exact BC<|CB t e<|e▸h
 have a0:∀ {g} y o',(y,BP g o')∈QH x0 F o ps ds locs ES xs->y=x0:= λ {g} y o' hm=>by
  rcases DO hm with e|hm
  ·cases e;rfl
  ·rcases b6 _ hm with(e|⟨t,e,_⟩)|⟨t,e,_⟩<;>cases e
 refine K X₁ s₁ a9 l ⟨⟨a.deeper env,c6,X1,λp hp=>?_⟩,?_,⟨_,C.toInCall.ns⟩,BC<|Ax B,?_,λy c r L=>⟨⟨_,a1 y c<|N y c r L⟩,Ax ⟨BC<|BC ⟨y,N y c r L⟩,?_⟩⟩,λy z c r L=>?_,λy ow hm b i=>?_,λy z o1 o2 hm d1 _ _ _=>(a0 y o1 hm).trans (a0 z o2 d1).symm,λb ob e _=>?_,λb ob e nt=>?_⟩
 ·rcases DO hp with rfl|hp
  ·refine⟨?_,?_,?_,λG hG=>?_⟩<;>simp only[EU]
   ·exact b5 _ _<|B0 _
   ·exactλb i=>a9 b<|xF b i
   ·exact w.up O a3 λb i ob ho=>l b ob ho
   ·exact AE hG
  ·obtain⟨y,pv⟩:=p;rcases b6 _ hp with(e|⟨t,e,hm⟩)|⟨t,e,hm⟩
   ·dsimp only at e;subst e;trivial
   ·dsimp only at e hm;subst e
    refine Ap (jq ta hm) λv hv tv=>?_;exact⟨v,b5 _ _<|Cb _ hv,tv.up O a3⟩
   ·dsimp only at e hm;subst e
    refine Bk (vx b4 tx hm c4) λc v r L tv=>?_;refine F3 (DY y (Df r).1) λk1 k2=>?_;exact⟨v,BC ⟨BC k1,c,by rw[hC,IM,k2];exact Ro b9 r,L.keeps l⟩,tv.up O a3⟩
 ·have l1:=tx.length.symm;have l2:=NV b4;have:(QH x0 F o ps ds locs ES xs).map CZ=(x0::ps)++locs++ES:=by
   unfold QH EB;rw[B4,Cv,Cv,FJ (l₁:=ps)<|by simp only[Se,Ai];exact B8<|by assumption,FJ (l₁:=ES)<|by simp only[Se,Ai];exact DT [_,_,_,_] [.e A9 BQ,.e B5 Jj,.e BQ Jj] A9 B5 [1,-1,1] B c4 l1 l2,iZ];simp only[Iw]
   congr 3
   exact V9 _
  rw[this];exact b3
 ·unfold gH;split
  ·rfl
  ·exact j _<|by rw[hL];exact BO _
 ·unfold gH;split
  ·rfl
  ·exact j _<|C7<|b0 y c<|N y c r L
 ·have pw:(a2++ES.zip cs).Pairwise λx y=>x.2≠y.2:=nH.mpr ⟨C.apart,ku d5,λp hp q hq e=>by have r:=C.above p.1 p.2 hp;refine Dx (c5 q.2 (Df (a:=q.1) (b:=q.2) hq).2) λo ho=>?_;have:=BS ho;rw[hL]at r;rw[<-e]at this;exact B7 _<|jP r this⟩
  rw[hC]at r L;exact LQ pw r L
 ·obtain rfl:=a0 y ow hm;rw[Dh B]at i;refine⟨by unfold gH;rw[Dh i],λq=>?_,λz c r L q=>?_⟩
  ·have:=b7 b i;rw[q,hL]at this;exact B7 _ this
  ·have l1:=b7 b i;have l2:=b0 z c<|N z c r L;rw[<-q]at l2;exact B7 _<|jP l1 l2
 ·unfold gH at e
  split at e
  ·exact EN e
  ·exact l b ob e
 ·unfold gH;split
  ·rename_i i;exact EN<|(d6 b i).symm.trans e
  ·exact d.ext b ob nt e
end
section
open PySem.Builtin
set_option backward.match.sparseCases true
structure ZM(T:Th)(f:Az)(fd:T1)(ES:I Bt)(cs:I Az)(ws:I Am):Prop where
 obj:∃ob,AA T.H1 f=D ob/\ob.data=IB fd
 tab: ¬T.Tab f
 code:T.H1.CodeRec fd.code fd.qualname
 Te:∀c,fd.code=AH c-> ¬T.Tab c
 dO:fd.globals=Bg
 blt:fd.builtins=FZ
 Cd:fd.closure=ES.zip cs
 cell:Ds (λc v=>T.H1.IsCell c (D v)) cs ws
 cnt:∀c∈cs,¬T.Tab c
 nd:cs.Nodup
 len:U ES=U cs
def AGu(x0:Bt)(F:I Az)(o':K2)(d:DV):Fl->BD->Prop:= λfl pv=>(x0,BP (D F) o')∈pv/\jn d fl pv
theorem ABV:∀ws,A8 T h X (ws.map Ah) ws:=by
 intro ws;induction ws with
 |nil=>
  exact E4
 |cons _ r a=>
  exact Cw (ACX _) a
def AGv(T:Th)(n:Aj)(d:I Ct)(env:Pc)(vars:BD)(st:I Ct)(R:Fl->BD->Prop):Prop:=
 ∀A X Z ad s Q E,Sx T n A X env vars Z ad s->
  (∀fl f a X' Ez s',R fl a->Rj X X' Z->bV T s'.heap X' fl f->Sx T n A X' env a Z Ez s'->Q f s')->
  (∀e a X' Ez s',R mx a->Rj X X' Z->bW T s' e->Sx T n A X' env a Z Ez s'->E e s')->AF0 (M T) A (JH d env) (Ve st env) Q E s
theorem Ex.at{vars:BD}{st:I Ct}(h:Ex T n env vars st R):AGv T n j env vars st R:= λA X Z ad s Q E i K u=>qO<|h A X Z ad s Q E i K u
theorem gJ(O:Cr T){ps locs ES:I Bt}(g:ZM T f fd ES cs ws)(y:fd.body=KS body)(hl:U ps=U ds)
  (z:∀u vs,U vs=U ps->CG fd ⟨u::vs,[]⟩=Ce ((x0,u)::ps.zip vs))(a3:((x0::ps)++locs++ES).Nodup)(hs:O6 fd.scope ES=J)(hf:Su fd.scope ES=J)
  (a2:(x0::ps).all (λx=>kG (CY x fd.scope.names))=J)
  (a8:∀F L,AGv T n body (DS fd L f) (QH x0 F o ps ds locs ES (ws.map Ah)) body (AGu x0 F o' d)):Li T (n+1) f o ds o' d:=by
 intro A X s F vs R a i x w xF ta K;refine NZ (Nu hs) λh2 h3 h4=>?_;have Q:=ta.length;refine Ap g.obj λob o1 o2=>?_;have a9:s.heap.CodeRec fd.code fd.qualname:=by refine EX g.code λc oc fs t e1 e2 e3=>?_;exact⟨c,oc,fs,t,e1,i.ext _ _ (g.Te c e1) e2,e3⟩
 have G:Ds (λc v=>s.heap.IsCell c<|D v) cs ws:=Paired.imp g.cell λc v hc a5=>(by refine Ap a5 λoc e1 e2=>?_;exact⟨oc,i.ext _ _ (g.cnt c hc) e1,e2⟩);have a1:∀c∈cs,¬X c:= λc hc q=>by
  rcases x.kind c q with h|⟨h,_⟩
  ·exact g.cnt c hc h
  ·refine I9 (Paired.N4 g.cell hc) λv oc e1 _=>?_;exact EN<|h.symm.trans e1
 refine Dt a.room (i.ext _ _ g.tab o1) o2 h2 h3 y a9 ?_;rw[z _ vs<|by rw[Q,hl]];refine AP ?_;refine Z9 (ES:=ES) (cs:=cs) (locs:=locs) O a i x w xF ta (ABV ws) G a1 g.nd g.Cd g.len hf hl a3 h4 (tZ a2) λa0 N C a4 j=>?_;refine⟨(i.lim O).keeps a4,ks_codeAny_funcAt ?_⟩;refine a8 F (AK s.heap.objs) _ a0 _ _ N _ _ j (λfl b0 r X' Ez s' hr hx a6 S'=>?_) λe r X' Ez s' hr=>hr.2.elim;refine F3 hr λhm hr=>?_;refine FD (S'.f _ hm) λ_ xa w' fx=>?_;have eF:=fx F B;rw[eF]at w' xa;have ext:∀a ob,¬T.Tab a->a∉F->AA s.heap a=D ob->AA s'.heap a=D ob:= λb ob nt nF e=>S'.wr.keep b ob (by unfold gH;rw[CQ nF];exact e) nt;have l:Up s'.heap X' s'.heap X:=Up.less λb hb=>by
  by_cases hF:b∈F
  ·exact xa b hF
  ·rcases x.kind b hb with h|⟨_,ob,ho,_⟩
   ·exact S'.x.tab b h
   ·exact hx.up b (C b hb)<|by unfold gH;rw[CQ hF,ho];exact SR
 have w2:=w'.up O l λ_ _ _ h=>h;cases a6 with
 |next=>obtain rfl:d=BK:=hr;exact K AN s' ext S'.inv w2 YU
 |brk=>exact hr.elim
 |cont=>exact hr.elim
 |ret t=>cases hr;exact K _ s' ext S'.inv w2<|t.up O l
theorem wm(O:Cr T){ps locs ES:I Bt}(a:ZM T f fd ES cs ws)(e:fd.body=KS body)(l:U ps=U ds)
  (g:∀u vs,U vs=U ps->CG fd ⟨u::vs,[]⟩=Ce ((x0,u)::ps.zip vs))(i:((x0::ps)++locs++ES).Nodup)(hs:O6 fd.scope ES=J)(q:Su fd.scope ES=J)
  (h:(x0::ps).all (λx=>kG (CY x fd.scope.names))=J)
  (j:∀F L,Ex T n (DS fd L f) (QH x0 F o ps ds locs ES (ws.map Ah)) body (AGu x0 F o' d)):Li T (n+1) f o ds o' d:=
 gJ O a e l g i hs q h λF L=>(j F L).at
theorem Fd(F:Pt T f fd):ZM T f fd [] [] [] :=⟨F.obj,F.tab,F.code,F.Te,F.dO,F.blt,F.Cd,QV,IL,PE,B⟩
end
section
open PySem.Builtin PySem.Builtin.ObjectAttr
noncomputable def RF(x:Bt):I Bt->I Bt
 |[] =>[x]
 |n::r=>match Jm x n with|true=>n::r|false=>n::RF x r
theorem wo:RF x (n::r)=(match Jm x n with|true=>n::r|false=>n::RF x r):=B
noncomputable def Lj(x:Bt)(v:a):I Bt->I a->I a
 |[],_=>[v]
 |n::r,y::ys=>(match Jm x n with|true=>v::ys|false=>y::Lj x v r ys)
 |_::_,[] =>[v]
theorem zC:Lj x v [] a=([v]):=B
theorem zA:Lj x v (n::r) (y::ys)=((match Jm x n with|true=>v::ys|false=>y::Lj x v r ys)):=B
theorem wq:Lj x v (d::a) [] =([v]):=B
abbrev isN(e:az)(n:Bt):Prop:= ∃t,e.key=Bz n t
theorem gL(f0:isN (f AQ) x/\(f AQ).val=v)(i:∀e,f (D e)= {e with val:=v}):∀ {es:I az} {ns:I Bt},Ds isN es ns->
  (uO (AK x.cps) x.cps.toList f es).1.map (·.val)=Lj x v ns (es.map (·.val))/\Ds isN (uO (AK x.cps) x.cps.toList f es).1 (RF x ns)/\(uO (AK x.cps) x.cps.toList f es).1.length<=U es+1
 |_,_,QV=>⟨by simp[uO,Lj,f0.2],QW f0.1 QV,BO _⟩
 |_,_,QW (a:=e) (b:=n) (l₁:=es) (l₂:=ns) ⟨g,d⟩ r=>by
  refine NZ (gL f0 i r) λl j q=>?_;have hs:e.key.isStrByCps (AK x.cps) x.cps.toList=Jm x n:=by rw[Value.isStrByCps_eq,d];show(n==x)=_;rw[Tj];rw[Ck,sEq_iff,sEq_iff];exact AFK
  (unfold uO;rw[wo])
  simp-iota only[B4,zC,zA,wq];cases h:Jm x n with
  |true=>
   rw[h]at hs;simp-iota only[hs,EU,i];exact⟨B,QW ⟨g,d⟩ r,by simp⟩
  |false=>
   rw[h]at hs;simp-iota only[hs,DW,Ho];refine⟨by simp only[B4,l],QW ⟨g,d⟩ j,by simp only[Ac];exact Dk<|by assumption⟩
theorem lP(d:Ds isN es ns):
  ∃es' a,qP x h (Bz x t) v (Hl es m)=Hl es' a/\es'.map (·.val)=Lj x v ns (es.map (·.val))/\Ds isN es' (RF x ns)/\U es'<=U es+1:=by
 unfold qP
 dsimp only[Hl]
 split<;>
 ·rename_i e
  have q:=BI CZ e
  dsimp only at q
  refine(RD _ _ B ?_);rw[<-q];exact gL ⟨⟨t,B⟩,B⟩ (λe=>B) d
theorem wt(h:Ds isN es ns):es.any (·.refKey)=false:=by
 induction h with
 |nil=>rfl
 |cons a r d=>
  refine Dx a λt e=>?_;rw[G5,d,dI];unfold AKP;rw[e]
theorem gM{K:Frag}(X:K.In s.heap)(g:JA s.heap a j C ns vs)
  (hs:Hq K (AH C) "__setattr__" =D (D (AS "object.__setattr__")))(hp:plainOver K C=J)(ht:AFL K C name=D AQ)(hh:(clsIn K C).any (·.hasDict)=J)(hz:U vs<=100)(r:a≠j)
  (k:∀h' tk,JA h' a j C (RF name ns) (Lj name v ns vs)->Hg j s.heap h'->Q () {s with heap:=h',toks:=tk}):Ao (M T) A (setAttr (AH a) name v) Q E s:=by
 refine EJ g λes m G y q L N=>?_;have d:InstAt s.heap a ⟨AH C,D j,tN,G⟩ C (D<|Hl es m):=⟨y,B,B,q⟩;refine set_plain X d hs<|osa_open (s:= {s with toks:=s.toks+1}) X d hp ht λb=>?_;refine Ap (any_some hh) λcd hc u=>?_;refine AD<|AP<|AD<|AD<|AIq y<|AD<|Looks.here (s:= {s with toks:=s.toks+1}) (looks_clsIn X hc) ?_;rw[u];refine AP (a:=D j)<|AD<|AP<|AD ?_;unfold nsSet;refine AD<|AD<|wpAny_askSetting<|AP<|AD<|AKM<|AD<|AIq q ?_
 dsimp only
 have c:aRefKeyMayBeTheName name (AU es)=false:=by rw[aRefKeyMayBeTheName_at];have:=wt N;rw[show(es.toArray.any λx=>x.refKey)=es.any (·.refKey) by rw[<-Array.any_toList],this,ACd]
 rw[c];refine BU (lP (x:=name) (h:=if name.cps.isEmpty=J then 0 else reduceHash ((Gi prog T.w).w.params.strHash name.cps)) (t:=s.toks+1) (v:=v) (m:=m) N) λz m' i p1 p2 p3=>?_;have hl:U es=U vs:=by rw[<-L,Ai]
 generalize qP name (if name.cps.isEmpty=J then 0 else reduceHash ((Gi prog T.w).w.params.strHash name.cps)) (Bz name<|s.toks+1) v=f at i⊢;refine B2 (Bc CD) ?_;have O:=i▸Dm f q (by rw[i];rfl);refine wpAny_updatePart q ?_;refine AD<|wpAny_lookBehind O (pastItsLine_dict<|by rw[Ab,Ak];exact DT [_,_,_] [.l A9<|.n 100,.l BQ<|.a B5 DB,.e B5 A9] BQ (.a (.n 16777216) DB) [1,1,1] B hz p3 hl) ?_;refine AP<|k _ _ ⟨z,m',G,(Heap.get?_update_ne _ _ _ _ r).trans y,O,?_,p2⟩<|Dy ..;rw[p1,L]
structure J4(K:Frag)(C:Az):Prop where
 set:Hq K (AH C) "__setattr__" =D (D (AS "object.__setattr__"))
 over:plainOver K C=J
 dict:(clsIn K C).any (·.hasDict)=J
 ga:Hq K (AH C) "__getattribute__" =D (D (AS "object.__getattribute__"))
 AJd:Hq K (AH C) "__getattr__" =D AQ
 makes:makesIn K C=J
theorem A8.put(t:Tr T h X d v):∀ {ns:I Bt} {ds:I DV} {vs:I Am},A8 T h X ds vs->A8 T h X (Lj x d ns ds) (Lj x v ns vs):=by
 intro ns;induction ns with
 |nil=>exactλ_=>Cw t E4
 |cons m r i=>
  intro ds vs q;cases ds with
  |nil=>obtain rfl:=q.inv;exact Cw t E4
  |cons e ds=>
   obtain⟨_,_,rfl,a,q⟩:=q.inv;unfold Lj;cases Jm x m with
   |true=>exact Cw t q
   |false=>exact Cw a<|i q
theorem JA.ADO(h:Cm T s)(x:JA s.heap a dx C ns vs): ¬T.Tab a/\ ¬T.Tab dx:=by
 (refine nR x.soft λi o' u j=>?_;obtain⟨o,G,y⟩:=i)
 exact⟨h.Bn G y,h.Bn u j⟩
theorem gN(P:Bw T)(hk:env.scope.kind=BY)(hn:C9 x=J)(hx:pv.lookup x=D (BP f (DP C ns ds)))
  (hC:J4 (KT T) C)(ht:AFL (KT T) C attr=D AQ)(he:Ev T n env pv e d)(hz:U ds<=100)(k:R Aq (D3 x (BP f (DP C (RF attr ns) (Lj attr d ns ds))) pv))
  (hs:HC e (D (CO (Bu x p) attr N)) pos.line env=Ce false:=by rfl):SX T n env pv (Fg [CO (Bu x p) attr N] e pos) R:=by
 intro A X Z ad s Q E g K KE;refine ZW (he A X ad s _ E g.toAr λv s₁ u h y=>?_) hs;have i:=g.ext P.O u h;refine JB i hx hk hn λw xa=>?_;refine EJ w λa L vs eF z hI ta=>?_;have hm:HI (ad x)=a:=by rw[eF];rfl
 rw[hm];have hl:=ta.length;refine gM (J3 P h) hI hC.set hC.over ht hC.dict (DT [_,_] [.l A9<|.n 100,.e BQ A9] BQ (.n 100) [1,1] B hz hl) z λh' tk a1 hs=>?_;refine F3 (JA.ADO h hI) λa2 a0=>?_;have ha:a∈ad x:=by rw[eF];simp
 have hd:L∈ad x:=by rw[eF];simp
 have I':Cm T {s₁ with heap:=h',toks:=tk} :=by
  refine nR hI.soft λ_ od h3 h4=>?_;rcases i.x.kind L (xa L hd)with q|⟨h1,_⟩
  ·exact Ay q a0
  ·exact h.turn (s':= {s₁ with heap:=h',toks:=tk}) P.O h1 (λo j=>by obtain rfl:=AE<|h3.symm.trans j;exact Ax h4) λb o ne j=>hs.extBut b o ne j
 have up:Up s₁.heap X h' X:= λb o j nx=>⟨hs.extBut b o (λq=>nx<|q▸xa L hd) j,nx⟩;have hX:∀b,Jn X (ad x) b->X b:= λb r=>r.elim id<|xa b;obtain⟨S',hu⟩:=i.JD (s':= {s₁ with heap:=h',toks:=tk}) (F':=ad x) (o':=DP C (RF attr ns)<|Lj attr d ns ds) (f':=f) P.O (En hx) I' (λb o _ r j=>hs.extBut b o (λq=>r<|q▸hd) j) B (λb r=>Ax r) (λb r=>r)
  ⟨a,L,_,eF,z,a1,(A8.put (y.up P.O up)<|ta.up P.O up).less P.O hX⟩ (λG hG=>by refine FD (g.f _<|En hx) λ_ _ _ fx=>?_;exact fx G hG)
 exact K Aq HK _ _ _ _ k hu Mg S'
section
variable(dc pm:Nat->Value)(hs:Nat->Nat->Int)
theorem XZ:J4 (KX dc pm hs) 512:=⟨by kernel_rfl!,by kernel_rfl!,by kernel_rfl!,by kernel_rfl!,by kernel_rfl!,by kernel_rfl!⟩
theorem Vv:J4 (KX dc pm hs) 1087:=⟨by kernel_rfl!,by kernel_rfl!,by kernel_rfl!,by kernel_rfl!,by kernel_rfl!,by kernel_rfl!⟩
theorem L1:J4 (KX dc pm hs) 1129:=⟨by kernel_rfl!,by kernel_rfl!,by kernel_rfl!,by kernel_rfl!,by kernel_rfl!,by kernel_rfl!⟩
theorem ot:J4 (KX dc pm hs) 1198:=⟨by kernel_rfl!,by kernel_rfl!,by kernel_rfl!,by kernel_rfl!,by kernel_rfl!,by kernel_rfl!⟩
end
end
section
open PySem.Builtin PySem.Builtin.ObjectAttr
set_option backward.match.sparseCases true
noncomputable def O7(e:Ct):Expr:=if h:e.ctorIdx=5 then Gs (motive_2:= λ_=>A2) e h λa _ _=>(match a with|t::_=>t|_=>XC)else XC
noncomputable def O8(e:A2):Expr:=if h:e.ctorIdx=20 then EW (motive_1:= λ_=>A2) e h λo _ _=>o else e
noncomputable def JM(e:A2):Pos:=if h:e.ctorIdx=20 then EW (motive_1:= λ_=>LH) e h λ_ _ p=>p else BN
noncomputable def Hc(e:A2):Pos:=if h:e.ctorIdx=23 then H5 (motive_1:= λ_=>LH) e h λ_ p=>p else BN
noncomputable def Rv(e:Ct):Pos:=if h:e.ctorIdx=5 then Gs (motive_2:= λ_=>LH) e h λ_ _ p=>p else BN
noncomputable def QI(x attr:Bt)(st:Ct):Stmt:=Fg [CO (Bu x<|Hc<|O8<|O7 st) attr<|JM<|O7 st] (Hz st)<|Rv st
theorem lQ(h:Qd a=J):HC a (D (CO (Bu x p) attr d)) l env=Ce false:=by cases a<;>first|rfl|(cases h;done)
theorem gO(P:Bw T){st:Ct}(a:st=QI x attr st)(i:C9 x=J)(g:CY x pv=D (BP f (DP C ns ds)))
  (q:J4 (KT T) C)(h:AFL (KT T) C attr=D AQ)(e:Qd (Hz st)=J)(j:Gm (vE T n 20 G pv (Hz st) as)=D (d,cs))(l:ER cs)(hz:EV (U ds) 100=J):Fn T n G pv st Aq (D3 x (BP f (DP C (RF attr ns) (Lj attr d ns ds))) pv):= λenv K=>by
 rw[a];exact gN P K.kind i (FF▸g) q h ((Io P.O K 20).1 _ _ _ _ _ (HM j) l) (Be hz) ⟨B,B⟩<|lQ e
noncomputable abbrev C6:Str:=S "self"
theorem aA:D3 x v ((x,w)::r)=(x,v)::r:=by show(bif Jm x x then(x,v)::r else(x,w)::D3 x v r)=_;rw[show Jm x x=J from sEq_iff.mpr B];rfl
theorem HO(P:Bw T)(ns:I Bt)(ds:I DV){st:Ct}(l:J4 (KT T) C)(a:st=QI C6 attr st)(g:AFL (KT T) C attr=D AQ)(e:Qd (Hz st)=J)
  (i:Gm (vE T n 20 G ((C6,BP (D F) (DP C ns ds))::rest) (Hz st) as)=D (d,cs))(j:ER cs)(hz:EV (U ds) 100=J):Fn T n G ((C6,BP (D F) (DP C ns ds))::rest) st Aq ((C6,BP (D F) (DP C (RF attr ns) (Lj attr d ns ds)))::rest):=by
 have h:=gO P (pv:=(C6,BP (D F)<|DP C ns ds)::rest) (f:=D F) a ⋯ (Zf _ _ _) l g e i j hz;rwa[aA]at h
theorem Ko(O:Cr T){ps locs ES Fe:I Bt}{EA:I Az->BD}(a:ZM T f fd ES cs ws)(W:∀x d,glob x=D d->Kj T x d)(e:fd.body=KS body)(r:U ps=U ds)
  (g:∀u vs,U vs=U ps->CG fd ⟨u::vs,[]⟩=Ce ((x0,u)::ps.zip vs))(i:((x0::ps)++locs++ES).Nodup)(hs:O6 fd.scope ES=J)(v:Su fd.scope ES=J)
  (h:(x0::ps).all (λx=>kG (CY x fd.scope.names))=J)
  (j:∀F,Ge T n ⟨fd.scope.names,glob,Fe,AQ⟩ (QH x0 F o ps ds locs ES (ws.map Ah)) body fl (EA F))(q:∀F,CY x0 (EA F)=D (BP (D F) o'))(l:jn d fl []):Li T (n+1) f o ds o' d:=
 wm O a e r g i hs v h λF L=>(j F (DS fd L f)<|JC hs a.Cd a.len a.dO a.blt W).weak λy pv ⟨e1,e2⟩=>by subst e1 e2;exact⟨FQ<|q F,l⟩
theorem cJ(h:∀u,CG fd ⟨[u],[]⟩=Ce [(x0,u)]):∀u vs,U vs=([]:I Bt).length->CG fd ⟨u::vs,[]⟩=Ce ((x0,u)::([]:I Bt).zip vs):= λu vs a=>by exact ka (P:= λvs=>CG fd ⟨u::vs,[]⟩=Ce ((x0,u)::([]:I Bt).zip vs)) (h u) vs a
theorem Vw(h:∀u v,CG fd ⟨[u,v],[]⟩=Ce [(x0,u),(a,v)]):∀u vs,U vs=[a].length->CG fd ⟨u::vs,[]⟩=Ce ((x0,u)::[a].zip vs):= λu vs d=>by exact US (P:= λvs=>CG fd ⟨u::vs,[]⟩=Ce ((x0,u)::([a]:I Bt).zip vs)) (λv=>ka (P:= λvs=>CG fd ⟨u::v::vs,[]⟩=Ce ((x0,u)::([a]:I Bt).zip (v::vs)))<|h u v) vs d
theorem ABX(h:∀u v w,CG fd ⟨[u,v,w],[]⟩=Ce [(x0,u),(a,v),(b,w)]):∀u vs,U vs=[a,b].length->CG fd ⟨u::vs,[]⟩=Ce ((x0,u)::[a,b].zip vs):= λu vs d=>by exact US (P:= λvs=>CG fd ⟨u::vs,[]⟩=Ce ((x0,u)::([a,b]:I Bt).zip vs)) (λv=>US (P:= λvs=>CG fd ⟨u::v::vs,[]⟩=Ce ((x0,u)::([a,b]:I Bt).zip (v::vs))) λw=>ka (P:= λvs=>CG fd ⟨u::v::w::vs,[]⟩=Ce ((x0,u)::([a,b]:I Bt).zip (v::w::vs)))<|h u v w) vs d
noncomputable def wu:I Stmt:=Cc<|Bl 39 1
theorem wy(P:Bw T)(n:Aj):Li T (n+1) 358 (DP 512 [] []) [] (DP 512 GZ [BK,BK,BZ J,Ah (AH 111)]) BK:=by refine E0 (CS P.toHN 60 358 357 (Bl 39 1) (S "ShaFile.__init__") AN ⋯ ⋯ ⋯ B B) λdc pm F=>?_;have C:=XZ (λa=>K9<|AA T.H1 a) (λa=>Vs<|AA T.H1 a) λa=>Vt<|AA T.H1 a;refine Ko P.O (x0:=C6) (ps:=[]) (locs:=[]) (ES:=[]) (Fe:=[]) (Fd F) (B9 P.toHN) B B (cJ λu=>by kernel_rfl!) (by decide+kernel) ⋯ ⋯ ⋯ (fl:=Aq) (EA:= λF=>[(C6,BP (D F)<|DP 512 GZ [BK,BK,BZ J,Ah<|AH 111])]) (λF=>?_) (λF=>by kernel_rfl!) B;refine A7 0 wu (BE:=[(C6,BP (D F)<|DP 512 [] [])]) ⋯ (As [] [] P.O ⋯ AI) ?_;refine A7 1 wu ⋯ (HO P [] [] (attr:=S "_sha") (d:=BK) (as:=[]) (cs:=[]) C ⋯ ⋯ ⋯ ⋯ AI B) ?_;refine A7 2 wu ⋯ (HO P [S "_sha"] [BK] (attr:=S "_chunked_text") (d:=BK) (as:=[]) (cs:=[]) C ⋯ ⋯ ⋯ ⋯ AI B) ?_;refine A7 3 wu ⋯ (HO P [S "_sha",S "_chunked_text"] [BK,BK] (attr:=S "_needs_serialization") (d:=BZ J) (as:=[]) (cs:=[]) C ⋯ ⋯ ⋯ ⋯ AI B) ?_;refine Cq (s1:=BA 4 wu) (r:=[]) ⋯ (HO P [S "_sha",S "_chunked_text",S "_needs_serialization"] [BK,BK,BZ J] (attr:=S "object_format") (d:=Ah<|AH 111) (as:=[]) (cs:=[]) C ⋯ ⋯ ⋯ ⋯ AI B) ?_;exact Ea B
end
section
open PySem.Builtin PySem.Builtin.ObjectAttr
noncomputable def QJ:I Stmt:=Cc<|Bl 40 3
noncomputable def AC8:GV:=⟨(D2<|Bl 40 3).names,HA,[],AQ⟩
noncomputable def mr:Str:=S "__class__"
noncomputable def Xa(e:Ct):Pos:=if h:e.ctorIdx=24 then PF (motive_2:= λ_=>LH) e h λ_ p=>p else BN
noncomputable def Ka(e:A2):Pos:=if h:e.ctorIdx=16 then Dr (motive_1:= λ_=>LH) e h λ_ _ _ p=>p else BN
noncomputable def OY(st:Ct):Stmt:=NC (El (CO (El (Bu "super"<|Hc<|KO<|O8<|KO<|OE st) [] []<|Ka<|O8<|KO<|OE st) "__init__"<|JM<|KO<|OE st) [] []<|Ka<|OE st)<|Xa st
noncomputable def ABY:Arg:=((SO<|Bl 40 3).args.head?).getD ⟨BN,AQ,BN⟩
theorem OZ(h:U4 o=⟨Ae "code",AQ,BF fs,#[]⟩):o.data=BF fs:=BI ADW<|L8 h B B
theorem wz(h:U4 o=⟨Ae "cell",AQ,mu v,#[]⟩):o.data=mu v:=BI ADW<|L8 h B B
theorem gP(P:Bw T){M:jA}(d:Cm T s)(C:Az):Looks M s.heap (opaqueClassAbove (AH C)) none:=by
 (refine Ap P.yy λmc e i=>?_;obtain⟨o,es,j,g,r⟩:=e)
 have h:s.heap.Ns iz mc:=⟨o,es,j,d.ext _ _ P.O.ACT g,r⟩;refine Looks.andThen (a:=AB) (λA Q E s' k q=>?_)<|by show Looks M s.heap (if(!AB)=J then Ce AQ else _) AQ;rw[Dh<|show(!AB)=J from B];exact qC
 refine AD<|wpAny_nsGet (m:=mc) (h.keeps k) ?_;rw[i];exact AP q
theorem rP(P:Bw T):∃dc pm,ZM T 454 (GX (LP (Bl 40 3) (S "Blob.__init__") [(mr,442)] AN (AH 453) (AH 447)) dc pm) [mr] [442] [AH 512] :=by refine Hr (Zu P.toHN (a:=454) (c:=453) (st:=Bl 40 3) (q:=S "Blob.__init__") (dflt:=AN) (ct:=AH 447) (Cd:=[(mr,442)]) (fs:= #[]) (BJ (i:=70) ⋯)<|DI.ok B) λdc pm x g d=>?_;refine Ap (P.Tf 453 ⟨Ae "code",AQ,BF<|ED 71,#[]⟩<|BJ (i:=71) ⋯) λv r l=>?_;refine Ap (P.Tf 442 ⟨Ae "cell",AQ,mu<|D<|AH 512,#[]⟩<|BJ (i:=88) ⋯) λu j h=>?_;refine⟨dc,pm,(CB x g d),λq=>DI.ok B<|(P.tab _).mp q,⟨453,v,_,923,B,r,OZ l,by kernel_rfl!⟩,λc e=>by cases e;exactλq=>DI.ok (a:=453) B<|(P.tab _).mp q,B,B,B,QW ⟨u,j,wz h⟩ QV,λc y=>by rw[Cx y];exactλq=>DI.ok (a:=442) B<|(P.tab _).mp q,by simp,B⟩
theorem Xb(a:∀b∈F,X b):Up h X h (Jn X F):=Up.less λb d=>d.elim id<|a b
theorem rQ(P:Bw T)(j:ZM T 454 (GX (LP (Bl 40 3) (S "Blob.__init__") [(mr,442)] AN (AH 453) (AH 447)) dc pm) [mr] [442] [AH 512])(r:env=DS (GX (LP (Bl 40 3) (S "Blob.__init__") [(mr,442)] AN (AH 453) (AH 447)) dc pm) L 454)
  {ad:Bt->I Az}(d:Sx T (n+1) A X env pv Z ad s)(hx:CY C6 pv=D (BP f (DP 512 [] [])))
  (K:∀X' Ez s',Rj X X' Z->Sx T (n+1) A X' env (D3 C6 (BP f (DP 512 GZ [BK,BK,BZ J,Ah (AH 111)])) pv) Z Ez s'->Q HK s'):AF0 (M T) A (JH d4 env) (exec (OY (BA 1 QJ)) env) Q E s:=by
 have hm:=FQ hx;refine FD (d.f _ hm) λrx xa w fx=>?_;refine EJ (id w) λa dx vs eF d8 hI ta=>?_
 dsimp only at rx xa w
 have c5:HI (ad C6)=a:=by rw[eF];rfl
 refine Ap j.obj λob b0 a9=>?_;obtain⟨cc,oc,fs,t,e1,e2,e3,e4⟩:=j.code;cases e1;refine Ap (P.Tf 453 ⟨Ae "code",AQ,BF<|ED 71,#[]⟩<|BJ (i:=71) ⋯) λd7 d2 d1=>?_;have a0:env.scope.kind=BY:=by rw[r];kernel_rfl!
 have b2:env.kindOf "super" =D IP:=by rw[r];kernel_rfl!
 have b3:env.kindOf "__class__" =D Bm:=by rw[r];kernel_rfl!
 have b4:env.kindOf C6=D .local:=by rw[r];kernel_rfl!
 have c6:env.globals=mainGlobals:=by rw[r];rfl
 have c7:env.builtins=builtinsNs:=by rw[r];rfl
 have d0:env.cells.lookup mr=D 442:=by rw[r];kernel_rfl!
 have KI:=J3 P d.inv;have a1:∀b,DI b=J-> ¬T.Tab b:= λb h q=>DI.ok h<|(P.tab _).mp q;have a2:s.heap.IsCell 442 (D<|AH 512):=by
  cases j.cell with
  |cons h _=>refine Ap h λoz z1 z2=>?_;exact⟨oz,d.inv.ext _ _ (a1 442 B) z1,z2⟩
 refine FW (id hI) λd3 kI sl c9 c8 _=>?_;have l:InstAt s.heap a ⟨AH 512,D dx,tN,sl⟩ 512 (D<|Hl d3 kI):=⟨c9,B,B,c8⟩;have SI:=d.inv;have c1:∃m,s.heap.Ns env.locals m/\m C6=D (AH a):=by
  rcases rx with⟨_,m,h1,h2⟩|⟨h,_⟩
  ·exact(CB m h1<|c5▸h2)
  ·rw[b4]at h;rcases h with h|h<;>cases h
 refine Ap c1 λm c3 c4=>?_;refine Bk (show∃cd oD,clsIn (KT T) 512=D cd/\(AA s.heap 512=D oD/\oD.data=YS cd)from(Ki ((clsIn (KT T) 512).getD BN) (((KT T).lookup 512).getD BN) ⋯ (KI _ _ ⋯) ⋯)) λcd oD a3 b6 b5=>?_;have N:=ks_ne KI l a3;unfold OY;refine ks_wpAt_Expr_any (ks_wpAt_MethodCall ?_ B)<|by unfold PU;rw[a0];rfl
 refine ks_wpAt_super_base (ar:=ABY) (vs:=ED 71) (file:= "/claim/cut.py") (tf:=924) b2 b3 (by decide+kernel) (by rw[r];rfl) (d.inv.ext _ _ j.tab b0) a9 ⋯ (by rw[r];rfl) (d.inv.ext _ _ (a1 453 B) d2) (OZ d1) ⋯ ⋯ ⋯ ?_;refine ks_loadName_global a0 b2<|WC (by rw[c6];exact SI.g P.O) (P.glob "super" AQ<|FQ ⋯) (by rw[c7];exact SI.b P.O) ((P.O.boot _<|by decide+kernel).trans ⋯) ⟨B,?_⟩;refine ACa a0 b3 d0 a2 ?_;refine zq a0 b4 c3 c4 ?_;obtain⟨hh,g,dr,tk,os⟩:=s;refine ks_wpAny_isType_cls b6 b5 ⟨B,?_⟩;refine ks_wpAny_call_super b6 b5 l.at_ l.cls (λc e=>by cases e) (looks_mroIn KI ⋯) λh1 b9 k1=>?_;have I1:Cm T ⟨h1,g,dr,tk,os⟩:=SI.keeps P.O k1;have a4:=J3 P I1;have y:ks_superIn (KT T) 512 512 "__init__" =D (D<|AH 358):=by kernel_rfl!
 unfold ks_superIn at y;rw[a3]at y;obtain⟨of,c2,a8⟩:∃of,AA h1 358=D of/\of.cls=Ae "function" :=by
  have C:((KT T).lookup 358).map (·.cls)=D (Ae "function"):=by kernel_rfl!
  cases z:(KT T).lookup 358 with
  |none=>(rw[z]at C;cases C)
  |some of=>rw[z]at C;exact(CB of (a4 _ _ z)<|AE C)
 refine ks_wpAny_getMethod_super b9 (gP (s:=⟨h1,g,dr,tk,os⟩) P I1 512) (l₀:=cd.mro) (λA Q E s k q=>AD<|(looks_clsIn a4 a3) A _ E s k<|AP q) B a4 y c2 a8 N (by decide+kernel) ?_;have k2:∀b o,AA h1 b=D o->(h1.push {cls:=Ae "method",data:=BF #[.ref 358,AH a] }).get? b=D o:= λb o e=>AX _ e;have b1:(h1.push {cls:=Ae "method",data:=BF #[.ref 358,AH a] }).get? (AK h1.objs)=D {cls:=Ae "method",dict:=AQ,data:=BF #[.ref 358,AH a],slots:= #[] } :=A1 _ B;refine E0 (CS P.toHN 60 358 357 (Bl 39 1) (S "ShaFile.__init__") AN ⋯ ⋯ ⋯ B B) λd9 d5 FS=>?_;refine Ap FS.obj λd6 b8 b7=>?_;have c0:=k2 _ _<|I1.ext _ _ FS.tab b8;refine Ku (P:= λh'=>h'=h1.push {cls:=Ae "method",data:=BF #[.ref 358,AH a] }) (by rfl) (λh' e=>(CB (ADP) (BC<|BC B) ?_))<|Pd ⟨B,?_⟩
 ·subst e;refine(jC (part:=AQ) b1).andThen ?_;refine(jC (part:=AQ) c0).andThen ?_;rw[b7];exact qC
 have I2:Cm T ⟨h1.push {cls:=Ae "method",data:=BF #[.ref 358,AH a] },g,dr,tk+1,os⟩:=I1.keeps P.O k2;have kk:∀b o,AA hh b=D o->(h1.push {cls:=Ae "method",data:=BF #[.ref 358,AH a] }).get? b=D o:= λb o e=>k2 b o<|k1 b o e;have u:=eF;have a5:=u▸xa;have x2:=d.x.ext (s:=⟨hh,g,dr,tk,os⟩) SI<|C1.of_keeps kk;have w2:Ei T X (h1.push {cls:=Ae "method",data:=BF #[.ref 358,AH a] }) [a,dx] (DP 512 [] []):=(u▸w).up P.O ((C1.of_keeps kk).up d.x.tab) λb _ o e=>kk b o e;refine F9<|ks_codeAny_call_bound (s:=⟨h1.push {cls:=Ae "method",data:=BF #[.ref 358,AH a] },g,dr,tk+1,os⟩) b1<|wy P n A X ⟨h1.push {cls:=Ae "method",data:=BF #[.ref 358,AH a] },g,dr,tk+1,os⟩ [a,dx] [] _ d.a I2 x2 w2 a5 E4 λv s' a6 I' w' tr=>?_;refine F3 (d.JD (s':=s') (F':=[a,dx]) (f':=f) P.O hm I' (λb o ht hb ho=>a6 b o ht (u▸hb)<|kk b o ho) (by rw[u]) (λb hb=>Ax<|by rw[u];exact hb) (λb hb=>u▸hb) (w'.up P.O (Xb a5) λ_ _ _ h=>h) λG hG=>by rw[<-u];exact fx G hG) λS' hu=>?_;exact K _ _ s' hu S'
noncomputable abbrev Rw:DV:=Ah<|AH 111
theorem rR(P:Bw T)(n:Aj):Li T (n+2) 454 (DP 512 [] []) [] (DP 512 GZ [BK,AL [],BZ AB,Rw]) BK:=by
 obtain⟨dc,pm,g⟩:=rP P;have C:=XZ (λa=>K9<|AA T.H1 a) (λa=>Vs<|AA T.H1 a) λa=>Vt<|AA T.H1 a;refine gJ P.O (x0:=C6) (ps:=[]) (locs:=[]) (ES:=[mr]) g B B (cJ λu=>by kernel_rfl!) (by decide+kernel) ⋯ ⋯ ⋯ λF L=>?_;intro A X Z ad s Q E h K KE;have j:=JC (T:=T) (f:=454) (L:=L) (glob:=HA) (Fe:=[]) (cs:=[442]) ⋯ g.Cd g.len g.dO g.blt<|B9 P.toHN;generalize henv:DS (GX (LP (Bl 40 3) (S "Blob.__init__") [(mr,442)] AN (AH 453)<|AH 447) dc pm) L 454=env at h j K KE⊢;have G:Cc (Bl 40 3)=BA 0 QJ::OY (BA 1 QJ)::QJ.drop 2:=by kernel_rfl!
 rw[show Ve (Cc<|Bl 40 3) env=Ve (BA 0 QJ::OY (BA 1 QJ)::QJ.drop 2) env by rw[<-G]];have h0:Fn T (n+1) AC8 (QH C6 F (DP 512 [] []) [] [] [] [mr]<|[AH 512].map Ah) (BA 0 QJ) Aq (QH C6 F (DP 512 [] []) [] [] [] [mr]<|[AH 512].map Ah):=As [] [] P.O ⋯ AI;refine ADc<|qO<|h0 env j A X Z ad s _ E h (λfl f i X' Ez s' hr z v y=>?_) λe i X' Ez s' hr=>by cases hr.1
 obtain⟨e1,e2⟩:=hr;subst e1 e2;cases v;refine ADc<|rQ P (f:=D F) g henv.symm y ⋯ λN x s2 q S2=>?_;refine qO ?_;have rest:Ge T (n+1) AC8 (D3 C6 (BP (D F)<|DP 512 GZ [BK,BK,BZ J,Rw])<|QH C6 F (DP 512 [] []) [] [] [] [mr]<|[AH 512].map Ah) (QJ.drop 2) Aq [(C6,BP (D F)<|DP 512 GZ [BK,AL [],BZ AB,Rw]),(mr,mw<|Ah<|AH 512)] :=by rw[show D3 C6 (BP (D F)<|DP 512 GZ [BK,BK,BZ J,Rw]) (QH C6 F (DP 512 [] []) [] [] [] [mr]<|[AH 512].map Ah)=[(C6,BP (D F)<|DP 512 GZ [BK,BK,BZ J,Rw]),(mr,mw<|Ah<|AH 512)] by kernel_rfl!];refine A7 2 QJ ⋯ (HO P GZ [BK,BK,BZ J,Rw] (attr:=S "_chunked_text") (d:=AL []) (as:=[]) (cs:=[]) C ⋯ ⋯ ⋯ ⋯ AI B) ?_;refine Cq (s1:=BA 3 QJ) (r:=[]) ⋯ (HO P GZ [BK,AL [],BZ J,Rw] (attr:=S "_needs_serialization") (d:=BZ AB) (as:=[]) (cs:=[]) C ⋯ ⋯ ⋯ ⋯ AI B) ?_;exact Ea B
 refine rest env j A N Z x s2 Q E S2 (λfl f i X' Ez s' hr l v y=>?_) λe i X' Ez s' hr=>by cases hr.1
 obtain⟨e1,e2⟩:=hr;subst e1 e2;exact K Aq _ _ X' Ez s' ⟨B0 _,B⟩ ((z.trans q).trans l) v y
theorem AGw(P:Bw T)(n:Aj)(h i g e d:DV):Li T (n+1) 502 (DP 512 GZ [h,i,g,e]) [d] (DP 512 GZ [h,d,g,e]) BK:=by refine E0 (CS P.toHN 84 502 501 (Bl 40 9) (S "Blob._deserialize") AN ⋯ ⋯ ⋯ B B) λdc pm F=>?_;have C:=XZ (λa=>K9<|AA T.H1 a) (λa=>Vs<|AA T.H1 a) λa=>Vt<|AA T.H1 a;refine Ko P.O (x0:=C6) (ps:=[S "chunks"]) (locs:=[]) (ES:=[]) (Fe:=[]) (Fd F) (B9 P.toHN) B B (Vw λu v=>by kernel_rfl!) (by decide+kernel) ⋯ ⋯ ⋯ (fl:=Aq) (EA:= λF=>[(C6,BP (D F)<|DP 512 GZ [h,d,g,e]),(S "chunks",mw d)]) (λF=>?_) (λF=>by kernel_rfl!) B;refine Cq (s1:=BA 0<|Cc<|Bl 40 9) (r:=[]) ⋯ (HO P GZ [h,i,g,e] (attr:=S "_chunked_text") (d:=d) (as:=[]) (cs:=[]) (rest:=[(S "chunks",mw d)]) C ⋯ ⋯ ⋯ ⋯ AI B) ?_;exact Ea B
theorem xA:∀ {ns:I Bt},Ds isN es ns->(es.find? (·.key.isStr x)).map (·.val)=CY x (ns.zip (es.map (·.val))):=by
 induction es with
 |nil=>intro ns h;cases h;rfl
 |cons e es a=>
  intro ns h;cases h with
  | @cons _ n _ ns d r=>
   refine Dx d λt g=>?_;have hs:e.key.isStr x=Jm x n:=by rw[g];exact(Tj (x:=n) (y:=x)).trans<|Ck.mpr<|sEq_iff.trans<|AFK.trans sEq_iff.symm
   rw[zw,hs,B4,DU];cases h:Jm x n with
   |true=>exact(SV (p:=(n,e.val)) h).symm
   |false=>exact(a r).trans (SW (p:=(n,e.val)) h).symm
theorem aB(h:Ds isN es ns):lookIn x (Hl es m)=D (CY x (ns.zip (es.map (·.val)))):=by
 have k:=xA (x:=x) h;unfold lookIn
 dsimp only[Hl]
 cases e:es.find? (·.key.isStr x)with
 |some a=>rw[e]at k;rw[<-k];rfl
 |none=>rw[e]at k;rw[<-k,wt h];rfl
noncomputable def ABZ:K2->AW (Az×I Bt)
 |.inst C ns _=>D (C,ns)
 |.wl C n _=>D (C,[n])
 |_=>AQ
theorem gQ:∀ {vs:I d},KY x ns=AB->CY x (ns.zip vs)=none:=by
 induction ns with
 |nil=>exactλ_=>B
 |cons n r a=>
  intro vs h;cases vs with
  |nil=>rfl
  |cons v vs=>
   cases e:Jm x n with
   |true=>exact nY<|(vK e).symm.trans h
   |false=>exact(SW (p:=(n,v)) e).trans<|a<|(eY e).symm.trans h
theorem ABa(e:ABZ o=D (C,ns))(w:Ei T X h F o):∃d vs,JA h (HI F) d C ns vs:=by
 cases o with
 |inst _ _ _=>obtain⟨rfl,rfl⟩:=FL<|AE e;obtain⟨a,d,vs,eF,g,p,t⟩:=w;subst eF;exact(NJ d vs p)
 |wl _ _ _=>obtain⟨rfl,rfl⟩:=FL<|AE e;obtain⟨a,d,l,vs,eF,i,p,q,t⟩:=w;subst eF;exact(NJ d _ p)
 |_=>exact EN e
theorem aC{K:Frag}(X:K.In s.heap)(hC:J4 K C)(d:JA s.heap a v C ns vs)
  (i:Hq K (AH C) x=D (D (AH f)))(g:WJ K (AH f)=D (Ae "function"))(e:KY x ns=AB)(k:Q (AH f,[AH a]) s):Ao (M T) A (ak (AH a) x r) Q E s:=by
 refine EJ d λes m q l j u h=>?_;refine method_fn (od:=D<|Hl es m) X ⟨l,B,B,j⟩ hC.ga hC.AJd i g ?_ k;unfold shadowIn
 dsimp only
 rw[aB h,gQ e];rfl
theorem VD(P:Bw T){ad:Bt->I Az}(hk:env.scope.kind=BY)(e:Sx T n A X env pv Z ad s)
  (hn:C9 x=J)(hx:CY x pv=D (BP f o))(hp:D6 es=J)(L:EV (U es) 20=J)(l:(ap.endLine==cp.line)=J)(hc:ABZ o=D (C,ns))(hC:J4 (KT T) C)(hf:Hq (KT T) (AH C) L4=D (D (AH g)))(ht:WJ (KT T) (AH g)=D (Ae "function"))(hm:KY L4 ns=AB)
  (he:GH T n env pv es ds)(a1:Li T n g o ds o' d)(kp:Bf T (Ah (AH g)))(K:∀v X' Ez s',Rj X X' Z->Sx T n A X' env (D3 x (BP f o') pv) Z Ez s'->Tr T s'.heap X' d v->Q v s'):Ao (M T) A (IC (El (CO (Bu x p) L4 ap) es [] cp) env) Q E s:=by
 refine Fc B hp L l<|JB e (FF▸hx) hk hn λw xa pl=>?_;refine E0 (ABa hc w) λdx vs hI=>?_;refine aC (J3 P e.inv) hC hI hf ht hm ?_;refine GI P.O he kp e.toAr λus y q i u=>?_;have S₁:=e.ext P.O q i;have j:=FQ hx;refine FD (S₁.f _ j) λ_ a0 r fx=>?_;refine F9<|a1 A X y (ad x) us _ e.a i S₁.x r xa u λv s' z I' w' tr=>?_;refine F3 (S₁.JD (s':=s') (F':=ad x) (f':=f) P.O j I' (λb ob ht N ho=>z b ob ht N ho) B (λb N=>Ax N) (λb N=>N) (w'.up P.O (Xb xa) λ_ _ _ h=>h) λG hG=>fx G hG) λS' hu=>?_;exact K v _ _ s' hu S'<|tr.up P.O<|Xb xa
noncomputable def HP(e:A2):I Expr:=if h:e.ctorIdx=16 then Dr (motive_1:= λ_=>I A2) e h λ_ as _ _=>as else []
noncomputable def Vx(x L4:Bt)(e:A2):Expr:=El (CO (Bu x<|Hc<|O8<|KO e) L4<|JM<|KO e) (HP e) []<|Ka e
theorem J5(P:Bw T){st:Ct}(i:st=NC (Vx x L4 (OE st)) (Xa st))(j:HP (OE st)=es)(L:C9 x=J)(u:CY x pv=D (BP f o))
  (hp:D6 es=J)(e:EV (U es) 20=J)(d:((JM (KO (OE st))).endLine==(Ka (OE st)).line)=J)(hc:ABZ o=D (C,ns))(hC:J4 (KT T) C)(hf:Hq (KT T) (AH C) L4=D (D (AH g)))(z:WJ (KT T) (AH g)=D (Ae "function"))(N:KY L4 ns=AB)
  (he:Gm (Rl (vE T n 20 G pv) es as)=D (ds,cs))(l:ER cs)(q:Li T n g o ds o' BK)(r:Bf T (Ah (AH g))):Fn T n G pv st Aq (D3 x (BP f o') pv):= λenv K=>by
 rw[i];have h:=j;unfold Vx;rw[h];refine MP K.kind λA X Z ad s Q E a KQ KE=>?_;refine VD P K.kind a L u hp e d hc hC hf z N ((JJ (Io P.O K 20).1).only he l) q r λv X' Ez s' y S' tr=>?_;obtain rfl:=tr.inv;exact KQ _ X' Ez s' ⟨B,B⟩ y S'
theorem Le.make(a:Le (n+1) A):Le n (A.under (Iy "type.__call__" ⟨AH C::vs,[]⟩)):=by
 have h:(Iy "type.__call__" ⟨AH C::vs,[]⟩).weight=1:=by kernel_rfl!
 have i:(Iy "type.__call__" ⟨AH C::vs,[]⟩).cUnits=1:=by kernel_rfl!
 refine⟨a.handled,?_,?_⟩
 ·show A.depth+_+n<_;rw[h];have:=a.depth;exact Pj [_,_,_] [.t (.a A9<|.a BQ DB) B5] (.a (.a A9 DB) BQ) B5 [1] B this
 ·show A.units+_+10*n+10<_;rw[i];have:=a.units;exact Pj [_,_,_] [.t (.a (.a A9<|.m 10<|.a BQ DB)<|.n 10) B5] (.a (.a (.a A9 DB)<|.m 10 BQ)<|.n 10) B5 [1] B this
def gR(T:Th)(n:Aj)(C g:Az)(ds:I DV)(o':K2):Prop:=
 ∀A X s a d vs R,Le n A->Cm T s->Hs T X s.heap->Ei T X s.heap [a,d] (DP C [] [])->(∀b∈[a,d],X b)->A8 T s.heap X ds vs->
  (∀G s',(∀b e,¬T.Tab b->b∉ [a,d] ->AA s.heap b=D e->AA s'.heap b=D e)->(∀b∈G,AA s.heap b=AQ)->Cm T s'->Ei T (Jn X G) s'.heap (a::d::G) o'->R (zr<|N8 AN) s')->Mf (M T) A (qB (AH g) ⟨AH a::vs,[]⟩) R s
theorem Li.zH(O:Cr T)(h:Li T n g (DP C [] []) ds o' BK):gR T n C g ds o':= λA X s a N vs R u i x w y L K=>
 h A X s [a,N] vs R u i x w y L λv s' j Q G tr=>by obtain rfl:=tr.inv;exact K [] s' j IL Q<|G.up O (Xb IL) λ_ _ _ h=>h
theorem xB(P:Bw T)(hf:Ev T (n+1) env pv (Bu x p) (Ah (AH C)))(he:GH T (n+1) env pv es ds)(hC:J4 (KT T) C)(hi:Hq (KT T) (AH C) "__init__" =D (D (AH g)))(ht:WJ (KT T) (AH g)=D (Ae "function"))
  (a5:gR T n C g ds o')(kp:Bf T (Ah (AH C))):ur T (n+1) env pv (El (Bu x p) es [] pos) o':=by
 intro A X ad s Q E R k;refine Fb<|hf A X ad s _ E R λfv a6 j N r=>?_;have a2:=R.ext P.O j N;refine Ly P.O he kp a2 r λvs u l i xo tf ta=>?_;obtain rfl:=tf.inv;refine F9 ?_;obtain⟨hh,gg,d,t,os⟩:=u;have KI:=J3 P i;refine make_core (makes_of KI hC.makes) (Yr KI hi) (λv=>bind_fn KI v ht) (Ax B) ?_
 let h3:=(hh.push emptyDict).push<|AFM C<|AK hh.objs
 have L:∀b o,AA hh b=D o->AA h3 b=D o:= λb o e=>AX _<|AX _ e;have I3:Cm T ⟨h3,gg,d,t,os⟩:=i.keeps P.O L;have a1:AA h3 (AK hh.objs+1)=D (AFM C<|AK hh.objs):=by heap_get
 have a0:AA h3 (AK hh.objs)=D emptyDict:=AX _<|A1 _ B;have n0:∀b,AK hh.objs<=b->AA hh b=none:= λb hb=>by
  cases e:AA hh b with
  |none=>rfl
  |some o=>exact Ay (BS e)<|G6.mpr hb
 let F:I Addr:=[AK hh.objs+1,AK hh.objs]
 have nF:∀b∈F,AA hh b=none:= λb hb=>by
  rcases DO hb with rfl|hb
  ·exact n0 _<|Ej _
  ·rw[Cx hb];exact n0 _<|BO _
 have x3:Hs T (Jn X F) h3:=⟨λa ha=>Ax<|xo.tab a ha,λa ha=>by
  rcases ha with ha|ha
  ·exact(xo.ext i<|C1.of_keeps L).kind a ha
  ·refine BC ⟨(Du i<|nF a ha).1,?_⟩;rcases DO ha with rfl|hb
   ·exact(CB _ a1<|Ax<|K3 B)
   ·rw[Cx hb];exact(CB _ a0<|Ax<|K3 B)⟩
 have a4:Up hh X h3 (Jn X F):= λa o e nx=>⟨L a o e,λq=>q.elim nx λq=>by exact EN<|(nF a q).symm.trans e⟩;have w3:Ei T (Jn X F) h3 F (DP C [] []):=⟨AK hh.objs+1,AK hh.objs,[],B,WE _,⟨[],0,#[],a1,a0,B,QV⟩,E4⟩;refine a5 _ (Jn X F) ⟨h3,gg,d,t,os⟩ _ _ vs _ (Le.make R.a) I3 x3 w3 (λb hb=>BC hb) (ta.up P.O a4) λG s' z nG I' w'=>?_;have y:∀b∈F++G,AA hh b=none:= λb hb=>by
  rcases IF hb with hb|hb
  ·exact nF b hb
  ·cases e:AA hh b with
   |none=>rfl
   |some o=>have:=nG b hb;exact Tt<|(L b o e).symm.trans this
 have a3:Up s'.heap (Jn (Jn X F) G) s'.heap (Jn X<|F++G):=Up.less λb hb=>hb.elim (λq=>Ax<|Ax q) λq=>(IF q).elim (λq=>Ax<|BC q) BC;refine⟨B,k (F++G) s' ((j.trans l).trans λb o nt e=>z b o nt (λq=>by exact EN<|(nF b q).symm.trans e)<|L b o e) I' (λb hb=>?_)<|w'.up P.O a3 λ_ _ _ h=>h⟩;cases e:AA s.heap b with
 |none=>rfl
 |some o=>
  have nt: ¬T.Tab b:= λq=>by refine Ap (i.tab b q) λa8 e' _=>?_;exact EN<|(y b hb).symm.trans e'
  have:=l b o nt<|j b o nt e;exact EN<|(y b hb).symm.trans this
theorem Xd(P:Bw T)(h:keepIn (KT T) (AH C)=J):Bf T (Ah (AH C)):= λs X f a x t=>by obtain rfl:=t.inv;exact keeps_K h _<|J3 P a
theorem lR(P:Bw T)(n:Aj)(l q j i d:DV):Li T (n+2) 386 (DP 512 GZ [l,q,j,i]) [d] (DP 512 GZ [BK,d,BZ AB,i]) BK:=by
 refine E0 (CS P.toHN 68 386 385 (Bl 39 5) (S "ShaFile.set_raw_chunks") AN ⋯ ⋯ ⋯ B B) λdc pm F=>?_;have C:=XZ (λa=>K9<|AA T.H1 a) (λa=>Vs<|AA T.H1 a) λa=>Vt<|AA T.H1 a;have y:=B6 P.toHN 84 502 501 (Bl 40 9) (S "Blob._deserialize") AN ⋯ ⋯ ⋯ B B
 let e:=Cc<|Bl 39 5
 let rest:BD:=[(S "chunks",mw d)]
 refine Ko P.O (x0:=C6) (ps:=[S "chunks"]) (locs:=[]) (ES:=[]) (Fe:=[]) (Fd F) (B9 P.toHN) B B (Vw λu v=>by kernel_rfl!) (by decide+kernel) ⋯ ⋯ ⋯ (fl:=Aq) (EA:= λF=>(C6,BP (D F)<|DP 512 GZ [BK,d,BZ AB,i])::rest) (λF=>?_) (λF=>by kernel_rfl!) B;refine A7 0 e (BE:=(C6,BP (D F)<|DP 512 GZ [l,q,j,i])::rest) ⋯ (As [] [] P.O ⋯ AI) ?_;refine A7 1 e ⋯ (HO P GZ [l,q,j,i] (attr:=S "_chunked_text") (d:=d) (as:=[]) (cs:=[]) (rest:=rest) C ⋯ ⋯ ⋯ ⋯ AI B) ?_;refine A7 2 e ⋯ (HO P GZ [l,d,j,i] (attr:=S "_sha") (d:=BK) (as:=[]) (cs:=[]) (rest:=rest) C ⋯ ⋯ ⋯ ⋯ AI B) ?_;refine A7 3 e (BE:=(C6,BP (D F)<|DP 512 GZ [BK,d,j,i])::rest) ⋯ ?_ ?_
 ·have h:=J5 (n:=n+1) (G:=⟨(D2<|Bl 39 5).names,HA,[],AQ⟩) (pv:=(C6,BP (D F)<|DP 512 GZ [BK,d,j,i])::rest) (f:=D F) (x:=C6) (L4:=S "_deserialize") (st:=BA 3 e) (es:=HP<|OE<|BA 3 e) (C:=512) (g:=502) (ns:=GZ) (as:=[]) (cs:=[]) P ⋯ B ⋯ ⋯ ⋯ ⋯ ⋯ B C ⋯ ⋯ ⋯ ⋯ AI (AGw P n BK d j i d) y;rwa[aA]at h
 refine Cq (s1:=BA 4 e) (r:=[]) ⋯ (HO P GZ [BK,d,j,i] (attr:=S "_needs_serialization") (d:=BZ AB) (as:=[]) (cs:=[]) (rest:=rest) C ⋯ ⋯ ⋯ ⋯ AI B) ?_;exact Ea B
end
section
open PySem.Builtin PySem.Builtin.ObjectAttr
set_option backward.match.sparseCases true
set_option tactic.hygienic true
noncomputable def CJ(text:I BB)(a:Aa):Rows:=[De AQ (D<|Lf text a) text,De (D<|Lf text a) AQ text]
noncomputable def Oa(x:Bt)(st:Ct):Stmt:=Fg [Bu x<|Hc<|O7 st] (Hz st)<|Rv st
noncomputable def Vy(x:Bt)(e:A2):Expr:=El (Bu x<|Hc<|KO e) (HP e) []<|Ka e
theorem gT(P:Bw T){st:Ct}(a:st=Oa x st)(e:Hz st=Vy cn (Hz st))(r:O0 G pv cn=D (Ah (AH C)))(hs:JK G x=J)(d:nf pv x=J)
  (v:J4 (KT T) C)(q:Hq (KT T) (AH C) "__init__" =D (D (AH g)))(j:WJ (KT T) (AH g)=D (Ae "function"))(l:keepIn (KT T) (AH C)=J)
  (u:Gm (Rl (vE T (n+1) 20 G pv) (HP (Hz st)) as)=D (ds,cs))(h:ER cs)(i:gR T n C g ds o'):Fn T (n+1) G pv st Aq (D3 x (BP AQ o') pv):= λenv K=>by
 rw[a];unfold Oa;rw[e];exact MO P.O K.kind (xB P (HZ P.O K r) ((JJ (Io P.O K 20).1).only u h) v q j i<|Xd P l) ⟨K.stores hs,Nf d⟩ ⟨B,B⟩
noncomputable def lbB:I Stmt:=Cc<|A6 76
noncomputable def lbV(t:I BB)(k:Aa)(b:PV):BD:=[(S "text",mw<|AJ t),(S "number",mw<|AM k),(S "blob",b)]
theorem M5(P:Bw T)(n:Aj)(text:I BB)(d:Aa)(hz:U text<=AY):CP T (n+4) (Ah (AH 1241)) [AJ text,AM d] (BR (CJ text d)):=by refine E0 (CS P.toHN 22 1241 1240 (A6 76) (S "_law_blob") AN ⋯ ⋯ ⋯ B B) λdc pm F=>?_;have C:=XZ (λa=>K9<|AA T.H1 a) (λa=>Vs<|AA T.H1 a) λa=>Vt<|AA T.H1 a;have h:=B6 P.toHN 20 1234 1233 (A6 75) (S "_law_pieces") AN ⋯ ⋯ ⋯ B B;have e:=B6 P.toHN 68 386 385 (Bl 39 5) (S "ShaFile.set_raw_chunks") AN ⋯ ⋯ ⋯ B B;refine oo P.O (ps:=[S "text",S "number"]) (locs:=[S "blob"]) (Fe:=[S "blob"]) (EA:=lbV text d<|mw<|BR<|CJ text d) F (B9 P.toHN) B (P9 λu v=>by kernel_rfl!) ⋯ B (by decide+kernel) ⋯ ?_;refine A7 0 lbB (BE:=lbV text d<|BP AQ<|DP 512 GZ [BK,AL [],BZ AB,Rw]) ⋯ (gT (n:=n+2) (x:=S "blob") (cn:=S "Blob") (C:=512) (g:=454) (as:=[]) (cs:=[]) P ⋯ ⋯ ⋯ ⋯ ⋯ C ⋯ ⋯ ⋯ ⋯ AI<|(rR P n).zH P.O) ?_;refine A7 1 lbB (BE:=lbV text d<|BP AQ<|DP 512 GZ [BK,AL<|OS text d,BZ AB,Rw]) ⋯ (J5 (n:=n+3) (pv:=lbV text d<|BP AQ<|DP 512 GZ [BK,AL [],BZ AB,Rw]) (f:=AQ) (x:=S "blob") (L4:=S "set_raw_chunks") (st:=BA 1 lbB) (es:=HP<|OE<|BA 1 lbB) (ds:=[AL<|OS text d]) (o:=DP 512 GZ [BK,AL [],BZ AB,Rw]) (C:=512) (g:=386) (ns:=GZ) (as:=[.t<|AL<|OS text d]) (cs:=[CP T (n+3) (Ah<|AH 1234) [AJ text,AM d]<|AL<|OS text d,Bf T<|Ah<|AH 1234]) P ⋯ B ⋯ ⋯ ⋯ ⋯ ⋯ B C ⋯ ⋯ ⋯ ⋯ ⟨XB P.toHN (n+2) text d hz,h,AI⟩ (lR P (n+1) _ _ _ _ _) e) ?_;refine Qj (x:=S "blob") P.O ?_;refine K8 (s1:=BA 2 lbB) (r:=[]) (BE:=lbV text d<|mw<|BR<|CJ text d) ⋯<|As [] [] P.O ⋯ AI
end
section
open PySem.Builtin PySem.Builtin.ObjectAttr
set_option backward.match.sparseCases true
def gU(T:Th)(n:Aj)(f:Az)(kw:I Bt)(ds ks:I DV)(d:DV):Prop:=
 ∀A X s vs a R,Le n A->Cm T s->Hs T X s.heap->A8 T s.heap X ds vs->A8 T s.heap X ks a->
  (∀v s',C1 T s.heap s'.heap->Cm T s'->Tr T s'.heap X d v->R (zr<|N8 v) s')->Mf (M T) A (qB (AH f) ⟨vs,kw.zip a⟩) R s
theorem gU.app(h:gU T n f [] ds [] d):CP T n (Ah (AH f)) ds d:= λA X s u vs Q E a i x tf j K=>by obtain rfl:=tf.inv;exact F9<|h A X s vs [] _ a i x j E4 K
theorem xD(O:Cr T){ps locs Fe kw:I Bt}(g:ZM T f fd [] [] [])(W:∀x d,glob x=D d->Kj T x d)(u:fd.body=KS body)(hl:U ps=U es)
  (G:∀X s vs C,Cm T s->A8 T s.heap X ds vs->A8 T s.heap X ks C->∃ws,BindsTo s fd ⟨vs,kw.zip C⟩ (ps.zip ws)/\A8 T s.heap X es ws)(N:(ps++locs++[]).Nodup)(hs:O6 fd.scope [] =J)
  (L:ps.all (λx=>kG (CY x fd.scope.names))=J)
  (a1:Ge T n ⟨fd.scope.names,glob,Fe,AQ⟩ (EB ps es locs++[]) body fl EA)(hr:jn d fl []):gU T (n+1) f kw ds ks d:=by
 intro A X s vs C R a i x ta tk K;refine NZ (Nu hs) λh2 h3 h4=>?_;refine Ap g.obj λob o1 o2=>?_;have a2:s.heap.CodeRec fd.code fd.qualname:=by refine EX g.code λc oc fs t e1 e2 e3=>?_;exact⟨c,oc,fs,t,e1,i.ext _ _ (g.Te c e1) e2,e3⟩
 refine Ap (G X s vs C i ta tk) λws a3 te=>?_;refine Dt a.room (i.ext _ _ g.tab o1) o2 h2 h3 u a2<|a3 _ _ _ _ ?_;refine IV (ES:=[]) (cs:=[]) (ds:=es) (xs:=[]) (ws:=[]) (locs:=locs) O a i x te E4 QV IL PE g.Cd B B hl N h4 (tZ L) λz y v Q j=>?_;refine⟨(i.lim O).keeps Q,Jh ?_⟩;refine a1 (DS fd (AK s.heap.objs) f) (JC hs g.Cd B g.dO g.blt W) _ z _ _ y _ _ j (λa5 a4 l X' Ez s' r hx a0 S'=>?_) λe l X' Ez s' r=>by refine F3 r λe1 _=>?_;subst e1;exact hr.elim
 refine F3 r λe1 e2=>?_;subst e1 e2;have ext:C1 T s.heap s'.heap:= λb ob nt e=>S'.wr.keep b ob e nt;have q:Up s'.heap X' s'.heap X:=Up.less λb G=>by
  rcases x.kind b G with h|⟨_,o,ho,_⟩
  ·exact S'.x.tab b h
  ·exact hx.up b (v b G)<|by rw[ho];exact SR
 cases a0 with
 |next=>obtain rfl:d=BK:=hr;exact K AN s' ext S'.inv YU
 |brk=>exact hr.elim
 |cont=>exact hr.elim
 |ret t=>cases hr;exact K _ s' ext S'.inv<|t.up O q
theorem ur.ev(O:Cr T)(h:ur T n env pv e o):Ev T n env pv e (nj o):= λA X ad s Q E R k=>h A X ad s Q E R λF s' x i u w=>k _ s' x i (w.tree O (λb j=>Ax j) λb j q=>by
 rcases R.x.kind b q with h|⟨_,o,y,_⟩
 ·refine Ap (R.inv.tab b h) λvs e _=>?_;exact EN<|(u b j).symm.trans e
 ·exact EN<|(u b j).symm.trans y)
theorem aD(O:Cr T):Ms T n G pv (.Dict [] [] pos) (EL [] []):= λenv K=>(eQ O).ev O
noncomputable def xE(e:A2):Pos:=if h:e.ctorIdx=6 then AKR (motive_1:= λ_=>LH) e h λ_ _ p=>p else BN
noncomputable abbrev rT:I Str:=[S "object_format",S "_data"]
theorem xG(P:Bw T)(n:Aj)(d:DV):Li T (n+1) 1160 (DP 1198 [] []) [d] (DP 1198 rT [d,EL [] []]) BK:=by
 refine E0 (CS P.toHN 58 1160 1159 (Bl 68 1) (S "MemoryObjectStore.__init__") AN ⋯ ⋯ ⋯ B B) λdc pm F=>?_;have C:=ot (λa=>K9<|AA T.H1 a) (λa=>Vs<|AA T.H1 a) λa=>Vt<|AA T.H1 a
 let e:=Cc<|Bl 68 1
 let rest:BD:=[(S "object_format",mw d)]
 refine Ko P.O (x0:=C6) (ps:=[S "object_format"]) (locs:=[]) (ES:=[]) (Fe:=[]) (Fd F) (B9 P.toHN) B B (Vw λu v=>by kernel_rfl!) (by decide+kernel) ⋯ ⋯ ⋯ (fl:=Aq) (EA:= λF=>(C6,BP (D F)<|DP 1198 rT [d,EL [] []])::rest) (λF=>?_) (λF=>by kernel_rfl!) B;refine A7 0 e (BE:=(C6,BP (D F)<|DP 1198 [] [])::rest) ⋯ (As [] [] P.O ⋯ AI) ?_;refine A7 1 e ⋯ (HO P [] [] (attr:=S "object_format") (d:=d) (as:=[]) (cs:=[]) (rest:=rest) C ⋯ ⋯ ⋯ ⋯ AI B) ?_;refine Cq (s1:=BA 2 e) (r:=[]) ⋯ (HO P [S "object_format"] [d] (attr:=S "_data") (d:=EL [] []) (as:=[.t<|EL [] []]) (cs:=[Ms T n ⟨(D2<|Bl 68 1).names,HA,[],AQ⟩ ((C6,BP (D F)<|DP 1198 [S "object_format"] [d])::rest) (.Dict [] []<|xE<|Hz<|BA 2 e)<|EL [] []]) (rest:=rest) C ⋯ ⋯ ⋯ ⋯ ⟨aD P.O,AI⟩ B) ?_;exact Ea B
noncomputable abbrev mgN:I Str:=[S "object_store",S "make_merge3",S "conflict_info"]
theorem gV(P:Bw T)(n:Aj)(d c:DV):Li T (n+1) 1048 (DP 1087 [] []) [d,c] (DP 1087 mgN [d,c,EL [] []]) BK:=by
 refine E0 (CS P.toHN 45 1048 1047 (Bl 62 1) (S "Merger.__init__") AN ⋯ ⋯ ⋯ B B) λdc pm F=>?_;have C:=Vv (λa=>K9<|AA T.H1 a) (λa=>Vs<|AA T.H1 a) λa=>Vt<|AA T.H1 a
 let e:=Cc<|Bl 62 1
 let rest:BD:=[(S "object_store",mw d),(S "make_merge3",mw c)]
 refine Ko P.O (x0:=C6) (ps:=[S "object_store",S "make_merge3"]) (locs:=[]) (ES:=[]) (Fe:=[]) (Fd F) (B9 P.toHN) B B (ABX λu v w=>by kernel_rfl!) (by decide+kernel) ⋯ ⋯ ⋯ (fl:=Aq) (EA:= λF=>(C6,BP (D F)<|DP 1087 mgN [d,c,EL [] []])::rest) (λF=>?_) (λF=>by kernel_rfl!) B;refine A7 0 e (BE:=(C6,BP (D F)<|DP 1087 [] [])::rest) ⋯ (As [] [] P.O ⋯ AI) ?_;refine A7 1 e ⋯ (HO P [] [] (attr:=S "object_store") (d:=d) (as:=[]) (cs:=[]) (rest:=rest) C ⋯ ⋯ ⋯ ⋯ AI B) ?_;refine A7 2 e ⋯ (HO P [S "object_store"] [d] (attr:=S "make_merge3") (d:=c) (as:=[]) (cs:=[]) (rest:=rest) C ⋯ ⋯ ⋯ ⋯ AI B) ?_;refine Cq (s1:=BA 3 e) (r:=[]) ⋯ (HO P [S "object_store",S "make_merge3"] [d,c] (attr:=S "conflict_info") (d:=EL [] []) (as:=[.t<|EL [] []]) (cs:=[Ms T n ⟨(D2<|Bl 62 1).names,HA,[],AQ⟩ ((C6,BP (D F)<|DP 1087 [S "object_store",S "make_merge3"] [d,c])::rest) (.Dict [] []<|xE<|Hz<|BA 3 e)<|EL [] []]) (rest:=rest) C ⋯ ⋯ ⋯ ⋯ ⟨aD P.O,AI⟩ B) ?_;exact Ea B
end
section
open PySem.Builtin PySem.Builtin.ObjectAttr
theorem ABb{ns:I Bt} :∀ {ds:I DV} {vs:I Am},A8 T h X ds vs->CY x (ns.zip ds)=D d->∃v,CY x (ns.zip vs)=D v/\Tr T h X d v:=by
 induction ns with
 |nil=>exactλ_ e=>EN e
 |cons m ns j=>
  intro ds vs t e;cases t with
  |nil=>cases e
  | @cons a v ds vs i r=>
   cases g:Jm x m with
   |true=>exact(CB v (SV (p:=(m,v)) g)<|AE ((SV (r:=ns.zip ds) (p:=(m,a)) g).symm.trans e)▸i)
   |false=>
    refine Ap (j r<|(SW (r:=ns.zip ds) (p:=(m,a)) g).symm.trans e) λw q l=>?_;exact(CB w ((SW (p:=(m,v)) g).trans q) l)
theorem Ob{K:Frag}(d:Ds isN es ns)(i:(clsIn K C).any (·.hasDict)=J)(h:Hq K (AH C) x=D AQ)(g:CY x (ns.zip (es.map (·.val)))=D v):findObj K C (D (Hl es m)) x=D (.value v):=by refine Ap (any_some i) λa l j=>?_;have e:W.ownOf a (D<|Hl es m) x=D (D v):=(Dh j).trans<|(aB d).trans<|BI D g;unfold findObj;rw[l,h];show(W.ownOf a (D<|Hl es m) x).bind _=_;rw[e];rfl
theorem rU(P:Bw T)(hC:J4 (KT T) C)(r:Hq (KT T) (AH C) x=D AQ)(q:CY x (ns.zip ds)=D d)(y:Ud d=J):Ey T n (YT C ns ds) x d:=by
 intro A X s u Q E a e N t K
 (refine JX t.inv λ_ _ _ h z nx j i=>?_;subst h)
 ·refine EJ z λes k O L G l hp=>?_;refine Ap (ABb i q) λv g tv=>?_;exact bA (od:=D<|Hl es k) (J3 P e) ⟨L,B,B,G⟩ hC.ga (Ob hp hC.dict r<|by rw[l];exact g) (Qk y tv)<|K _ _ (C1.refl _) (e.toks _) tv
theorem aE(P:Bw T)(q:J4 (KT T) C)(j:Hq (KT T) (AH C) x=D (D (AH f)))(i:WJ (KT T) (AH f)=D (Ae "function"))(h:KY x ns=AB):H7 T n (YT C ns ds) x (AH f):=by
 intro A X s u y Q E a d r t K
 (refine JX t.inv λ_ _ _ e l z g v=>?_;subst e)
 ·exact aC (J3 P d) q l j i h K
theorem Xe(P:Bw T)(d:Cm T s)(e:∀a,peek (KT T) a (CG fd g)=D binds):BindsTo s fd g binds:=kp_binds (J3 P d) e
noncomputable abbrev Oc(d c:DV):DV:=YT 1087 mgN [d,c,EL [] []]
theorem VW(P:Bw T)(n:Aj)(v c x y z d:DV)(hc:Ud c=J)(h:CP T n (Ah (AH 1034)) [x,y,z,c] d):CP T (n+1) (Ah (AH 1056)) [Oc v c,x,y,z] d:=by
 refine Hr (Zu P.toHN (a:=1056) (c:=1055) (st:=Bl 62 2) (q:=S "Merger.merge_blobs") (dflt:=AH 1049) (ct:=AN) (Cd:=[]) (fs:= #[]) (BJ (i:=47) ⋯)<|DI.ok B) λdc pm ob L G=>?_;refine Ap (P.Tf 1055 ⟨Ae "code",AQ,BF<|ED 48,#[]⟩<|BJ (i:=48) ⋯) λoc Q N=>?_;have l:ZM T 1056 (GX (LP (Bl 62 2) (S "Merger.merge_blobs") [] (AH 1049) (AH 1055) AN) dc pm) [] [] [] :=⟨(CB ob L G),λq=>DI.ok (a:=1056) B<|(P.tab _).mp q,⟨1055,oc,_,1806,B,Q,OZ N,by kernel_rfl!⟩,λc e=>by cases e;exactλq=>DI.ok (a:=1055) B<|(P.tab _).mp q,B,B,B,QV,IL,PE,B⟩;have C:=Vv (λa=>K9<|AA T.H1 a) (λa=>Vs<|AA T.H1 a) λa=>Vt<|AA T.H1 a;have kb:=B6 P.toHN 6 1034 1033 (A6 60) (S "merge_blobs") AN ⋯ ⋯ ⋯ B B
 let g:=Cc<|Bl 62 2
 let pv:BD:=[(C6,mw<|Oc v c),(S "base_blob",mw x),(S "ours_blob",mw y),(S "theirs_blob",mw z),(S "path",mw BK)]
 refine gU.app<|xD P.O (ps:=[C6,S "base_blob",S "ours_blob",S "theirs_blob",S "path"]) (locs:=[]) (Fe:=[]) (kw:=[]) (ks:=[]) (es:=[Oc v c,x,y,z,BK]) (fl:=JF d) (EA:=pv) l (B9 P.toHN) B B (λX s vs us j ta tk=>?_) (by decide+kernel) ⋯ ⋯ ?_ B
 ·(refine Bk ta.inv λv1 _ a0 a1 r=>?_;subst a0)
  ·cases r with
   | @cons _ v2 _ _ a2 r=>cases r with
    | @cons _ v3 _ _ a3 r=>cases r with
     | @cons _ v4 _ _ a4 r=>
      obtain rfl:=r.inv;obtain rfl:=tk.inv;exact(CB [v1,v2,v3,v4,AN] (Xe P j λu=>by kernel_rfl!)<|Cw a1<|Cw a2<|Cw a3<|Cw a4<|Cw YU E4)
 ·refine A7 0 g (BE:=pv) ⋯ (As [] [] P.O ⋯ AI) ?_;refine K8 (s1:=BA 1 g) (r:=[]) (BE:=pv) ⋯<|As [.t c,.t d] [Ey T n (Oc v c) (S "make_merge3") c,CP T n (Ah<|AH 1034) [x,y,z,c] d,Bf T<|Ah<|AH 1034] P.O ⋯ ⟨rU P C ⋯ ⋯ hc,h,kb,AI⟩
end
section
open PySem.Builtin PySem.SeqAt
namespace FC
theorem RM:Slot "bytes" (cmpInfo .Lt).2.1 "bytes.__lt__" :=
 .of (owner:= "bytes") (n:= "__lt__") (by rw[R8,L7];kernel_rfl) (by decide+kernel) (by decide+kernel) (by decide+kernel)
  (by first|exact Ax (by decide+kernel)|exact .inr<|by decide+kernel) (by rw[JP];kernel_rfl)
theorem YR:Yp AFF "bytes.__lt__" =D Builtin.«bytes.__lt__»:=Jg<|by kernel_rfl
theorem Vb(a b:Am):Pe "bytes.__lt__" ⟨[a,b],[]⟩:=by unfold Pe;rw[Vh (id:= "bytes.__lt__") (n:= "__lt__".toList.reverse) (o:=['s','e','t','y','b']) (by kernel_rfl) dH];kernel_rfl
end FC
noncomputable def ltB(a b:I BB):Bool:=AFN a b== .lt
theorem gW(h:Q (FH (ltB b c)) s):Ao (M T) A (richCompare .Lt (D0 (AU b) t) (D0 (AU c) u)) Q E s:=by refine wpAny_richCompare_same (Ek _ _ _) (Ek _ _ _) FC.RM<|Gl FC.RM (Ek _ _ _) FC.YR ?_<|FC.Vb _ _;unfold Builtin.«bytes.__lt__»;refine AD<|AP ?_;refine AD<|Ji (Ek _ _ _) F.sub_bytes_bytes ?_;exact AP<|K0 _ B (λh=>Ff h) h
abbrev HQ:=Aa×I BB
noncomputable def lS(x y:HQ):Bool:=match x.1==y.1 with|true=>ltB x.2 y.2|false=>Bx<|x.1<y.1
theorem ABc(a:I BB):ltB a a=false:=by
 unfold ltB;induction a with
 |nil=>rfl
 |cons x r d=>unfold AFN;rw[CQ<|zX x,CQ<|zX x];exact d
def ABd(h:Dw)(v:Am)(x:HQ):Prop:= ∃a t u,v=AH a/\zp h a #[.int x.1 t,D0 (AU x.2) u]
theorem Xf(N:ABd s.heap v x)(L:ABd s.heap w y)(O:A.units+2<tM)(h:Q (FH (lS x y)) s):Ao (M T) A (richCompare .Lt v w) Q E s:=by
 (refine Hr N λa t u d h1=>?_;subst d)
 (refine Hr L λb z r d h2=>?_;subst d)
 refine LO (id h1) λo1 j G n1 l=>?_;refine LO (id h2) λo2 g C n2 i=>?_;refine wpAny_richCompare_same_room h1.typeIs h2.typeIs AFO (Gl AFO h1.typeIs F.entry_tuple_lt ?_<|F.args_tuple_lt_2 _ _)<|Pj [_,_] [.t (.a A9<|.n 2) BQ] A9 BQ [1] B O;unfold Builtin.«tuple.__lt__»;refine AD<|AP ?_;skip;refine AD<|Ji h2.typeIs F.sub_tuple_tuple ?_;refine B2 (Bc<|by decide) ?_;refine AD<|AD<|CA j l<|AP ?_;refine AD<|AD<|CA g i<|AP ?_;show Ao _ _ (tQ [(EF x.1 t,EF y.1 z),(D0 (AU x.2) u,D0 (AU y.2) r)] _ _>>=_) _ _ _;rw[Gu];refine AD<|AD<|AD<|AE7 _ _ _ _ _ _ _ _ ?_;cases q:x.1==y.1 with
 |false=>
  have e:lS x y=Bx (x.1<y.1):=by simp only[lS,q]
  rw[e]at h;refine AD<|MG<|AD<|cmp_ofLt<|Yh ?_;exact AD<|AP<|AP<|AP<|AP<|K0 _ B (λh=>Ff h) h
 |true=>
  have e:lS x y=ltB x.2 y.2:=by simp only[lS,q]
  rw[e]at h;refine AP ?_
  dsimp only
  rw[Gu];refine AD<|AD<|eD _ _ _ _ _ _ _ _ ?_;cases hb:x.2.toArray.toList==y.2.toArray.toList with
  |false=>
   refine AD<|MG<|AD<|gW ?_;exact AD<|AP<|AP<|AP<|AP<|K0 _ B (λh=>Ff h) h
  |true=>
   have e2:x.2=y.2:=by simpa using hb
   rw[e2,ABc]at h;refine AP ?_
   dsimp only
   rw[Mw];exact AP<|AP<|K0 _ B (λh=>Ff h) h
noncomputable def Hd(i j:Aj)(l:I α):I α:=l[i]?.elim l λx=>l[j]?.elim l λy=>(l.set i y).set j x
theorem Rx(d:l[i]? =D x)(a:l[j]? =D y):Hd i j l=(l.set i y).set j x:=by unfold Hd;rw[d,a];rfl
theorem HR:(Hd i j l).length=U l:=by
 unfold Hd;cases l[i]?with
 |none=>rfl
 |some x=>
  cases l[j]?with
  |none=>rfl
  |some y=>exact(AAC ..).trans<|AAC ..
theorem aF(f:d->a):(Hd i j l).map f=Hd i j (l.map f):=by
 unfold Hd;rw[Bv,Bv];cases l[i]?with
 |none=>rfl
 |some x=>
  cases l[j]?with
  |none=>rfl
  |some y=>exact AFP.trans<|BI (λl=>List.set l j<|f x) AFP
noncomputable def ox:Aj->Aj->I HQ->I HQ
 |0,_,xs=>xs
 |_+1,0,xs=>xs
 |f+1,p+1,xs=>xs[p+1]?.elim xs λx=>xs[p/2]?.elim xs λy=>bif lS x y then ox f (p/2) (Hd (p/2) (p+1) xs)else xs
theorem xH(d:xs[p+1]? =D x)(a:xs[p/2]? =D y):ox (f+1) (p+1) xs=bif lS x y then ox f (p/2) (Hd (p/2) (p+1) xs)else xs:=by show(xs[p+1]?.elim xs λx=>xs[p/2]?.elim xs λy=>bif lS x y then ox f (p/2) (Hd (p/2) (p+1) xs)else xs)=_;rw[d,a];rfl
noncomputable def Od(pos:Aj)(xs:I HQ):Nat:=xs[2*pos+1]?.elim (2*pos+1) λl=>xs[2*pos+2]?.elim (2*pos+1) λr=>bif lS l r then 2*pos+1 else 2*pos+2
theorem aG(d:xs[2*pos+1]? =D x)(a:xs[2*pos+2]? =D y):Od pos xs=bif lS x y then 2*pos+1 else 2*pos+2:=by unfold Od;rw[d,a];rfl
theorem gX(a:xs[2*pos+2]? =AQ):Od pos xs=2*pos+1:=by unfold Od;rw[a];cases xs[2*pos+1]? <;>rfl
noncomputable def Xg:Aj->Aj->I HQ->I HQ×Aj
 |0,pos,xs=>(xs,pos)
 |f+1,pos,xs=>bif jR pos (U xs/2)then Xg f (Od pos xs) (Hd (Od pos xs) pos xs)else(xs,pos)
theorem Xh(f pos:Aj)(xs:I HQ):Xg (f+1) pos xs=bif jR pos (U xs/2)then Xg f (Od pos xs) (Hd (Od pos xs) pos xs)else(xs,pos):=B
theorem Xi(f:Aj):∀pos xs,(ox f pos xs).length=U xs:=by
 induction f with
 |zero=>exactλ_ _=>B
 |succ f a=>
  intro pos xs;cases pos with
  |zero=>rfl
  |succ p=>
   show(xs[p+1]?.elim xs λx=>xs[p/2]?.elim xs λy=>bif lS x y then ox f (p/2) (Hd (p/2) (p+1) xs)else xs).length=_;cases xs[p+1]?with
   |none=>rfl
   |some x=>
    cases xs[p/2]?with
    |none=>rfl
    |some y=>
     show(bif lS x y then ox f (p/2) (Hd (p/2) (p+1) xs)else xs).length=_;cases lS x y with
     |false=>rfl
     |true=>exact(a _ _).trans HR
theorem cK(f:Aj):∀pos xs,(Xg f pos xs).1.length=U xs:=by
 induction f with
 |zero=>exactλ_ _=>B
 |succ f a=>
  intro pos xs;rw[Xh];cases jR pos (U xs/2)with
  |false=>rfl
  |true=>exact(a _ _).trans HR
noncomputable def Ga(x:HQ):DV:=FI [AM x.1,AJ x.2]
noncomputable def CM(xs:I HQ):I DV:=xs.map Ga
theorem A8.set(i:Tr T h X d v):∀ {ds:I DV} {vs:I Am} (k:Aj),A8 T h X ds vs->A8 T h X (ds.set k d) (vs.set k v):=by
 intro ds;induction ds with
 |nil=>intro vs k t;obtain rfl:=t.inv;exact E4
 |cons e r j=>
  intro vs k t;obtain⟨_,_,rfl,a,q⟩:=t.inv;cases k with
  |zero=>exact Cw i q
  |succ k=>exact Cw a<|j k q
theorem A8.swap(t:A8 T h X ds vs):A8 T h X (Hd i j ds) (Hd i j vs):=by
 have C:=t.length;have G:∀k,¬k<U vs->vs[k]? =AQ/\ds[k]? =Option.none:= λk h=>⟨Ky<|bK h,Ky<|C▸bK h⟩;by_cases y:i<U vs
 ·by_cases u:j<U vs
  ·rw[Rx (AR y)<|AR u,Rx (AR<|C▸y)<|AR<|C▸u];exact A8.set (t.get i (C▸y) y) _<|A8.set (t.get j (C▸u) u) _ t
  ·unfold Hd;rw[(G j u).1,(G j u).2];cases vs[i]? <;>cases ds[i]? <;>exact t
 ·unfold Hd;rw[(G i y).1,(G i y).2];exact t
theorem AG0(t:A8 T h X (CM xs) vs){k:Aj}(e:vs[k]? =D v):∃x,xs[k]? =D x/\ABd h v x:=by
 have l:=t.length;refine Dx (Pl e) λj e1=>?_;have i:=l▸j;have y:k<U xs:=by simpa [CM]using i
 refine(CB (xs[k]) (AR y) ?_);have:=t.get k i j;rw[e1,show(CM xs)[k] =Ga xs[k] by simp[CM]]at this;unfold Ga at this
 (refine BU this.inv λa z g q C ha=>?_;subst g)
 ·(refine Bk ha.inv λ_ _ d a1 r=>?_;subst d)
  ·cases r with
   |cons a2 r=>
    obtain rfl:=r.inv
    (refine Dx a1.inv λt d=>?_;subst d)
    (refine Dx a2.inv λu d=>?_;subst d)
    exact⟨a,t,u,B,q⟩
theorem Xk(t:A8 T h X (CM xs) vs){k:Aj}(e:xs[k]? =D x):∃v,vs[k]? =D v/\ABd h v x:=by
 have i:=t.length;refine Dx (Pl e) λj e1=>?_;have a:k<U vs:=by rw[i];simpa [CM]using j
 refine Ap (AG0 t<|AR a) λl d g=>?_;obtain rfl:=AE<|e.symm.trans d;exact(CB _ (AR a) g)
theorem Jd(q:FK s.heap l its)(hz:AK its<=AY)(e:(f its).size<=AY+1)(k:∀h',FK h' l (f its)->Hg l s.heap h'->Q () {s with heap:=h'}):Ao (M T) A (updateSeq l f) Q E s:=by refine BU (id q) λo n i r g h=>?_;refine Dx (Jk h f) λj a=>?_;refine dS i h (k _ ⟨_,j,Dm _ i<|Hp a,(RX ..).trans r,?_,a⟩<|Dy ..) hz e;obtain⟨c,d,v,u⟩:=o;subst h;exact g
namespace FC
theorem R2:Yp AFF "_heapq.heapify.sift" =D Builtin.«_heapq.heapify.sift»:=Jg<|by kernel_rfl
theorem Gx:plainId "_heapq.heapify.sift" =true:=by decide+kernel
end FC
theorem Nw{xs:Ef Am}{i:Aj}(e:xs[i]? =D v)(a:f=(match xs[i]?with|some v=>Ce v|none=>unsupported "internal:_heapq.index")):f=Ce v:=by rw[a,e]
theorem gY(d:vs[i]? =D x)(a:vs[j]? =D y):(vs.toArray.setIfInBounds i y).setIfInBounds j x=(Hd i j vs).toArray:=by rw[Rx d a,Mx,Mx]
noncomputable abbrev TC(l:Az)(a:Ba)(pos:Aj)(r:Am):Args:=⟨[AH l,FH AB,FH a,Jo pos,Jo 0,r,Jo<|-1],[]⟩
theorem Oe(O:Cr T)(d:X l)(hs:Hg l h h'):Up h X h' X:= λb o e a=>⟨hs.extBut b o (λq=>a<|q▸d) e,a⟩
def xJ(T:Th)(A:Hk)(X:Az->Prop)(l:Az)(r:Am)(d:Ba)(pos:Aj)(xs ys:I HQ):Prop:= ∀vs s R,U xs<=AY->FK s.heap l (AU vs)->A8 T s.heap X (CM xs) vs->
  (∀h' a,FK h' l (AU a)->A8 T h' X (CM ys) a->Q9 l s.heap h'->R (zr<|N8 r) {s with heap:=h'})->Mf (M T) A (Iy "_heapq.heapify.sift"<|TC l d pos r) R s
theorem aH(xs:I HQ):xJ T A X l r AB 0 xs xs:= λvs s R hz a d k=>by
 refine BU (id a) λo n g j h i=>?_;refine da FC.R2 ?_;rw[QZ FC.Gx _];unfold Builtin.«_heapq.heapify.sift»;skip;refine AD<|AD<|CA g i<|AP ?_
 (refine B2 (Bc CD) ?_;refine B2 (Bc<|by simp) ?_;refine C0 (CI<|by decide) ?_)
 refine AP<|k _ vs a ?_ λb o _ e=>e;exact d
theorem oy(O:Cr T)(hu:A.units+5<tM)(xl:X l)(f:Aj):∀pos xs,pos<=f->pos<U xs\/pos=0->xJ T A X l r AB pos xs (ox f pos xs):=by
 induction f with
 |zero=>
  intro pos xs L _;obtain rfl:=qJ.mp L;exact aH xs
 |succ f ih=>
  intro pos xs L hp;cases pos with
  |zero=>exact aH xs
  |succ p=>
   intro vs s R hz G ht k;refine BU (id G) λo n C hc a0 N=>?_;have h:=hp.resolve_right<|WD p;have d:U vs=U xs:=by rw[ht.length];simp[CM]
   obtain⟨x,y,ex,Q⟩:∃x y,xs[p+1]? =D x/\xs[p/2]? =D y:=(RD _ _ (AR h)<|AR<|Bj (QX ..)<|zY h);refine Ap (Xk ht ex) λv ev hv=>?_;refine Ap (Xk ht Q) λw ew hw=>?_;have q:vs.toArray[p+1]? =D v:=by simpa using ev
   have j:vs.toArray[p/2]? =D w:=by simpa using ew
   refine da FC.R2 ?_;rw[QZ FC.Gx _];unfold Builtin.«_heapq.heapify.sift»;skip;refine AD<|AD<|CA C N<|AP ?_
   (refine B2 (Bc CD) ?_;refine C0 (CI<|by simp) ?_)
   refine AD<|CW (Nw q B) ?_;refine AD<|CW (Nw j B) ?_;refine B2 (Bc CD) ?_;refine AD<|AD<|BV<|AD<|Xf hv hw (by exact Pj [_,_] [.t (.a A9<|.n 5) BQ] (.a (.a A9 DB)<|.n 2) BQ [1] B hu)<|AP ?_;refine AD<|AD<|CA C N<|AP ?_;refine B2 (Bc<|by simp) ?_;refine AP ?_;cases i:lS x y with
   |false=>
    (refine B2 (Bc CD) ?_;refine C0 (CI<|by decide) ?_)
    refine AP<|k _ vs G ?_ λb o _ e=>e;have:ox (f+1) (p+1) xs=xs:=(xH ex Q).trans<|i▸B;rw[this];exact ht
   |true=>
    refine C0 (CI B) ?_;refine AD<|AD<|AD<|CA C N<|AP ?_;refine AD<|CW (Nw j B)<|AD<|CW (Nw q B) ?_;refine Jd G (by simp only[Ab];exact DT [_,_,_] [.l A9 BQ,.e B5 A9] B5 BQ [1,1] B hz d) (by simp only[Di,Ab];exact DT [_,_,_] [.l A9 BQ,.e B5 A9] B5 (.a BQ DB) [1,1] B hz d) λh' g hs=>?_;rw[show((p+1:Aj):Aa).toNat=p+1 from B]at g;rw[show(p+1-1)/2=p/2 from B,gY ew ev]at g;have z:A8 T h' X (CM<|Hd (p/2) (p+1) xs) (Hd (p/2) (p+1) vs):=by unfold CM;rw[aF];exact(ht.up O<|Oe O xl hs).swap
    refine AP (a:=Lr<|Iy "_heapq.heapify.sift"<|TC l AB (p/2) r) ⟨KH FC.Gx _,?_⟩;refine ih (p/2) _ (AO (QX ..)<|Ph L) (Ax<|by rw[HR];exact Bj (QX ..)<|zY h) _ {s with heap:=h'} R (by rw[HR];exact hz) g z λh2 u g1 g2 g3=>?_;refine k h2 u g1 ?_ λb o hb e=>g3 b o hb<|hs.extBut b o hb e;have:ox (f+1) (p+1) xs=ox f (p/2) (Hd (p/2) (p+1) xs):=(xH ex Q).trans<|i▸B;rw[this];exact g2
end
section
open PySem.Builtin PySem.SeqAt
set_option backward.match.sparseCases true
set_option tactic.hygienic true
noncomputable def RH(f pos:Aj)(xs:I HQ):I HQ:=ox (Xg f pos xs).2 (Xg f pos xs).2 (Xg f pos xs).1
theorem rV(O:Cr T)(hu:A.units+5<tM)(xl:X l)(f:Aj):∀pos xs,U xs<pos+f->pos<U xs->xJ T A X l r J pos xs (RH f pos xs):=by
 induction f with
 |zero=>exactλpos xs h u=>Ay u<|G6.mpr<|C7 h
 |succ f ih=>
  intro pos xs hf hp vs s R hz Q ht k;refine BU (id Q) λo n L hc a5 hd=>?_;have d:U vs=U xs:=by rw[ht.length];simp[CM]
  refine da FC.R2 ?_;rw[QZ FC.Gx _];unfold Builtin.«_heapq.heapify.sift»;skip;refine AD<|AD<|CA L hd<|AP ?_;refine C0 (CI B) ?_;rw[show((pos:Aj):Aa).toNat=pos from B,show AK vs.toArray=U xs by rw[Ab,d]];cases j:jR pos (U xs/2)with
  |false=>
   have h1: ¬pos<U xs/2:= λq=>by exact nY<|(show jR pos (U xs/2)=J from Nat.ble_eq_true_of_le (Nat.succ_le_of_lt q)).symm.trans j
   refine B2 (Bc h1) ?_;refine AP (a:=Lr<|Iy "_heapq.heapify.sift"<|TC l AB pos r) ⟨KH FC.Gx _,?_⟩;have e:RH (f+1) pos xs=ox pos pos xs:=by unfold RH;rw[Xh,j];rfl
   rw[e]at k;exact oy O hu xl pos pos xs (BO _) (Ax hp) vs s R hz Q ht k
  |true=>
   have h1:=Be j;refine C0 (CI h1) ?_;have i:vs[pos]? =D (vs[pos]'(d▸hp)):=AR _;have z:∀c w,c=Od pos xs->vs[c]? =D w->pos<c->∀h',FK h' l ((vs.toArray.setIfInBounds c<|vs[pos]'(d▸hp)).setIfInBounds pos w)->Hg l s.heap h'->Mf (M T) A (Iy "_heapq.heapify.sift"<|TC l J c r) R {s with heap:=h'} := λc w a4 C a2 h' g hs=>by
    rw[gY C i]at g;have a3:c<U xs:=by have:=(Pl C).1;exact FN (by assumption)<|by assumption
    have a1:A8 T h' X (CM<|Hd c pos xs) (Hd c pos vs):=by unfold CM;rw[aF];exact(ht.up O<|Oe O xl hs).swap
    refine ih c _ (by rw[HR];exact Pj [_,_,_,_] [.t A9<|.a BQ<|.a B5 DB,.t BQ Jj] A9 (.a Jj B5) [1,1] B hf a2) (by rw[HR];exact a3) _ {s with heap:=h'} R (by rw[HR];exact hz) g a1 λu a0 g1 g2 g3=>?_;refine k u a0 g1 ?_ λb o j e=>g3 b o j<|hs.extBut b o j e;have:RH (f+1) pos xs=RH f c (Hd c pos xs):=by subst a4;unfold RH;rw[Xh,j];rfl
    rw[this];exact g2
   by_cases u:2*pos+1+1<U xs
   ·refine C0 (CI u) ?_;obtain⟨x,y,ex,ey⟩:∃x y,xs[2*pos+1]? =D x/\xs[2*pos+2]? =D y:=(RD _ _ (AR<|by exact C7<|by assumption)<|AR u);refine Ap (Xk ht ex) λv G hv=>?_;refine Ap (Xk ht ey) λw C hw=>?_;refine AD<|CW (Nw (by simpa using G) B) ?_;refine AD<|CW (Nw (by simpa using C) B) ?_;refine B2 (Bc CD) ?_;refine AD<|AD<|BV<|AD<|Xf hv hw (by exact Pj [_,_] [.t (.a A9<|.n 5) BQ] (.a (.a A9 DB)<|.n 2) BQ [1] B hu)<|AP ?_;refine AD<|AD<|CA L hd<|AP ?_;refine B2 (Bc<|by simp[d]) ?_;refine AP ?_;cases N:lS x y with
    |true=>
     refine B2 (Bc<|by decide) ?_;refine AD<|AD<|AD<|CA L hd<|AP ?_;refine AD<|CW (Nw (by simpa using G) B)<|AD<|CW (Nw (by rw[FA];exact i) B) ?_;refine Jd Q (by simp only[Ab];exact DT [_,_,_] [.l A9 BQ,.e B5 A9] B5 BQ [1,1] B hz d) (by simp only[Di,Ab];exact DT [_,_,_] [.l A9 BQ,.e B5 A9] B5 (.a BQ DB) [1,1] B hz d) λh' g hs=>?_;exact AP (a:=Lr<|Iy "_heapq.heapify.sift"<|TC l J (2*pos+1) r) ⟨KH FC.Gx _,z (2*pos+1) _ (by rw[aG ex ey,N];rfl) G (Pj [_] [] A9 (.a (.m 2 A9) DB) [] B) h' g hs⟩
    |false=>
     refine C0 (CI<|by decide) ?_;refine AD<|AD<|AD<|CA L hd<|AP ?_;refine AD<|CW (Nw (by simpa using C) B)<|AD<|CW (Nw (by rw[FA];exact i) B) ?_;refine Jd Q (by simp only[Ab];exact DT [_,_,_] [.l A9 BQ,.e B5 A9] B5 BQ [1,1] B hz d) (by simp only[Di,Ab];exact DT [_,_,_] [.l A9 BQ,.e B5 A9] B5 (.a BQ DB) [1,1] B hz d) λh' g hs=>?_;exact AP (a:=Lr<|Iy "_heapq.heapify.sift"<|TC l J (2*pos+1+1) r) ⟨KH FC.Gx _,z (2*pos+1+1) _ (by rw[aG ex ey,N];rfl) C (Pj [_] [] A9 (.a (.a (.m 2 A9) DB) DB) [] B) h' g hs⟩
   ·refine B2 (Bc u) ?_;have ey:=Ky<|by exact bK<|by assumption
    refine Ap (Xk ht<|AR<|Dz (show 2*pos+1<2*(pos+1)from PC _)<|AO (Me 2 h1)<|Nat.mul_div_le ..) λv G hv=>?_;refine AD<|AD<|AD<|CA L hd<|AP ?_;refine AD<|CW (Nw (by simpa using G) B)<|AD<|CW (Nw (by rw[FA];exact i) B) ?_;refine Jd Q (by simp only[Ab];exact DT [_,_,_] [.l A9 BQ,.e B5 A9] B5 BQ [1,1] B hz d) (by simp only[Di,Ab];exact DT [_,_,_] [.l A9 BQ,.e B5 A9] B5 (.a BQ DB) [1,1] B hz d) λh' g hs=>?_;exact AP (a:=Lr<|Iy "_heapq.heapify.sift"<|TC l J (2*pos+1) r) ⟨KH FC.Gx _,z (2*pos+1) _ (gX ey).symm G (Pj [_] [] A9 (.a (.m 2 A9) DB) [] B) h' g hs⟩
end
section
open PySem.Builtin PySem.SeqAt
namespace FC
theorem mo:Yp AFF "_heapq.heappush" =D Builtin.«_heapq.heappush»:=Jg<|by kernel_rfl
theorem tI:Yp AFF "_heapq.heappop" =D Builtin.«_heapq.heappop»:=Jg<|by kernel_rfl
theorem tH(a b:Am):Pe "_heapq.heappush" ⟨[a,b],[]⟩:=by unfold Pe;kernel_rfl
theorem yz(a:Am):Pe "_heapq.heappop" ⟨[a],[]⟩:=by unfold Pe;kernel_rfl
end FC
noncomputable def MX(x:HQ)(xs:I HQ):I HQ:=ox (U xs) (U xs)<|xs++[x]
noncomputable def NQ:I HQ->HQ×I HQ
 |[] =>((0,[]),[])
 |[x] =>(x,[])
 |x::y::r=>(x,RH (U r+2) 0 ((y::r).getLast (C2 _ _)::(y::r).dropLast))
theorem A8.last(i:ds≠ [])(N:vs≠ [])(t:A8 T h X ds vs):Tr T h X (ds.getLast i) (vs.getLast N)/\A8 T h X ds.dropLast vs.dropLast:=by
 induction ds generalizing vs with
 |nil=>exact Ay B i
 |cons d ds C=>
  obtain⟨v,j,rfl,a,r⟩:=t.inv;cases ds with
  |nil=>obtain rfl:=r.inv;exact⟨a,E4⟩
  |cons d' Q=>
   obtain⟨v',u,rfl,b,y⟩:=r.inv;exact F3 (C (C2 _ _) (C2 _ _)<|Cw b y) λL G=>⟨L,Cw a G⟩
theorem rW(O:Cr T)(y:A.units+9<tM)(j:X l)(hz:U xs<AY)(hl:FK s.heap l (AU vs))(ht:A8 T s.heap X (CM xs) vs)(tv:Tr T s.heap X (Ga x) v)
  (k:∀h' h,FK h' l (AU h)->A8 T h' X (CM (MX x xs)) h->Q9 l s.heap h'->Q AN {s with heap:=h'}):Ao (M T) A (RV (AS "_heapq.heappush") [AH l,v]) Q E s:=by
 have d:U vs=U xs:=by rw[ht.length];simp[CM]
 refine AFQ (by decide+kernel) (by decide+kernel) FC.mo (FC.tH _ _) ?_;unfold Builtin.«_heapq.heappush»;refine AD<|AD<|AP<|AD<|AP ?_;refine AD<|AD<|Ji hl.isList.typeIs AFR<|AP<|AP ?_;refine AD<|Jd hl (by simp only[Ab];exact DT [_,_,_] [.t A9 BQ,.e B5 A9] B5 BQ [1,1] B hz d) (by simp only[zZ,Ab];exact DT [_,_,_] [.t A9 BQ,.e B5 A9] (.a B5 DB) (.a BQ DB) [1,1] B hz d) λh' i hs=>?_;have g:FK h' l (vs++[v]).toArray:=by rw[NY]at i;exact i
 refine BU (id g) λo n z hc C G=>?_;refine AD<|AD<|CA z G<|AP ?_;have e:(vs++[v]).toArray.size-1=U xs:=by simp[d]
 rw[e];refine AP (a:=Lr<|Iy "_heapq.heapify.sift"<|TC l AB (U xs) AN) ⟨KH FC.Gx _,?_⟩;have r:A8 T h' X (CM<|xs++[x]) (vs++[v]):=by unfold CM;rw[Cv];exact(ht.up O<|Oe O j hs).append<|Cw (tv.up O<|Oe O j hs) E4
 refine oy O (Pj [_,_] [.t (.a A9<|.n 9) BQ] (.a A9<|.n 5) BQ [1] B y) j _ _ _ (BO _) (Ax<|by simp) _ {s with heap:=h'} _ (by simp;assumption) g r λL q g1 g2 N=>?_;exact k L q g1 g2 λb o u e=>N b o u<|hs.extBut b o u e
theorem xK(O:Cr T)(hu:A.units+9<tM)(z:X l)(hz:(x0::x).length<AY)(hl:FK s.heap l (AU vs))(ht:A8 T s.heap X (CM (x0::x)) vs)
  (k:∀h' C v,FK h' l (AU C)->A8 T h' X (CM (NQ (x0::x)).2) C->Tr T h' X (Ga (NQ (x0::x)).1) v->Q9 l s.heap h'->Q v {s with heap:=h'}):Ao (M T) A (RV (AS "_heapq.heappop") [AH l]) Q E s:=by
 have d:U vs=(x0::x).length:=by rw[ht.length];simp[CM]
 refine BU (id hl) λo n ho hc a1 hd=>?_;refine AFQ (by decide+kernel) (by decide+kernel) FC.tI (FC.yz _) ?_;unfold Builtin.«_heapq.heappop»;refine AD<|AD<|AD<|AP ?_;refine AP<|AD<|AD<|Ji hl.isList.typeIs AFR<|AP<|AP ?_;skip;refine AD<|AD<|CA ho hd<|AP ?_;cases ht with
 | @cons _ g _ vr t0 tr=>
 cases x with
 |nil=>
  obtain rfl:=tr.inv;rw[show([g].toArray).back?=D g from B];skip;refine AD<|Jd hl (by simp[Ak]) (by simp) λh' j hs=>?_;refine C0 (CI<|by rfl) ?_;exact AP<|k h' [] g j E4 (t0.up O<|Oe O z hs) λb o u e=>hs.extBut b o u e
 |cons y r=>
  cases tr with
  | @cons _ w _ wr t1 tr=>
  have u:(g::w::wr).toArray.back?=D ((w::wr).getLast<|C2 _ _):=by rw[List.back?_toArray,List.getLast?_cons_cons,List.getLast?_eq_some_getLast<|C2 w wr]
  rw[u];skip;have N:(g::w::wr).length<=sizeLine:=by rw[d];exact C7<|by assumption
  refine AD<|Jd hl (by rw[Ab];exact N) (by rw[Ys,Ab];exact AO (LJ ..)<|AO (B8 d)<|AO (C7 hz)<|Ej _) λh' j hs=>?_;refine B2 (Bc<|by simp) ?_;refine AD<|CW (Nw (xs:=(g::w::wr).toArray) (i:=0) (v:=g) (by rfl) B) ?_;refine AD<|Jd j (by rw[Ys,Ab];exact C7<|by assumption) (by rw[Di,Ys,Ab];exact AO (LJ ..)<|AO (B8 d)<|AO (C7 hz)<|Ej _) λh2 h G=>?_;rw[List.pop_toArray,List.dropLast_cons_cons,Mx,List.set_cons_zero]at h;have U1:=Oe (T:=T) O z hs;have U2:=Oe (T:=T) O z G;refine F3 (A8.last (C2 _ _) (C2 _ _)<|Cw t1 tr) λl1 l2=>?_;have e1:(Ga y::nE Ga r).getLast (C2 _ _)=Ga ((y::r).getLast<|C2 _ _):=List.getLast_map (f:=Ga) (l:=y::r)<|by simp
  have e2:(Ga y::nE Ga r).dropLast=((y::r).dropLast).map Ga:=(List.map_dropLast (f:=Ga) (l:=y::r)).symm;rw[e1]at l1;rw[e2]at l2;have a0:A8 T h2 X (CM<|(y::r).getLast (C2 _ _)::(y::r).dropLast) ((w::wr).getLast (C2 _ _)::(w::wr).dropLast):=Cw ((l1.up O U1).up O U2)<|(l2.up O U1).up O U2;refine AP (a:=Lr<|Iy "_heapq.heapify.sift"<|TC l J 0 g) ⟨KH FC.Gx _,?_⟩;refine rV O (Pj [_,_] [.t (.a A9<|.n 9) BQ] (.a A9<|.n 5) BQ [1] B hu) z (U r+2) 0 _ (by simp) (by simp) _ {s with heap:=h2} _ (by simp at hz⊢ <;>exact DT [_,_] [.t (.a (.a A9 DB) DB) BQ] (.a A9 DB) BQ [1] B hz) h a0 λh3 L g1 g2 g3=>?_;have ext:Q9 l s.heap h3:= λb o u e=>g3 b o u<|G.extBut b o u<|hs.extBut b o u e;have U3:Up s.heap X h3 X:= λb o e nx=>⟨ext b o (λq=>nx<|q▸z) e,nx⟩;exact k h3 L g g1 g2 (t0.up O U3) ext
end
section
open PySem.Builtin
noncomputable abbrev xM:Str:=S "pq"
noncomputable def Xl(e:A2):Str:=if h:e.ctorIdx=19 then DK (motive_1:= λ_=>Bt) e h λa _ _=>(match a with|.str x=>x|_=>BN)else BN
noncomputable def rX(e:A2):Nat:=if h:e.ctorIdx=19 then DK (motive_1:= λ_=>Aj) e h λ_ k _=>k else 0
noncomputable def rY(e:A2):Pos:=if h:e.ctorIdx=19 then DK (motive_1:= λ_=>LH) e h λ_ _ p=>p else BN
noncomputable def AG1(e:A2):Pos:=if h:e.ctorIdx=24 then Ln (motive_1:= λ_=>LH) e h λ_ p=>p else BN
noncomputable def dM(xs:I HQ):K2:=.wl 1129 xM<|CM xs
theorem ABe(P:Bw T)(n:Aj)(aok:Le (n+1) A)(d:Cm T s)(x:Hs T X s.heap)(w:Ei T X s.heap [a,j] (DP 1129 [] []))(xF:∀b∈[a,j],X b)
  (K:∀l s',(∀b ob,¬T.Tab b->b∉ [a,j] ->AA s.heap b=D ob->AA s'.heap b=D ob)->AA s.heap l=AQ->Cm T s'->Ei T (Jn X [l]) s'.heap [a,j,l] (dM [])->R (zr (N8 AN)) s'):Mf (M T) A (qB (AH 1105) ⟨[AH a],[]⟩) R s:=by
 refine E0 (CS P.toHN 50 1105 1104 (Bl 64 1) (S "WorkList.__init__") AN ⋯ ⋯ ⋯ B B) λdc pm F=>?_;have C:=L1 (λa=>K9<|AA T.H1 a) (λa=>Vs<|AA T.H1 a) λa=>Vt<|AA T.H1 a;refine Ap F.obj λob o1 o2=>?_;have a3:s.heap.CodeRec (AH 1104) (S "WorkList.__init__"):=by refine EX F.code λc oc fs t e1 e2 e3=>?_;exact⟨c,oc,fs,t,e1,d.ext _ _ (F.Te c e1) e2,e3⟩
 refine Dt (fd:=GX (LP (Bl 64 1) (S "WorkList.__init__") [] AN (AH 1104) AN) dc pm) aok.room (d.ext _ _ F.tab o1) o2 ⋯ ⋯ B a3 ?_;rw[show CG (GX (LP (Bl 64 1) (S "WorkList.__init__") [] AN (AH 1104) AN) dc pm) ⟨[AH a],[]⟩=Ce ((C6,AH<|HI [a,j])::([]:I Bt).zip []) by kernel_rfl!];refine AP ?_;refine Z9 (x0:=C6) (ps:=[]) (ds:=[]) (ES:=[]) (cs:=[]) (xs:=[]) (ws:=[]) (locs:=[]) P.O aok d x w xF E4 E4 QV IL PE B B B B (by decide+kernel) ⋯ (tZ ⋯) λa0 s₁ a4 v g=>?_;refine⟨(d.lim P.O).keeps v,Jh ?_⟩;have hk:(DS (GX (LP (Bl 64 1) (S "WorkList.__init__") [] AN (AH 1104) AN) dc pm) (AK s.heap.objs) 1105).scope.kind=BY:=by kernel_rfl!
 generalize DS (GX (LP (Bl 64 1) (S "WorkList.__init__") [] AN (AH 1104) AN) dc pm) (AK s.heap.objs) 1105=env at g hk⊢;have Q:Cc (Bl 64 1)=[BA 0<|Cc<|Bl 64 1,QI C6 xM<|BA 1<|Cc<|Bl 64 1] :=by kernel_rfl!
 rw[show Ve (Cc<|Bl 64 1) env=Ve [BA 0<|Cc<|Bl 64 1,QI C6 xM<|BA 1<|Cc<|Bl 64 1] env by rw[<-Q]];have h0:BA 0 (Cc<|Bl 64 1)=NC (Gj (ACZ<|Xl<|OE<|BA 0<|Cc<|Bl 64 1) (rX<|OE<|BA 0<|Cc<|Bl 64 1)<|rY<|OE<|BA 0<|Cc<|Bl 64 1) (Xa<|BA 0<|Cc<|Bl 64 1):=by kernel_rfl!
 rw[h0];refine DQ<|jF (Ke ?_)<|by unfold PU;rw[hk];rfl
 have S0:=g.ext (s':= {s₁ with toks:=s₁.toks+1}) P.O (C1.refl _)<|g.inv.toks _;have h1:Hz (BA 1<|Cc<|Bl 64 1)=VI [] (AG1<|Hz<|BA 1<|Cc<|Bl 64 1):=by kernel_rfl!
 unfold QI;rw[h1];refine DQ<|ZW<|Sk (n:=n) (ds:=[]) P.O .nil (D1 _) _ a0 _ _ _ _ S0.toAr λFl u r i hF z=>?_;have S2:=S0.ext P.O r i;refine JB S2 (o:=DP 1129 [] []) (f:=D [a,j]) (by rw[<-FF];kernel_rfl!) hk ⋯ λw3 xa=>?_;simp-iota only[EU]at w3 xa⊢;refine EJ w3 λa' a9 a8 eF N hI ta=>?_;cases eF;obtain rfl:=ta.inv;refine Bk z λl a6 el pl tl=>?_;obtain rfl:=tl.inv;subst el;refine gM (J3 P i) hI C.set C.over ⋯ C.dict (by simp) N λh' tk a5 hs=>?_;refine KV ?_;have nl:=hF l<|by simp
 have G:AA s.heap l=none:=by
  cases e:AA s.heap l with
  |none=>rfl
  |some o=>exact Tt<|(v _ _ e).symm.trans nl
 (refine nR hI.soft λa1 od h5 h6=>?_;obtain⟨oa,h3,h4⟩:=a1)
 have a2:∀b∈[a,j],∃ob,AA s.heap b=D ob:= λb Q=>let⟨ob,h,_⟩:=w.fields b Q;⟨ob,h⟩;have y:∀b∈[a,j],b≠l:= λb Q q=>by refine Dx (a2 b Q) λob e=>?_;rw[q,G]at e;exact EN e
 have I':Cm T {u with heap:=h',toks:=tk} :=by
  rcases S2.x.kind j (xa j<|by simp)with q|⟨h1,_⟩
  ·exact Ay q (JA.ADO i hI).2
  ·exact i.turn (s':= {u with heap:=h',toks:=tk}) P.O h1 (λo L=>by obtain rfl:=AE<|h5.symm.trans L;exact Ax h6) λb o ne L=>hs.extBut b o ne L
 refine K l _ (λb ob nt nb e=>hs.extBut b ob (λq=>nb<|by simp[q])<|r b ob nt<|v b ob e) G I' ⟨a,j,l,[],B,?_,a5,PM pl λo L=>hs.extBut l o (λq=>y j (by simp) q.symm) L,E4⟩;simp only[Cj,CV,Au,JQ,ADS,ACl,and_true,not_false_eq_true];exact⟨⟨N,y a<|by simp⟩,y j<|by simp⟩
theorem xN(P:Bw T)(n:Aj):gR T (n+1) 1129 1105 [] (dM []):= λA X s a u vs R g d x w h ta K=>by obtain rfl:=ta.inv;exact ABe P n g d x w h λl s' e j r i=>K [l] s' e (λb q=>by rw[Cx q];exact j) r i
theorem pA(P:Bw T){ad:Bt->I Az}(d:Sx T n A X env pv Z ad s)(L:env.scope.kind=BY)(z:C9 x=J)(r:CY x pv=D (BP f (.wl C y ds)))
  (hC:J4 (KT T) C)(N:Hq (KT T) (AH C) y=D AQ)
  (k:∀a e l vs,ad x=[a,e,l] -> [a,e,l].Nodup->JA s.heap a e C [y] [AH l] ->FK s.heap l (AU vs)->A8 T s.heap X ds vs->X l->Q (AH l) {s with toks:=s.toks+1}):Ao (M T) A (IC (CO (Bu x p) y pos) env) Q E s:=by
 refine jK<|JB d (FF▸r) L z λw i=>?_;refine Gv w λa e l vs eF q h j t=>?_;have g:=h;refine EJ h λes m sl h1 O u hp=>?_;have G:HI (ad x)=a:=by rw[eF];rfl
 rw[G];refine bA (v:=AH l) (od:=D<|Hl es m) (J3 P d.inv) ⟨h1,B,B,O⟩ hC.ga (Ob hp hC.dict N ?_) B<|k a e l vs eF q g j t<|i l<|by rw[eF];simp
 rw[u];exact Zf y _ []
theorem pB(O:Cr T){ad:Bt->I Az}(d:Sx T n A X env pv Z ad s)(hx:CY x pv=D (BP f (.wl C y ds)))(eF:ad x=[a,r,l])(L: [a,r,l].Nodup)(hI:JA s.heap a r C [y] [AH l])(hl:∃vs,FK s.heap l (AU vs))
  (hp:FK h' l (AU i))(t:A8 T h' X u i)(v:Q9 l s.heap h'):∃X' Ez,Sx T n A X' env (D3 x (BP f (.wl C y u)) pv) Z Ez {s with heap:=h',toks:=tk} /\Rj X X' Z/\ ∀b,X' b->X b:=by
 have g:=FQ hx;refine FD (d.f _ g) λ_ z w fx=>?_;have j:l∈ad x:=by rw[eF];simp
 refine Dx hl λvs pl=>?_;refine Ap (ADl pl) λob Q N=>?_;have I':Cm T {s with heap:=h',toks:=tk} :=by
  rcases d.x.kind l (z l j)with q|⟨h1,_⟩
  ·exact Ay q<|d.inv.Bn Q N
  ·exact d.inv.turn (s':= {s with heap:=h',toks:=tk}) O h1 (λo e=>by obtain rfl:=AE<|Q.symm.trans e;exact Ax N) λb o ne e=>v b o ne e
 have ha:a≠l:= λq=>by subst q;simp at L
 have hd:r≠l:= λq=>by subst q;simp at L
 obtain⟨S',hu⟩:=d.JD (s':= {s with heap:=h',toks:=tk}) (F':=ad x) (o':=.wl C y u) (f':=f) O g I' (λb o _ h e=>v b o (λq=>h<|q▸j) e) B (λb h=>Ax h) (λb h=>h)
  ⟨a,r,l,i,eF,L,hI.up (λo e=>v a o ha e) λo e=>v r o hd e,hp,t.up O<|Xb z⟩ (λG hG=>fx G hG)
 exact(Ki _ _ S' hu λb h=>h.elim id<|z b)
theorem xO(P:Bw T){st:Ct}(a2:st=NC (El (Bu "heappush" (Hc (KO (OE st)))) [CO (Bu x (Hc (O8 (EP 0 (OE st))))) y (JM (EP 0 (OE st))),EP 1 (OE st)] [] (Ka (OE st))) (Xa st))
  (hg:O0 G pv "heappush" =D (Ah (AS "_heapq.heappush")))(hx:CY x pv=D (BP f (.wl C y (CM xs))))(hn:C9 x=J)(hC:J4 (KT T) C)(hf:Hq (KT T) (AH C) y=D AQ)(hp:ju (EP 1 (OE st))=J)
  (he:Gm (vE T n 20 G pv (EP 1 (OE st)) as)=D (Ga q,cs))(hc:ER cs)(hz:U xs<AY):Fn T n G pv st Aq (D3 x (BP f (.wl C y (CM (MX q xs)))) pv):= λenv K=>by
 rw[a2];have a0:=(Io P.O K 20).1 _ _ _ _ _ (HM he) hc;generalize EP 1 (OE st)=e at a0 hp;refine MP K.kind λA X Z ad s Q E d KQ KE=>?_;refine Fb<|HZ P.O K hg A X ad s _ E d.toAr λfv s₁ u N t₁=>?_;obtain rfl:=t₁.inv;have i:=d.ext P.O u N;have e1:∀o,Gc (Ka<|OE st) (C5 [CO (Bu x<|Hc<|O8<|EP 0<|OE st) y o,e] env)=[(AB,IC (CO (Bu x<|Hc<|O8<|EP 0<|OE st) y o) env),(AB,IC e env)] := λo=>by revert hp;cases e<;>first|(intro _;rfl)|(intro h;exact Pm h)
 rw[e1];refine Ku (P:= λ_=>True) B (λh' _=>(CB (YV) (BC<|Ax B)<|R5 B))<|Hm<|Yt<|pA P i K.kind hn hx hC hf λa dx l vs eF nd hI pl t xl=>?_;have S₂:=i.ext (s':= {s₁ with toks:=s₁.toks+1}) P.O (C1.refl _)<|i.inv.toks _;refine Yt<|a0 A X ad _ _ E S₂.toAr λv s₃ g L z=>spliced_nil ⟨AI,?_⟩;have a1:=S₂.ext P.O g L;have nt:∀b∈[a,dx,l],¬T.Tab b:= λb hb=>by refine FD (i.f _<|FQ hx) λ_ _ w _=>?_;refine Ap (w.fields b<|by rw[eF];exact hb) λob h1 h2=>?_;exact i.inv.Bn h1 h2
 have j:=PM pl λo ho=>g l o (nt l<|by simp) ho;have r:=hI.up (h':=s₃.heap) (λo ho=>g a o (nt a<|by simp) ho) λo ho=>g dx o (nt dx<|by simp) ho;have t':=t.up P.O<|g.up S₂.x.tab;refine rW P.O (by have:=d.a.units;exact Pj [_,_,_] [.t (.a (.a A9<|.m 10 BQ)<|.n 10) B5] (.a A9<|.n 9) B5 [1] B this) xl hz j t' z λh' a3 g1 g2 g3=>?_;refine Bk (pB (tk:=s₃.toks) P.O a1 hx eF nd r ⟨vs,j⟩ g1 g2 g3) λX' Ez S' hu _=>?_;exact KQ _ X' Ez _ ⟨B,B⟩ hu S'
theorem ABf(P:Bw T){st:Ct}(j:st=Fg [Bu z (Hc (O7 st))] (El (Bu "heappop" (Hc (KO (Hz st)))) [CO (Bu x (Hc (O8 (EP 0 (Hz st))))) y (JM (EP 0 (Hz st)))] [] (Ka (Hz st))) (Rv st))
  (hg:O0 G pv "heappop" =D (Ah (AS "_heapq.heappop")))(N:CY x pv=D (BP f (.wl C y (CM (q0::qr)))))(hn:C9 x=J)(hC:J4 (KT T) C)(hf:Hq (KT T) (AH C) y=D AQ)(hs:JK G z=J)(r:nf pv z=J)
  (hz:(q0::qr).length<AY):Fn T n G pv st Aq (D3 z (mw (Ga (NQ (q0::qr)).1)) (D3 x (BP f (.wl C y (CM (NQ (q0::qr)).2))) pv)):= λenv K=>by
 rw[j];intro A X Z ad s Q E d KQ KE;refine HD ?_;refine Fb<|HZ P.O K hg A X ad s _ _ d.toAr λfv s₁ g h t₁=>?_;obtain rfl:=t₁.inv;have e:=d.ext P.O g h;refine Ku (P:= λ_=>True) B (λh' _=>(CB (YV) (BC<|Ax B)<|R5 B))<|Hm<|Yt<|pA P e K.kind hn N hC hf λa dx l vs eF nd hI L t xl=>spliced_nil ⟨AI,?_⟩;have i:=e.ext (s':= {s₁ with toks:=s₁.toks+1}) P.O (C1.refl _)<|e.inv.toks _;refine xK (s:= {s₁ with toks:=s₁.toks+1}) P.O (by have:=d.a.units;exact Pj [_,_,_] [.t (.a (.a A9<|.m 10 BQ)<|.n 10) B5] (.a A9<|.n 9) B5 [1] B this) xl hz L t λh' a0 v g1 g2 g4 g3=>?_;refine Bk (pB (tk:=s₁.toks+1) P.O i N eF nd hI ⟨vs,L⟩ g1 g2 g3) λX' Ez S' hu hX=>?_;refine MJ P.O S' (g4.less P.O hX) K.kind ⟨K.stores hs,λq=>?_⟩ λs' u=>KQ Aq HK _ X' Ez s' ⟨B,B⟩ hu Mg u;exact Nf r<|Pn.mp q
theorem rZ(hz:(d::ds).length<=1000):FP T n (FI (d::ds)) true:=by
 intro A X s v Q E a g x t K
 (refine BU t.inv λ_ vs i j _ ha=>?_;subst i)
 ·have h:=ha.length;have:=Ak;have e:(!vs.toArray.isEmpty)=true:=by
   cases vs with
   |nil=>cases h
   |cons _ _=>rfl
  exact truthy_tuple j (by simp only[Ab];omega)<|by rw[e];exact K _ (C1.refl _)<|g.toks _
noncomputable def AEO:I Stmt:=Cc<|Bl 64 2
noncomputable def xP:I Stmt:=Cc<|Bl 64 3
theorem lT(P:Bw T)(n:Aj)(xs:I HQ)(d:Aa)(c:I BB)(hz:U xs<AY):Li T (n+1) 1112 (dM xs) [FI [AM d,AJ c]] (dM (MX (-d,c) xs)) BK:=by
 refine E0 (CS P.toHN 52 1112 1111 (Bl 64 2) (S "WorkList.add") AN ⋯ ⋯ ⋯ B B) λdc pm F=>?_;have C:=L1 (λa=>K9<|AA T.H1 a) (λa=>Vs<|AA T.H1 a) λa=>Vt<|AA T.H1 a
 let pv:I Az->I HQ->PV->PV->BD:= λF xs p q=>[(C6,BP (D F)<|dM xs),(S "item",mw<|FI [AM d,AJ c]),(S "dt",p),(S "cmt",q)]
 refine Ko P.O (x0:=C6) (ps:=[S "item"]) (locs:=[S "dt",S "cmt"]) (ES:=[]) (Fe:=[C6]) (Fd F) (B9 P.toHN) B B (Vw λu v=>by kernel_rfl!) (by decide+kernel) ⋯ ⋯ ⋯ (fl:=Aq) (EA:= λF=>pv F (MX (-d,c) xs) (mw<|AM d)<|mw<|AJ c) (λF=>?_) (λF=>by kernel_rfl!) B;refine A7 0 AEO (BE:=pv F xs Af Af) ⋯ (As [] [] P.O ⋯ AI) ?_;refine A7 1 AEO (BE:=pv F xs (mw<|AM d)<|mw<|AJ c) ⋯ (As [] [] P.O ⋯ AI) ?_;refine Cq (s1:=BA 2 AEO) (r:=[]) ⋯ (xO (x:=C6) (y:=xM) (f:=D F) (C:=1129) (xs:=xs) (q:=(-d,c)) (as:=[]) (cs:=[]) P ⋯ ⋯ ⋯ ⋯ C ⋯ ⋯ ⋯ AI hz) ?_;exact Ea B
noncomputable def Qz(q:HQ):DV:=FI [AM<|-q.1,AJ q.2]
theorem AEP(P:Bw T)(n:Aj)(q0:HQ)(qr:I HQ)(hz:(q0::qr).length<AY):Li T (n+1) 1119 (dM (q0::qr)) [] (dM (NQ (q0::qr)).2) (Qz (NQ (q0::qr)).1):=by
 refine E0 (CS P.toHN 54 1119 1118 (Bl 64 3) (S "WorkList.get") AN ⋯ ⋯ ⋯ B B) λdc pm F=>?_;have C:=L1 (λa=>K9<|AA T.H1 a) (λa=>Vs<|AA T.H1 a) λa=>Vt<|AA T.H1 a
 let pv:I Az->I HQ->PV->PV->PV->BD:= λF xs i p q=>[(C6,BP (D F)<|dM xs),(S "item",i),(S "pr",p),(S "cmt",q)]
 generalize g:NQ (q0::qr)=r;obtain⟨q,xs⟩:=r;have e:(NQ<|q0::qr).1=q:=by rw[g]
 have d:(NQ<|q0::qr).2=xs:=by rw[g]
 refine Ko P.O (x0:=C6) (ps:=[]) (locs:=[S "item",S "pr",S "cmt"]) (ES:=[]) (Fe:=[C6]) (Fd F) (B9 P.toHN) B B (cJ λu=>by kernel_rfl!) (by decide+kernel) ⋯ ⋯ ⋯ (fl:=JF<|Qz q) (EA:= λF=>pv F xs (mw<|Ga q) (mw<|AM q.1)<|mw<|AJ q.2) (λF=>?_) (λF=>by kernel_rfl!) B;refine A7 0 xP (BE:=pv F (q0::qr) Af Af Af) ⋯ (As [] [] P.O ⋯ AI) ?_;refine A7 1 xP (BE:=pv F xs (mw<|Ga q) Af Af) ⋯ ?_ ?_
 ·have h:=ABf (n:=n) (G:=⟨(D2<|Bl 64 3).names,HA,[C6],AQ⟩) (pv:=pv F (q0::qr) Af Af Af) (x:=C6) (y:=xM) (z:=S "item") (st:=BA 1 xP) (f:=D F) (C:=1129) (q0:=q0) (qr:=qr) P ⋯ ⋯ ⋯ ⋯ C ⋯ ⋯ ⋯ hz;rw[e,d]at h;exact h
 refine K8 (s1:=BA 2 xP) (r:=xP.drop 3) (BE:=pv F xs (mw<|Ga q) (mw<|AM q.1)<|mw<|AJ q.2) ⋯<|As [.b J,.b J] [FP T n (Ga q) J,J=J] P.O ⋯ ⟨rZ<|by simp,B,AI⟩
noncomputable def Th.pin(T:Th)(p:Ef zj->Prop):Th:= {T with gp:=p}
section
variable{T:Th}{p:Array GenState->Prop}
theorem Tr.Lk(t:Tr (T.pin p) h X d v):Tr (T.pin q) h X d v:=
 Tr.rec (T:=T.pin p) (motive_1:= λd v _=>Tr (T.pin q) h X d v) (motive_2:= λds vs _=>A8 (T.pin q) h X ds vs) YU zK dC .str Vc ACX (λa n _=>.tup a n) (λa n _=>dD a n) (λa n _=>.Ft a n) (λa b n m _=>.Cd a b n m) (λa n m _=>.inst a n m) E4 (λ_ _=>Cw) t
theorem A8.Lk:∀ {ds:I DV} {vs:I Am},A8 (T.pin p) h X ds vs->A8 (T.pin q) h X ds vs:=by
 intro ds;induction ds with
 |nil=>intro vs t;obtain rfl:=t.inv;exact E4
 |cons d r i=>intro vs t;obtain⟨_,_,rfl,a,b⟩:=t.inv;exact Cw a.Lk<|i b
theorem Tr.pin(t:Tr T h X d v):Tr (T.pin p) h X d v:=Tr.Lk (T:=T) (p:=T.gp) t
theorem Tr.LG(t:Tr (T.pin p) h X d v):Tr T h X d v:=Tr.Lk (T:=T) (q:=T.gp) t
theorem A8.LG(t:A8 (T.pin p) h X ds vs):A8 T h X ds vs:=A8.Lk (T:=T) (q:=T.gp) t
theorem Cr.pin(O:Cr T):Cr (T.pin p):=⟨O.tabs,O.Us,O.ACT,O.lim,O.g,O.b,O.gt,O.bt,O.boot,O.ml,O.Cd⟩
theorem Cm.pin(i:Cm T s)(h:p s.gens):Cm (T.pin p) s:=⟨i.ext,i.tab,i.os,h⟩
theorem Cm.LG(i:Cm (T.pin p) s)(h:T.gp s.gens):Cm T s:=⟨i.ext,i.tab,i.os,h⟩
theorem Hs.pin(x:Hs T X h):Hs (T.pin p) X h:=⟨x.tab,x.kind⟩
theorem Hs.LG(x:Hs (T.pin p) X h):Hs T X h:=⟨x.tab,x.kind⟩
theorem Ei.Lk(w:Ei (T.pin p) X h F o):Ei (T.pin q) X h F o:=by
 cases o with
 |lst _=>obtain⟨a,vs,e,q,t⟩:=w;exact⟨a,vs,e,q,t.Lk⟩
 |Ft _ _=>obtain⟨a,vs,e,q,t⟩:=w;exact⟨a,vs,e,q,t.Lk⟩
 |PR _=>obtain⟨a,as,e,i,q,r⟩:=w;exact⟨a,as,e,i,q,Paired.imp r λ_ _ _ h=>h.imp λvs h=>⟨h.1,h.2.Lk⟩⟩
 |inst _ _ _=>obtain⟨a,j,vs,e,u,q,t⟩:=w;exact⟨a,j,vs,e,u,q,t.Lk⟩
 |wl _ _ _=>obtain⟨a,j,l,vs,e,i,q,r,t⟩:=w;exact⟨a,j,l,vs,e,i,q,r,t.Lk⟩
theorem NK.Lk{ad:Bt->I Az}(w:NK (T.pin p) env X h ad x v):NK (T.pin q) env X h ad x v:=by
 cases v with
 |d _=>exact w.imp λv h=>⟨h.1,h.2.Lk⟩
 |no=>trivial
 |own _ _=>exact⟨w.1,w.2.1,w.2.2.1.Lk,w.2.2.2⟩
theorem NK.pin{ad:Bt->I Az}(w:NK T env X h ad x v):NK (T.pin p) env X h ad x v:=NK.Lk (T:=T) (p:=T.gp) w
theorem NK.LG{ad:Bt->I Az}(w:NK (T.pin p) env X h ad x v):NK T env X h ad x v:=NK.Lk (T:=T) (q:=T.gp) w
variable{n:Nat}{A:Around}{X:Addr->Prop}{env:Env}{pv:BD}{Z:Addr->Option Obj}{ad:Str->List Addr}{s:Shared}
theorem Sx.pin(i:Sx T n A X env pv Z ad s)(h:p s.gens):Sx (T.pin p) n A X env pv Z ad s:=
 ⟨⟨i.a,i.inv.pin h,i.x.pin,λq j=>(i.f q j).pin⟩,⟨i.wr.nd,i.wr.ns,i.wr.xl,i.wr.zl,i.wr.cell,i.wr.apart,i.wr.own,i.wr.inj,i.wr.keep,i.wr.base⟩⟩
theorem Sx.LG(i:Sx (T.pin p) n A X env pv Z ad s)(h:T.gp s.gens):Sx T n A X env pv Z ad s:=
 ⟨⟨i.a,i.inv.LG h,i.x.LG,λq j=>(i.f q j).LG⟩,⟨i.wr.nd,i.wr.ns,i.wr.xl,i.wr.zl,i.wr.cell,i.wr.apart,i.wr.own,i.wr.inj,i.wr.keep,i.wr.base⟩⟩
end
noncomputable def pC:I Stmt:=Cc<|Bl 64 4
noncomputable def Xm:Stmt:=BA 1 pC
noncomputable def pD:Expr:=Kk Xm
noncomputable def Of:I Stmt:=DR Xm
noncomputable def itG:GV:=⟨(D2<|Bl 64 4).names,λ_=>AQ,[],AQ⟩
noncomputable def yE(e:A2):Expr:=if h:e.ctorIdx=13 then jS (motive_1:= λ_=>A2) e h λa _=>(match a with|some e=>e|_=>e)else e
noncomputable def yP(e:A2):Pos:=if h:e.ctorIdx=13 then jS (motive_1:= λ_=>LH) e h λ_ p=>p else BN
noncomputable def pE(a b c:PV):BD:=[(C6,a),(S "pr",b),(S "cmt",c)]
def xI(T:Th)(Y:Az->Prop)(L a:Az):Az->Prop:= λb=>(T.Tab b\/Y b)\/b=L\/b=a
noncomputable def He(T:Th):Th:=T.pin λ_=>True
structure Rs(T:Th)(Y:Az->Prop)(L l it:Az)(vs:I Am)(xs:I HQ)(i:Aj)(s:Bq):Prop where
 inv:Cm (He T) s
 ns:∃m,s.heap.Ns L m
 iter:s.heap.IsListIter it l i
 li:s.heap.IsList l (AU vs)
 tr:A8 T s.heap (xI T Y L it) (CM xs) vs
 ne1:L≠it
 ne2:L≠l
 ne3:it≠l
 hH:AA T.H1 it=AQ
def KpL(T:Th)(L a:Az)(s s':Bq):Prop:=(∀b o,¬T.Tab b->b≠L->b≠a->AA s.heap b=D o->AA s'.heap b=D o)/\s'.gens=s.gens
def XOi(T:Th)(a:Az)(X:Az->Prop)(h:Dw):Prop:= ∀b,X b->b=a\/T.Tab b\/(AA T.H1 b=AQ/\ ∃o,AA h b=D o/\KJ o)
def xL(T:Th)(L:Az):Az->Prop:= λb=>T.Tab b\/b=L
inductive YG(T:Th)(Y:Az->Prop)(L it:Az)(xs:I HQ)(m:Aj)(s₀:Bq)(v:Am)(s':Bq)(kap:Resume->Bq->Prop):Prop
 |mk (l:Az) (vs:I Am) (i:Aj) (x:HQ):i+m+1=U xs->xs[i]? =D x->(∀Xc,XOi T it Xc s₀.heap->Tr T s'.heap Xc (Qz x) v)->KpL T L it s₀ s'->Rs T Y L l it vs xs (i+1) s'->(∀s'',Rs T Y L l it vs xs (i+1) s''->kap (.send AN) s'')->YG T Y L it xs m s₀ v s' kap
def PG(T:Th)(L a:Az):Aj->Bq->Bq->Prop:= λm s₀ s'=>m=0/\KpL T L a s₀ s'/\Cm (He T) s'
def RG(T:Th)(L d:Az):GenEnd:= λn s₀ r a=>r=zr (N8 AN)/\PG T L d n s₀ a
theorem AG3(O:Cr T)(a:Le n A)(d:Cm (He T) s)(v:env.locals=L)(G:AA T.H1 L=AQ)(nt: ¬T.Tab L)(hn:∃m,s.heap.Ns L m)(hc:∀x,env.kindOf x≠D BX)(l:∀x,env.cells.lookup x=AQ)(i:∀q∈pv,q.2=Af)(Q:(pv.map CZ).Nodup):
  Sx (T.pin λg=>g=s.gens) n A (xL T L) env pv (λb=>if b=L then AQ else AA s.heap b) (λ_=>[]) s:=by
 have I':Cm (T.pin λg=>g=s.gens) s:=⟨d.ext,d.tab,d.os,B⟩;refine EX hn λm o es ep z C r=>?_;refine⟨⟨a,I',⟨λb u=>Ax u,λb u=>u.elim Ax λq=>BC ⟨q▸G,o,q▸z,Ax<|by rw[C];exact K3 B⟩⟩,λq hq=>?_⟩,⟨Q,⟨m,o,es,ep,v▸z,C,r⟩,BC v,Dh v,λx c h=>Ay h<|hc x,(λx y c h=>by(rw[l]at h;cases h)),(λx o' j=>by cases i _ j),(λx y o' N j=>by cases i _ j),λb o' e t=>?_,λb o' e t=>?_⟩⟩
 ·obtain⟨x,w⟩:=q;obtain rfl:w=Af:=i _ hq;trivial
 ·split at e
  ·exact EN e
  ·exact e
 ·have:b≠L:= λq=>by rw[q]at e;exact Ay (G.symm.trans e) (λh=>EN h)
  show(if b=L then AQ else _)=_;rw[CQ this];exact d.ext b o' t e
theorem IsListIter.keep{h h':Dw}(x:h.IsListIter j l i)(k:∀o,AA h j=D o->AA h' j=D o):h'.IsListIter j l i:=x.imp λo r=>⟨k o r.1,r.2⟩
theorem IsList.keep{h h':Dw}(x:h.IsList l vs)(k:∀o,AA h l=D o->AA h' l=D o):h'.IsList l vs:=x.imp λo r=>⟨k o r.1,r.2⟩
def AEQ(T:Th)(h:Dw):Az->Prop:= λb=>T.Tab b\/(AA T.H1 b=AQ/\ ∃o,AA h b=D o/\KJ o)
theorem AER{s₀ s2:Bq}(t:Tr T h (AEQ T s2.heap) (Qz x) v)(e:AEQ T s2.heap l)(k:∀b o,¬T.Tab b->AA s₀.heap b=D o/\KJ o->∃o',AA s2.heap b=D o'/\KJ o'):∀g,XOi T l g s₀.heap->Tr T h g (Qz x) v:= λg i=>by
 (refine BU t.inv λb vs d u j ta=>?_;subst d)
 refine .tup u (λq=>j ?_) ?_
 ·rcases i _ q with h|h|⟨z,o,y⟩
  ·exact h▸e
  ·exact Ax h
  ·by_cases t:T.Tab b
   ·exact Ax t
   ·exact BC ⟨z,k _ o t y⟩
 ·(refine Bk ta.inv λ_ _ d a r=>?_;subst d)
  obtain⟨_,_,rfl,b,r⟩:=r.inv;obtain rfl:=r.inv;exact Cw (Sh.any B a)<|Cw (Sh.any B b) E4
theorem Xn{o:NU}(h:o.cls=Ae "list_iterator"):o.cls≠AN/\o.cls≠Ae "code" :=by rw[h];exact⟨λq=>Ff q,λq=>Ay (Uw q)<|by decide⟩
theorem Ry{h:Dw}(x:∃m,h.Ns L m):∃o,AA h L=D o/\KJ o:=by refine EX x λm o es e a d _=>?_;exact(CB o a<|Ax<|by rw[d];exactλ_ q=>HH q)
theorem Rs.turned(O:Cr T)(R:Rs T Y L l u vs xs i s)(C:∀b o,b≠u->AA s.heap b=D o->AA h' b=D o):Cm (He T) {s with heap:=h'} :=by refine Dg R.iter λG j h _=>?_;exact R.inv.turn (s':= {s with heap:=h'}) O.pin R.hH (λo y=>BC<|Xn<|AE (j.symm.trans y)▸h) C
theorem Rs.item(O:Cr T)(R:Rs T Y L l u vs xs i s)(h:i<U xs):∃x v,xs[i]? =D x/\vs.toArray[i]? =D v/\Tr T s.heap (xI T Y L u) (Ga x) v:=by
 have j:i<U vs:=by rw[R.tr.length];exact(Ai (as:=xs) Ga).symm▸h
 refine(Ki (xs[i]) (vs[i]) (AR h) ((FA ..).trans<|AR j) ?_);have:=R.tr.get i ((Ai (as:=xs) Ga).symm▸h) j;rwa[show(CM xs)[i]'_=Ga xs[i]from List.getElem_map ..]at this
theorem ra:Of=[NC (.Yield (D (yE (OE (BA 0 Of)))) (yP (OE (BA 0 Of)))) (Xa (BA 0 Of))] :=by kernel_rfl!
theorem AES(a:q∈pE Af Af Af):q.2=Af:=by simp only[pE,CV,Au,JQ]at a;rcases a with rfl|rfl|rfl<;>rfl
theorem AC9(h:(y,BP f o)∈pE Af (mw a) (mw b)):False:=by simp[pE]at h
theorem AET(C:env.locals=L)(N:AA T.H1 L=AQ)(d:Sx (T.pin G) n A (xL T L) env (pE Af (mw (AM i)) (mw (AJ b))) Z (λ_=>[]) s)(u:∀x,env.kindOf x≠D BX):
  Sx (T.pin G) n A (AEQ T s.heap) env (pE Af (mw (AM i)) (mw (AJ b))) Z (λ_=>[]) s:=by
 refine⟨⟨d.a,d.inv,⟨λb j=>Ax j,λb j=>j⟩,λq g=>?_⟩,⟨d.wr.nd,d.wr.ns,BC ⟨C▸N,Ry d.wr.ns⟩,d.wr.zl,λy c l=>Ay l<|u y,d.wr.apart,(λy o h=>Ay (AC9 h) id),(λy z o o' h=>Ay (AC9 h) id),d.wr.keep,d.wr.base⟩⟩;have e:=d.f q g;simp only[pE,CV,Au,JQ]at g;rcases g with rfl|rfl|rfl
 ·trivial
 ·refine Ap e λv r t=>?_;exact⟨v,r,Sh.any B t⟩
 ·refine Ap e λv r t=>?_;exact⟨v,r,Sh.any B t⟩
theorem rb(O:Cr T)(K:DG (He T) env itG)(a:Le n (A.over (Hj pD (AH u) Of [] env) [.ret k AQ AB [] a4 p []]))(hL:env.locals=L)(h1:AA T.H1 L=AQ)(a8: ¬T.Tab L)
  (hc:∀x,env.kindOf x≠D BX)(b0:∀x,env.cells.lookup x=AQ)(a9:env.scope.isCoroutine=AB)(hk:k (zr HK)=av (ax (N8 AN))):∀m i s₀ s,i+m=U xs->Rs T Y L l u vs xs i s->KpL T L u s₀ s->
  Seg (M T) A (RG T L u) (YG T Y L u xs) m s₀ (Hj pD (AH u) Of [] env) ((M T).den (Hj pD (AH u) Of [] env)) [.ret k AQ AB [] a4 p []] s:=by
 intro m;induction m with
 |zero=>
  intro i s₀ s hi R hkp;refine VE<|wpAny_pyNext_list_end a.handled R.iter R.li ?_ λh' he=>?_
  ·rw[FA];exact Ky<|by rw[R.tr.length,show(CM xs).length=U xs from Ai ..];exact B8 hi.symm
  ·refine seg_again B (ZN ?_);rw[hk];exact seg_end (zr<|N8 AN) ⟨B,B,⟨λb o t b1 b2 e=>he b o b2<|hkp.1 b o t b1 b2 e,hkp.2⟩,R.turned O λb o ne ho=>he b o ne ho⟩
 |succ m ih=>
  intro i s₀ s hi R hkp;refine Bk (R.item O<|Pj [_,_,_] [.e (.a A9<|.a BQ DB) B5] A9 B5 [1] B hi) λx w ex ew tv=>?_;refine VE<|wpAny_pyNext_list_item R.iter R.li ew λh' C hs=>?_;have I1:=R.turned O λb o ne ho=>hs.extBut b o ne ho;refine Dg (id C) λoj y a1 _=>?_;have sj:=Xn a1;have a2:=I1.KA y<|BC sj;refine Nk y a1 (by decide) ?_;have j:=AG3 (pv:=pE Af Af Af) (s:= {s with heap:=h'}) O a I1 hL h1 a8 (R.ns.imp λm h=>h.sameBut hs R.ne1) hc b0 (λq hq=>AES hq)<|by decide+kernel
  have a0:Up s.heap (xI T Y L u) h' (xI T Y L u):= λb o e N=>⟨hs.extBut b o (λq=>N<|BC<|BC q) e,N⟩;have a5:Tr (T.pin λg=>g=s.gens) h' (xL T L) (Ga x) w:=((tv.up O a0).less O λb hb=>hb.elim (λq=>Ax<|Ax q) λq=>BC<|Ax q).pin;have K':DG (T.pin λg=>g=s.gens) env itG:=⟨K.kind,K.names,K.okn,K.dO,K.blt,K.cells,λx d h=>(nomatch h),K.cq⟩;refine Rn (T:=T.pin λg=>g=s.gens) O.pin K' (EA:=pE Af (mw<|AM x.1)<|mw<|AJ x.2) ⋯ ⋯ j a5 λs2 S2=>?_;rw[ra];refine jT<|seg_Expr_Yield B B B ?_ a9<|by unfold PU;rw[K.kind];rfl
  have r:∀b o,b≠L-> ¬T.Tab b->AA h' b=D o->AA s2.heap b=D o:= λb o Q t e=>S2.wr.keep b o ((CQ Q).trans e) t;have ev:=((Io (n:=n) (pv:=pE Af (mw<|AM x.1)<|mw<|AJ x.2) O.pin K' 20).1 (yE<|OE<|BA 0 Of) []).only (a:=Qz x) (cs:=[]) ⋯ AI;refine ev _ _ _ s2 _ _ (AET hL h1 S2 hc).toAr λv s3 x3 i3 t3=>?_;have z:∀b o,¬T.Tab b->b≠L->AA h' b=D o->AA s3.heap b=D o:= λb o t Q e=>x3 b o t<|r b o Q t e;have a6: ¬T.Tab l:=by refine Dg R.li λo o1 o2 _=>?_;exact R.inv.DI o1<|by rw[o2];exactλq=>Ff q
  have RS:Rs T Y L l u vs xs (i+1) s3:=⟨⟨i3.ext,i3.tab,i3.os,AI⟩,(S2.ext O.pin x3 i3).wr.ns.imp λm h=>hL▸h,IsListIter.keep C λo e=>z u o a2 (Gk R.ne1) e,IsList.keep R.li λo e=>z l o a6 (Gk R.ne2)<|hs.extBut l o (Gk R.ne3) e,
   R.tr.up O λb o e N=>⟨z b o (λq=>N<|Ax<|Ax q) (λq=>N<|BC<|Ax q) (a0 b o e N).1,N⟩,R.ne1,R.ne2,R.ne3,R.hH⟩
  refineλb3 a3=>⟨l,vs,i,x,Yb [_,_,_] [.e (.a A9<|.a BQ DB) B5] (.a (.a A9 BQ) DB) B5 [1] [-1] B B hi,ex,AER (s₀:=s₀) (s2:=s2) t3.LG (BC ⟨R.hH,oj,r u oj (Gk R.ne1) a2 y,BC sj⟩) λb o t e=>?_,⟨λb o t Q ni e=>z b o t Q<|hs.extBut b o ni<|hkp.1 b o t Q ni e,i3.gens.trans hkp.2⟩,RS,λG hr=>a3 AN G<|seg_execs_nil<|seg_again B<|ih (i+1) G G (Yb [_,_,_] [.e (.a A9<|.a BQ DB) B5] (.a (.a A9 DB) BQ) B5 [1] [-1] B B hi) hr ⟨λ_ _ _ _ _ e=>e,B⟩⟩;by_cases e1:b=L
  ·exact e1▸hL▸Ry S2.wr.ns
  by_cases e2:b=u
  ·exact(CB oj (r b oj e1 t<|e2▸y)<|BC sj)
  ·exact(CB o (r b o e1 t<|hs.extBut b o e2<|hkp.1 b o t e1 e2 e.1) e.2)
theorem Kq{h:Dw}(e:AA h a=D o)(n:AA h b=AQ)(q:a=b):False:=by rw[q,n]at e;exact EN e
theorem Bw.pin(P:Bw T):Bw (T.pin p):=⟨⟨⟨P.O.pin,P.Tf,P.glob,P.tab,P.Tg⟩,P.YO,P.iV,P.bmain⟩,P.pX,P.yy⟩
theorem rf(a:Le (n+1) A):Le n (A.over (JH body env) []):=by
 have d:(JH body env).weight=1:=B;refine⟨a.handled,?_,?_⟩
 ·show A.depth+0+(JH body env).weight+n<_;rw[d];have:=a.depth;exact Pj [_,_,_] [.t (.a A9<|.a BQ DB) B5] (.a (.a (.a A9 Mr) DB) BQ) B5 [1] B this
 ·skip;have:=a.units;exact Pj [_,_,_] [.t (.a (.a A9<|.m 10<|.a BQ DB)<|.n 10) B5] (.a (.a (.a (.a A9 Mr)<|.n 3)<|.m 10 BQ)<|.n 10) B5 [1] B this
theorem xQ(a:Le (n+1) A):Le n (A.over (Hj t d e [] env) [.ret k AQ AB [] (JH body env) p []]):=by
 refine⟨a.handled,?_,?_⟩
 ·show A.depth+frameCount [(JH body env,p)] +0+n<_;have:frameCount [(JH body env,p)] =1:=B;rw[this];have:=a.depth;exact Pj [_,_,_] [.t (.a A9<|.a BQ DB) B5] (.a (.a (.a A9 DB) Mr) BQ) B5 [1] B this
 ·show A.units+unitsOf [(JH body env,p)] +0+10*n+10<_;have:unitsOf [(JH body env,p)] =3:=B;rw[this];have:=a.units;exact Pj [_,_,_] [.t (.a (.a A9<|.m 10<|.a BQ DB)<|.n 10) B5] (.a (.a (.a (.a A9<|.n 3) Mr)<|.m 10 BQ)<|.n 10) B5 [1] B this
noncomputable def AG4:Stmt:=NC (Gj (ACZ<|Xl<|OE<|BA 0 pC) (rX<|OE<|BA 0 pC)<|rY<|OE<|BA 0 pC)<|Xa<|BA 0 pC
noncomputable abbrev tz(xs:I HQ):DV:=YT 1129 [xM] [AL<|CM xs]
theorem AEU:pC=[AG4,.For pD (FX Xm) Of [] (W2 Xm)] :=by kernel_rfl!
theorem rg:FX Xm=CO (Bu C6 (Hc (O8 (FX Xm)))) xM (JM (FX Xm)):=by kernel_rfl!
theorem rh(P:Bw T){ad:Bt->I Az}(K:DG (He T) env itG)(a:Le (n+1) A)(u:env.locals=L)(h1:AA T.H1 L=AQ)(C: ¬T.Tab L)(hc:∀x,env.kindOf x≠D BX)(a4:∀x,env.cells.lookup x=AQ)(a3:env.scope.isCoroutine=AB)
  (i:Sx (He T) n tG X env (pE (mw (tz xs)) Af Af) Z ad s):Seg (M T) A (RG T L (AK s.heap.objs)) (YG T X L (AK s.heap.objs) xs) (U xs) s (JH pC env) ((M T).den (JH pC env)) [] s:=by
 refine seg_func ?_;rw[AEU];refine jT<|Mq<|jF (Ke ?_)<|by unfold PU;rw[K.kind];rfl
 have S1:Sx (T.pin λg=>g=s.gens) n (A.over (JH pC env) []) X env (pE (mw<|tz xs) Af Af) Z ad {s with toks:=s.toks+1} :=by have S':=i.ext (s':= {s with toks:=s.toks+1}) P.O.pin (C1.refl _)<|i.inv.toks _;exact⟨⟨rf a,⟨S'.inv.ext,S'.inv.tab,S'.inv.os,B⟩,⟨S'.x.tab,S'.x.kind⟩,λq hq=>(NK.LG<|S'.f q hq).pin⟩,⟨S'.wr.nd,S'.wr.ns,S'.wr.xl,S'.wr.zl,S'.wr.cell,S'.wr.apart,S'.wr.own,S'.wr.inj,S'.wr.keep,S'.wr.base⟩⟩
 have K':DG (T.pin λg=>g=s.gens) env itG:=⟨K.kind,K.names,K.okn,K.dO,K.blt,K.cells,(λx d h=>nomatch h),K.cq⟩;refine Ap (S1.f (C6,mw<|tz xs)<|B0 _) λvS rS tS=>?_;refine jT<|ABg (λx=>B) ?_;rw[rg];refine jK<|SS rS ?_ K.kind (by decide+kernel)<|by decide+kernel
 (refine JX tS.inv λai dx _ a6 z _ _ tai=>?_;subst a6;obtain⟨a5,kI,a9,a2,a1,rfl,a0⟩:=z)
 refine Bk tai.inv λv2 _ r t2 tnil=>?_
 (refine BU t2.inv λl vs a8 hl nx ht=>?_;subst a8)
 rw[tnil.inv]at r;refine bA (v:=AH l) (od:=D<|Hl a5 kI) (J3 (P.pin (p:= λg=>g=s.gens)) S1.inv) ⟨a2,B,B,a1⟩ (L1 (λa=>K9<|AA T.H1 a) (λa=>Vs<|AA T.H1 a) λa=>Vt<|AA T.H1 a).ga (Ob a0 ⋯ ⋯<|by rw[r];kernel_rfl!) B ?_;skip;refine AFB hl λp=>?_;have j:∀b o,AA s.heap b=D o->(s.heap.push {cls:=Ae "list_iterator",data:=BF #[.ref l,EF 0 0] }).get? b=D o:= λb o e=>AX _ e;have y:AA s.heap (AK s.heap.objs)=none:=F4 _;have N:L≠AK s.heap.objs:= λq=>by refine Ap (Ry i.wr.ns) λo ho _=>?_;exact Kq ho y<|u▸q
 have G:AK s.heap.objs≠l:= λq=>by refine Ap hl λo ho _=>?_;exact Kq ho y q.symm
 refine rb P.O K (xQ a) u h1 C hc a4 a3 B (U xs) 0 s {s with heap:=s.heap.push {cls:=Ae "list_iterator",data:=BF #[.ref l,EF 0 0] },toks:=s.toks+1+1} (Yb [_] [] (.a Mr A9) A9 [] [] B B) ⟨?_,i.wr.ns.imp λm h=>u▸h.keeps j,⟨_,A1 _ B,B,B⟩,IsList.keep hl λo e=>j _ _ e,?_,N,λq=>?_,G,(Du (T:=He T) i.inv y).1⟩ ⟨λb o t _ _ e=>j b o e,B⟩
 ·exact Cm.keeps (T:=He T) (s':= {s with heap:=s.heap.push {cls:=Ae "list_iterator",data:=BF #[.ref l,EF 0 0] },toks:=s.toks+1+1}) i.inv P.O.pin j
 ·refine ht.LG.up P.O λb o e Q=>⟨j b o e,λq=>?_⟩;rcases q with(q|q)|q|q
  ·exact Q<|S1.x.tab b q
  ·exact Q q
  ·exact Q<|q▸u▸S1.wr.xl
  ·exact Kq e y q
 ·exact nx<|q▸u▸S1.wr.xl
noncomputable def QK(ks:Rows)(fs:I Aa)(x:HQ):Bool:=match(ks.zip fs).lookup x.2 with
 |some f=> !(Ag f 4==4)
 |none=>AB
noncomputable def Xo(ks:Rows)(fs:I Aa)(xs:I HQ):Bool:=xs.any<|QK ks fs
theorem MY:∀ {ks:Rows} {fs:I Aa},(ks.zip (AZ fs)).lookup k=((ks.zip fs).lookup k).map AM
 |[],_=>by simp
 |_::_,[] =>by simp[AZ]
 |q::ks,f::fs=>by
  show((q,AM f)::ks.zip (AZ fs)).lookup k=_;rw[DU,CE,CE];cases k==q with
  |true=>rfl
  |false=>exact MY
noncomputable def xR:I Stmt:=Cc fQ
noncomputable def NT:Stmt:=BA 1 xR
noncomputable def ABh:GV:=⟨(E2 1).names,HA,[],AQ⟩
noncomputable def ri(xs:I HQ)(ks:Rows)(fs:I Aa)(a b:PV):BD:=[(S "wlst",mw<|tz xs),(S "cstates",mw<|EL ks<|AZ fs),(S "dt",a),(S "cmt",b),(S "_DNC",mw<|AM 4)]
theorem xS(P:Bw T)(n:Aj)(xs:I HQ)(ks:Rows)(fs:I Aa)(x:HQ):Ge T n ABh (ri xs ks fs (mw (AM (-x.1))) (mw (AJ x.2))) (DR NT) (match QK ks fs x with|true=>JF (BZ J)|false=>Aq) (ri xs ks fs (mw (AM (-x.1))) (mw (AJ x.2))):=by
 have a:Cg T n Yi (AJ x.2) (EL ks<|AZ fs) ((ks.zip fs).lookup x.2).isSome:=by have h:=fH (T:=T) (n:=n) (ks:=ks) (ds:=AZ fs) (k:=x.2);rw[MY,Option.isSome_map]at h;exact h
 cases d:(ks.zip fs).lookup x.2 with
 |none=>
  have e:QK ks fs x=false:=by simp only[QK,d]
  rw[e];rw[d]at a;exact Ee [.b AB,.b AB] [Cg T n Yi (AJ x.2) (EL ks<|AZ fs) AB,AB=AB] P.O ⋯ ⟨a,B,AI⟩
 |some f=>
  rw[d]at a;have i:CC T n (EL ks<|AZ fs) (AJ x.2) (AM f):=P8 P.O<|by rw[MY,d];rfl
  cases g: !(Ag f 4==4)with
  |true=>
   have e:QK ks fs x=true:=by simp only[QK,d,g]
   rw[e];exact Ee [.b J,.b J,.t<|AM f,.b J] [Cg T n Yi (AJ x.2) (EL ks<|AZ fs) J,CC T n (EL ks<|AZ fs) (AJ x.2)<|AM f,(!(Ag f 4==4))=J,J=J] P.O ⋯ ⟨a,i,g,B,AI⟩
  |false=>
   have e:QK ks fs x=false:=by simp only[QK,d,g]
   rw[e];exact Ee [.b J,.b J,.t<|AM f,.b AB] [Cg T n Yi (AJ x.2) (EL ks<|AZ fs) J,CC T n (EL ks<|AZ fs) (AJ x.2)<|AM f,(!(Ag f 4==4))=AB,J=J] P.O ⋯ ⟨a,i,g,B,AI⟩
theorem Sx.ck(O:Cr T){ad:Bt->I Az}{wr:I Az}(i:Sx T n A X env pv Z ad s)(u:∀x f o,(x,BP f o)∉pv)(hc:∀x,env.kindOf x≠D BX)(I':Cm T s')(hs:∀b o,¬T.Tab b->b∉wr->AA s.heap b=D o->AA s'.heap b=D o)(hX:∀b∈wr,X b\/AA s.heap b=AQ)(hT:∀b∈wr,¬T.Tab b)
  (a0:∀b,X' b->X b\/b∈wr)(Q:∀b,X b->X' b\/b∈wr)(a3:∀b∈wr,X' b->AA T.H1 b=AQ/\ ∃o,AA s'.heap b=D o/\KJ o)(hl:env.locals∉wr)(a8:∀c∈wr,∀v,¬s.heap.IsCell c v)(hz:Z' env.locals=AQ)(L:∀b o,Z' b=D o-> ¬T.Tab b->AA s'.heap b=D o)(hb:∀b o,AA T.H1 b=D o-> ¬T.Tab b->Z' b=D o):Sx T n A X' env pv Z' ad s':=by
 have j:Up s.heap X s'.heap X':= λb o e nx=>by
  have nw:b∉wr:= λq=>(hX b q).elim nx λh=>by exact EN<|h.symm.trans e
  exact⟨hs b o (λq=>nx<|i.x.tab b q) nw e,λq=>(a0 b q).elim nx nw⟩
 refine EX i.wr.ns λm o es ep ho hd hr=>?_;have a2:=i.inv.Bn ho<|by rw[hd];exact K3 B
 have C:∀ {m},s.heap.Ns env.locals m->s'.heap.Ns env.locals m:= λ {m} a5=>(by refine Hr a5 λo es ep ho r=>?_;exact⟨o,es,ep,hs _ _ a2 hl ho,r⟩);refine⟨⟨i.a,I',⟨λb h=>(Q b<|i.x.tab b h).resolve_right λq=>hT b q h,λb N=>?_⟩,λq hq=>?_⟩,⟨i.wr.nd,⟨m,C ⟨o,es,ep,ho,hd,hr⟩⟩,(Q _ i.wr.xl).resolve_right hl,hz,λx c h=>Ay h<|hc x,i.wr.apart,λx o G=>Ay G<|u _ _ _,λx y o o' G=>Ay G<|u _ _ _,L,hb⟩⟩
 ·by_cases hw:b∈wr
  ·exact BC<|a3 b hw N
  ·rcases i.x.kind b ((a0 b N).resolve_right hw)with h|⟨h1,o,h2,h3⟩
   ·exact Ax h
   ·exact BC ⟨h1,o,hs b o (i.inv.KA h2 h3) hw h2,h3⟩
 ·have a1:=i.f q hq;obtain⟨x,w⟩:=q;cases w with
  |no=>trivial
  |own f o=>exact Ay hq<|u _ _ _
  |d t=>
   refine Ap a1 λv r tr=>?_;refine⟨v,?_,tr.up O j⟩;rcases r with⟨L,m,G,hv⟩|⟨L,c,a6,hv⟩
   ·exact Ax ⟨L,m,C G,hv⟩
   ·have a4:=hv;refine Ap hv λoc e1 e2=>?_;exact BC ⟨L,c,a6,oc,hs c oc (i.inv.Bn e1<|by rw[e2];exact K3 B) (λq=>a8 c q _ a4) e1,e2⟩
theorem ABi:∀ {l:I (Bt×a)},l=[] ->l.lookup x=AQ
 |_,B=>B
theorem rj(P:Bw T)(a:Le (n+1) A)(e:Cm T s)(x:Hs T X s.heap)(tu:Tr T s.heap X (tz xs) u)
  (K:∀env s₁ nm L,DG (He T) env itG->AA s.heap env.locals=AQ->(∀y,env.kindOf y≠D BX)->(∀y,env.cells.lookup y=AQ)->env.scope.isCoroutine=AB->(∀b o,AA s.heap b=D o->AA s₁.heap b=D o)->s₁.gens=s.gens->Cm T s₁->
   (∃tG l,(∀b,X b->l b)/\Sx (He T) n tG l env (pE (mw (tz xs)) Af Af) (AA s.heap) (λ_=>[]) s₁)->
   Q (AH (AK s₁.heap.objs)) {s₁ with gens:=s₁.gens.push (AH0 (JH pC env)),toks:=s₁.toks+1+1,heap:=s₁.heap.push {cls:=Ae "generator",data:=BF #[.int (AK s₁.gens) 0,Bz nm s₁.toks,Bz L (s₁.toks+1)] } }):Ao (M T) A (RV (AH 1126) [u]) Q E s:=by
 refine E0 (CS P.toHN 56 1126 1125 (Bl 64 4) (S "WorkList.iter") AN ⋯ ⋯ ⋯ B B) λdc pm F=>?_;have j:=Fd F;refine Ap j.obj λob o1 o2=>?_;have C:s.heap.CodeRec (GX (LP (Bl 64 4) (S "WorkList.iter") [] AN (AH 1125) AN) dc pm).code (GX (LP (Bl 64 4) (S "WorkList.iter") [] AN (AH 1125) AN) dc pm).qualname:=by refine EX j.code λc N fs t e1 e2 e3=>?_;exact⟨c,N,fs,t,e1,e.ext _ _ (j.Te c e1) e2,e3⟩
 have I0:Cm (T.pin λg=>g=s.gens) s:=e.pin B;refine F9<|codeAny_call_generator (body:=pC) (fd:=GX (LP (Bl 64 4) (S "WorkList.iter") [] AN (AH 1125) AN) dc pm) a.room (e.ext _ _ j.tab o1) o2 ⋯ ⋯ ⋯ C ?_;rw[show CG (GX (LP (Bl 64 4) (S "WorkList.iter") [] AN (AH 1125) AN) dc pm) ⟨[u],[]⟩=Ce [(C6,u)] by kernel_rfl!];refine AP ?_;refine IV (T:=T.pin λg=>g=s.gens) (fd:=GX (LP (Bl 64 4) (S "WorkList.iter") [] AN (AH 1125) AN) dc pm) (ps:=[C6]) (locs:=[S "pr",S "cmt"]) (ES:=[]) (cs:=[]) (ds:=[tz xs]) (xs:=[]) (ws:=[]) (vs:=[u]) (f:=1126) P.O.pin a I0 x.pin (Cw tu.pin E4) E4 QV IL PE B B B B (by decide+kernel) ⋯ (λy z=>by simp at z;subst z;exact Ax ⋯) λl s₁ r v i=>?_;have q:∀y k,(D2<|Bl 64 4).names.lookup y=D k->k= .local:= λy k h=>by
  have hm:=BW h;have:((D2<|Bl 64 4).names.all λp=>p.2== .local)=true:=by kernel_rfl!
  have:=Kz this _ hm;simpa using this
 have G:(DS (GX (LP (Bl 64 4) (S "WorkList.iter") [] AN (AH 1125) AN) dc pm) (AK s.heap.objs) 1126).cells=[] :=by kernel_rfl!
 have i1:=i.inv.LG<|by rw[i.inv.gens];exact e.gens
 refine⟨(e.lim P.O).keeps v,K _ s₁ _ _ ⟨by kernel_rfl!,B,?_,B,B,λy z=>?_,(λy d h=>by exact EN h),(λ_ h=>EN h)⟩ (F4 _) (λy h=>?_) (λy=>ABi G) ⋯ v i.inv.gens i1<|RD _ l r<|(i.LG<|by rw[i.inv.gens];exact e.gens).pin AI⟩
 ·exactλp hp=>Kz (show(itG.names.all λp=>C9 p.1)=J by kernel_rfl!) p hp
 ·rcases z with h|h<;>cases q y _ h
 ·cases q y _ h
theorem AllBare.AHa(h:ID i)(u:x.bare=J):ID (i.setIfInBounds g x):= λy j=>by
 rcases Array.mem_or_eq_of_mem_setIfInBounds j with h'|rfl
 ·exact h y h'
 ·exact u
def AI8(ks:Rows)(fs:I Aa)(xs:I HQ):Fl->BD->Prop:= λfl EA=>(fl=match Xo ks fs xs with|true=>JF (BZ J)|false=>Aq)/\ ∃a b,EA=ri xs ks fs a b
theorem ABj(e:∀f o,a≠BP f o)(d:∀f o,b≠BP f o):∀x f o,(x,BP f o)∉ri xs ks fs a b:= λx f o h=>by
 simp only[ri,CV,zP,Au,JQ]at h;rcases h with⟨_,h⟩|⟨_,h⟩|⟨_,h⟩|⟨_,h⟩|⟨_,h⟩
 ·cases h
 ·cases h
 ·exact e _ _ h.symm
 ·exact d _ _ h.symm
 ·cases h
theorem cL(h:o=D a):o≠none:=h▸Q4 a
theorem rk{h:Dw}(x:h.Ns a m)(y:h.IsCell a v):False:=by refine FW x λo es j g i _=>?_;refine Ap y λo' d e=>?_;obtain rfl:=AE<|g.symm.trans d;exact HH<|i.symm.trans e
theorem pF{h h':Dw}(x:h.Ns a m)(k:∀o,AA h a=D o->AA h' a=D o):h'.Ns a m:=by refine Hr x λo es e d r=>?_;exact⟨o,es,e,k o d,r⟩
theorem Xp{h h':Dw}(x:h.IsGen a g)(k:∀o,AA h a=D o->AA h' a=D o):h'.IsGen a g:=by refine Hr x λo e d i r=>?_;exact⟨o,e,d,k o i,r⟩
theorem aI{h:Dw}(x:h.IsGen a g):∃o,AA h a=D o/\o.cls=Ae "generator" :=by refine FW x λo j i d e _=>?_;exact(CB o d e)
theorem ABk(e:a+m+1=l)(d:l-i=m+1)(h:i<=l):a=i:=Nat.add_right_cancel (m:=m+1)<|e.trans<|(Nat.sub_eq_iff_eq_add' h).mp d
inductive AG5(T:Th)(n:Aj)(A:Hk)(X:Az->Prop)(env:Pc)(xs:I HQ)(ks:Rows)(fs:I Aa)(Z:Az->AW NU)(L it ga:Az)(g:Aj)(Y:Az->Prop)(q:Aj)(s':Bq):Prop
 |mk (i:Aj) (Xj:Az->Prop) (aj bj:PV) (adj:Bt->I Az) (gs:zj):q=U xs-i->i<=U xs->(∀j y,j<i->xs[j]? =D y->QK ks fs y=AB)->(∀f o,aj≠BP f o)->(∀f o,bj≠BP f o)->Sx T (n+3) A Xj env (ri xs ks fs aj bj) Z adj s'->Rj X Xj Z->Xj L->s'.heap.IsGen ga g->s'.gens[g]? =D gs->
   gs.Goes (M T) A.in1 (RG T L it) (YG T Y L it xs) (U xs-i) (.send AN) (s'.setGen g OD)->(∃m,s'.heap.Ns L m)->(Xj it\/AA s'.heap it=AQ)->(∀v,¬s'.heap.IsCell it v)->AG5 T n A X env xs ks fs Z L it ga g Y q s'
theorem rl{P:h->Prop}(g:P a)(e:P b):∀c∈[a,b],P c:= λc d=>by
 rcases DO d with q|q
 ·exact q▸g
 ·exact Cx q▸e
theorem TF(h:c∈[a,b]):c=a\/c=b:=(DO h).imp id Cx
theorem gf(e:c≠a)(d:c≠b):c∉ [a,b] := λh=>(TF h).elim e d
theorem xT{h:Dw}(f:∀o,AA h b=D o->Yd):AA h b=none:=by
 cases e:AA h b with
 |none=>rfl
 |some o=>exact(f o e).elim
theorem ABl(P:Bw T)(b7:T.gp=ID)(n:Aj)(xs:I HQ)(ks:Rows)(fs:I Aa)(K:DG T env ABh)(hc:∀y,env.kindOf y≠D BX):SX T (n+3) env (ri xs ks fs Af Af) NT (AI8 ks fs xs):=by
 intro A X Z ad s Q E r KQ KE;have hF:NT= .For (Kk NT) (El (CO (Bu (S "wlst")<|Hc<|O8<|KO<|FX NT) (S "iter")<|JM<|KO<|FX NT) [] []<|Ka<|FX NT) (DR NT) [] (W2 NT):=by kernel_rfl!
 rw[hF];refine Ap (r.f (S "wlst",mw<|tz xs)<|B0 _) λvS rS tS=>?_;refine wpAny_For (Fc B B B ⋯<|SS rS (λpl=>?_) K.kind (by decide+kernel)<|by decide+kernel) λx=>B;have C:=L1 (λa=>K9<|AA T.H1 a) (λa=>Vs<|AA T.H1 a) λa=>Vt<|AA T.H1 a;refine aE (n:=n+3) P C (f:=1126) ⋯ ⋯ ⋯ A X s vS pl _ _ r.a r.inv r.x tS ?_;have kb:=B6 P.toHN 56 1126 1125 (Bl 64 4) (S "WorkList.iter") AN ⋯ ⋯ ⋯ B B;refine GI P.O (es:=[]) (ds:=[]) .nil kb r.toAr λus s₁ b8 a0 t₁=>?_;obtain rfl:=t₁.inv;have S₁:=r.ext P.O b8 a0;refine rj (n:=n+2) P r.a a0 S₁.x (xs:=xs) (tS.up P.O (X':=X) λb o e nx=>⟨b8 b o (λq=>nx<|r.x.tab b q) e,nx⟩) λenv' s₂ nm qn K' hL h8 h7 h6 f5 i6 i₂ i0=>?_;refine I9 i0 λtG Y hY SG=>?_;generalize d3:({s₂ with gens:=s₂.gens.push<|AH0<|JH pC env',toks:=s₂.toks+1+1,heap:=s₂.heap.push {cls:=Ae "generator",data:=BF #[.int (AK s₂.gens) 0,Bz nm s₂.toks,Bz qn<|s₂.toks+1] } } :Bq)=s₄;have g1:s₄.heap=s₂.heap.push {cls:=Ae "generator",data:=BF #[.int (AK s₂.gens) 0,Bz nm s₂.toks,Bz qn<|s₂.toks+1] } :=by rw[<-d3]
 have g2:s₄.gens=s₂.gens.push (AH0<|JH pC env'):=by rw[<-d3]
 have i2:s₄.os=s₂.os:=by rw[<-d3]
 generalize d8:env'.locals=L at hL;generalize f7:AK s₂.heap.objs=ga;generalize f8:AK s₂.gens=g;generalize c3:AK s₄.heap.objs=it;have b0:∀b o,AA s₂.heap b=D o->AA s₄.heap b=D o:= λb o e=>by rw[g1];exact AX _ e
 have d1:∀b o,AA s₁.heap b=D o->AA s₄.heap b=D o:= λb o e=>b0 b o<|f5 b o e;have a3:s₄.heap.IsGen ga g:=⟨_,_,_,by rw[g1,<-f7];exact A1 _ B,B,by rw[f8],B⟩;have a1:=c3▸F4 _;have i₄:Cm T s₄:=⟨i₂.ext.trans<|C1.of_keeps b0,λb N=>(i₂.tab b N).imp λvs t=>⟨b0 _ _ t.1,P.O.Us b vs _ _ t.2 λc o _ e _ _=>b0 c o e⟩,i2.trans i₂.os,by rw[g2,b7];exact AllBare.push (b7▸i₂.gens) B⟩
 have c1:=SG.wr.ns.imp λm h=>pF (d8▸h) λo e=>b0 _ _ e;have oL:=Du a0 hL;have b2:=xT λo e=>Kq (d1 _ _ e) a1 B;have oIt:=Du a0 b2;have b9:=f7▸F4 _;have c0:=xT λo e=>Kq (f5 _ _ e) b9 B;have oGa:=Du a0 c0;have a4:∀b,AA s₁.heap b=AQ->Z b=none:= λb N=>by
  cases e:Z b with
  |none=>rfl
  |some o=>have:=S₁.wr.keep b o e (Du a0 N).2;exact EN<|N.symm.trans this
 refine Ap (Ry S₁.wr.ns) λoE d4 _=>?_;have a5:L≠env.locals:= λq=>Kq d4 hL q.symm;have a6:it≠env.locals:= λq=>Kq d4 b2 q.symm;have e7:ga≠env.locals:= λq=>Kq d4 c0 q.symm;refine Ap (Ry c1) λo4 f2 g6=>?_;have e8:ga≠L:= λq=>by refine Ap (Ry SG.wr.ns) λo ho _=>?_;exact Kq ho b9<|d8.trans q.symm
 have e9:ga≠it:= λq=>by refine Ap (aI a3) λo ho _=>?_;exact Kq ho a1 q
 have i5:L≠it:= λq=>Kq f2 a1 q;have S4:=S₁.ck P.O (wr:=[L]) (ABj AF9 AF9) hc i₄ (λb o _ _ e=>d1 b o e) (λb N=>BC<|Cx N▸hL) (λb N=>Cx N▸oL.2) (λb h=>h) (λb h=>Ax<|Ax h) (λb N _=>by exact Cx N▸⟨oL.1,o4,f2,g6⟩) (λq=>a5 (Cx q).symm) (λc N v h=>h.elim λo h=>Kq h.1 hL<|Cx N) S₁.wr.zl (λb o e t=>d1 b o<|S₁.wr.keep b o e t) S₁.wr.base
 refine wpAny_pyIter_gen a3 ?_;refine codeAny_forLoop_any (AG5 T n A X env xs ks fs Z L it ga g Y) ?_ (U xs) ?_
 ·rintro q s' ⟨i,Xj,aj,bj,e0,gs,rfl,hi,f4,g0,f9,Sj,hu,d7,c7,f6,h4,h1,h3,d5⟩;have b3:∀b,b=L\/b=it->Z b=none:= λb h=>h.elim (λq=>q▸a4 _ hL) λq=>q▸a4 _ b2;have c5:∀b∈[L,it],Xj b\/AA s'.heap b=none:=rl (Ax d7) h3;have c6:∀b∈[L,it],¬T.Tab b:=rl oL.2 oIt.2;have c2:=gf (Gk a5)<|Gk a6;have c4:∀c∈[L,it],∀v,¬s'.heap.IsCell c v:=rl (λv hv=>h1.elim λm hm=>rk hm hv) d5;have a9:∀(s₁:Bq) x,x.bare=J->s₁.gens=(s'.setGen g OD).gens->T.gp (s₁.setGen g x).gens:= λs₁ x hx e=>by rw[b7];show ID<|s₁.gens.setIfInBounds g x;rw[e];exact AllBare.AHa (AllBare.AHa (b7▸Sj.inv.gens) B) hx
  have gl:g<AK s'.gens:=(Yu.mp f6).1;refine gZ (P:=PG T L it) (Y:=YG T Y L it xs) Sj.a.handled (Sj.inv.lim P.O) Sj.a.room c7 f6 h4 (λv s₁ u N hy=>?_) λs₁ hp h' hk=>?_
  ·obtain⟨l,vs,i',x,e1,e2,tv,kp,rs,a8⟩:=hy;by_cases b6:i<U xs
   ·refine Dx (Nat.exists_eq_add_one_of_ne_zero<|Nat.sub_ne_zero_of_lt b6) λm hm=>?_;rw[hm]at a8 e1;obtain rfl:=ABk e1 hm hi;have I6:Cm T (s₁.setGen g u):=⟨rs.inv.ext,rs.inv.tab,rs.inv.os,a9 s₁ u N kp.2⟩;have d2:∀b o,¬T.Tab b->b∉ [L,it] ->AA s'.heap b=D o->(s₁.setGen g u).heap.get? b=D o:= λb o t nb e=>kp.1 b o t (λq=>nb<|q▸B0 _) (λq=>nb<|q▸Cb _ (B0 _)) e;have d6:∀b o,Z b=D o-> ¬T.Tab b->(s₁.setGen g u).heap.get? b=D o:= λb o e t=>d2 b o t (λq=>by exact EN<|(b3 b<|TF q).symm.trans e)<|Sj.wr.keep b o e t
    refine Ap (Ry rs.ns) λe6 f1 g5=>?_;refine Dg rs.iter λoi d0 g8 g7=>?_;have g9:∀b∈[L,it],AA T.H1 b=AQ/\ ∃o,(s₁.setGen g u).heap.get? b=D o/\KJ o:=rl ⟨oL.1,e6,f1,g5⟩ ⟨oIt.1,oi,d0,BC<|Xn g8⟩
    let Z1:Az->AW Obj:= λb=>if b=env.locals then AQ else(s₁.setGen g u).heap.get? b
    have b1:∀b o,b≠env.locals->(s₁.setGen g u).heap.get? b=D o->Z1 b=D o:= λb o ne e=>(CQ ne).trans e;have S6:=Sj.ck P.O (wr:=[L,it]) (ABj g0 f9) hc I6 d2 c5 c6 (λb h=>h) (λb h=>Ax<|Ax h) (λb N _=>g9 b N) c2 c4 (Dh B) (λb o e t=>by
     by_cases q:b=env.locals
     ·exact Ay ((Dh q).symm.trans e).symm<|Q4 _
     ·exact(CQ q).symm.trans e) (λb o e t=>b1 b o (λq=>by
      rcases Sj.x.kind b (q▸Sj.wr.xl)with h|⟨h,_⟩
      ·exact t h
      ·exact EN<|h.symm.trans e)<|I6.ext b o t e)
    have tv':Tr T (s₁.setGen g u).heap (Jn Xj [L,it]) (Qz x) v:=tv _ λb N=>N.elim (λN=>BC<|Sj.x.kind b N) λN=>(TF N).elim (λq=>BC<|Sj.x.kind b<|q▸d7) Ax;have b4:=Xp c7 λo e=>d2 ga o oGa.2 (gf e8 e9) e;refine Ap (aI b4) λoG h0 h9=>?_;refine Nk h0 h9 (by decide) ?_
    let p:Ef zj->Prop:= λG=>G=(s₁.setGen g u).gens
    have Kp:DG (T.pin p) env ABh:=⟨K.kind,K.names,K.okn,K.dO,K.blt,K.cells,λx d h=>B9 (P.pin (p:=p)).toHN x d h,K.cq⟩;refine Rn (T:=T.pin p) (P.pin (p:=p)).O Kp (EA:=ri xs ks fs (mw<|AM<|-x.1)<|mw<|AJ x.2) ⋯ ⋯ (S6.pin B) tv'.pin λs7 S7=>?_;refine xS (P.pin (p:=p)) (n+3) xs ks fs x env Kp A _ Z1 e0 s7 _ _ S7 (λfl f c8 X3 e3 s3 hr hx hf S3=>?_) λe c8 X' Ez s' hr=>by cases hp:QK ks fs x<;>rw[hp]at hr<;>cases hr.1
    (refine F3 hr λi4 i3=>?_;subst i4;subst i3)
    have a2:∀b o,¬T.Tab b->b≠env.locals->(s₁.setGen g u).heap.get? b=D o->AA s3.heap b=D o:= λb o t ne e=>S3.wr.keep b o (b1 b o ne e) t;have g3:=S3.inv.gens;have d9:T.gp s3.gens:=by rw[g3];exact I6.gens
    have f0:Rj X X3 Z:=by
     refine⟨λb h z=>?_,λb h=>?_⟩
     ·by_cases t:T.Tab b
      ·exact S3.x.tab b t
      ·cases e:Z b with
       |none=>exact Ay e z
       |some o=>exact hx.up b (Ax<|hu.up b h z)<|cL<|b1 b o (λq=>by rw[q,r.wr.zl]at e;exact EN e)<|d6 b o e t
     ·rcases hx.new b h with(q|q)|q
      ·exact hu.new b q
      ·exact BC<|b3 b<|TF q
      ·by_cases t:T.Tab b
       ·exact Ax<|r.x.tab b t
       ·refine BC ?_;cases e:Z b with
        |none=>rfl
        |some o=>(exact Tt<|(b1 b o (λq=>by rw[q,r.wr.zl]at e;cases e)<|d6 b o e t).symm.trans q)
    have g4:Sx T (n+3) A X3 env (ri xs ks fs (mw<|AM<|-x.1)<|mw<|AJ x.2) Z e3 s3:=(S3.LG d9).ck P.O (wr:=[]) (ABj dNo dNo) hc (S3.inv.LG d9) (λb o _ _ e=>e) (λb h=>by cases h) (λb h=>by cases h) (λb h=>Ax h) (λb h=>Ax h) (λb h=>by cases h) nofun (λb h=>by cases h) r.wr.zl (λb o e t=>a2 b o t (λq=>by rw[q,r.wr.zl]at e;exact EN e)<|d6 b o e t) r.wr.base;cases b5:QK ks fs x with
    |true=>
     rw[b5]at hf;cases hf with
     |ret tr=>
      have hP:Xo ks fs xs=true:=Ow.mpr<|CB x (BJ e2) b5;exact KQ _ _ _ X3 e3 s3 ⟨by rw[hP],_,_,B⟩ f0 (.ret tr.LG) g4
    |false=>
     rw[b5]at hf;cases hf;have rs3:Rs T Y L l it vs xs (i'+1) s3:=⟨(S3.inv.LG d9).pin AI,rs.ns.imp λm h=>pF h λo e=>a2 _ _ oL.2 a5 e,IsListIter.keep rs.iter λo e=>a2 _ _ oIt.2 a6 e,?_,?_,rs.ne1,rs.ne2,rs.ne3,rs.hH⟩
     ·refine⟨U xs-(i'+1),Nat.sub_succ_lt_self _ _ b6,i'+1,X3,mw<|AM<|-x.1,mw<|AJ x.2,e3,u,B,b6,λj y hj hy=>?_,(λ_ _ h=>PV.noConfusion h),(λ_ _ h=>PV.noConfusion h),g4,f0,?_,?_,?_,?_,rs3.ns,Ax ?_,?_⟩
      ·by_cases q:j=i'
       ·rw[q,e2]at hy;obtain rfl:=AE hy;exact b5
       ·exact f4 j y (uM (VH hj) q) hy
      ·exact hx.up L (Ax d7)<|cL<|b1 L e6 a5 f1
      ·exact Xp b4 λo e=>a2 ga o oGa.2 e7 e
      ·rw[g3];show(s₁.gens.setIfInBounds g u)[g]? =_;rw[kp.2];show((s'.gens.setIfInBounds g OD).setIfInBounds g u)[g]? =_;rw[Array.getElem?_setIfInBounds_self_of_lt<|by rw[Di];exact gl]
      ·have:=a8 (s3.setGen g OD) {rs3 with inv:=⟨rs3.inv.ext,rs3.inv.tab,rs3.inv.os,AI⟩};rw[show U xs-(i'+1)=m from BI Nat.pred hm];exact this
      ·exact hx.up it (BC<|Cb _<|B0 _)<|cL<|b1 it oi a6 d0
      ·rintro v ⟨o,ho,hd⟩;obtain rfl:=AE<|(a2 _ _ oIt.2 a6 d0).symm.trans ho;exact HH<|g7.symm.trans hd
     ·refine LO rs.li λol c9 e5 nn e4=>?_;refine⟨ol,a2 _ _ (I6.DI c9<|by rw[e5];exactλq=>Ff q) (λq=>?_) c9,e5,nn,e4⟩;refine EX S6.wr.ns λm' o' i7 i8 f3 h5 _=>?_;rw[<-q]at f3;obtain rfl:=AE<|c9.symm.trans f3;exact HH<|e4.symm.trans h5
     ·refine rs.tr.up P.O λb o e nx=>⟨a2 b o (λt=>nx<|Ax<|Ax t) (λq=>nx<|Ax<|BC<|hY b<|q▸r.wr.xl) e,nx⟩
   ·rw[Nat.sub_eq_zero_of_le<|bK b6]at a8;exact(a8 s₁ rs).elim
  ·refine NZ hp λh2 kp i1=>?_;obtain rfl:=Ye hi<|Nat.le_of_sub_eq_zero h2;have I8:Cm T {s₁.setGen g qQ with heap:=h'} :=⟨i1.ext.trans<|C1.of_keeps hk,λb N=>(i1.tab b N).imp λvs t=>⟨hk _ _ t.1,P.O.Us b vs _ _ t.2 λc o _ e _ _=>hk c o e⟩,i1.os,a9 s₁ qQ B kp.2⟩;have S8:Sx T (n+3) A (λb=>Xj b/\b∉ [L,it]) env (ri xs ks fs aj bj) Z e0 {s₁.setGen g qQ with heap:=h'} :=Sj.ck P.O (wr:=[L,it]) (ABj g0 f9) hc I8 (λb o t nb e=>hk b o<|kp.1 b o t (λq=>nb<|q▸B0 _) (λq=>nb<|q▸Cb _ (B0 _)) e) c5 c6 (λb h=>Ax h.1) (λb h=>by
    by_cases q:b∈[L,it]
    ·exact BC q
    ·exact Ax ⟨h,q⟩) (λb N h=>Ay N h.2) c2 c4 r.wr.zl (λb o e t=>hk b o<|kp.1 b o t (λq=>by exact EN<|(b3 b<|Ax q).symm.trans e) (λq=>by exact EN<|(b3 b<|BC q).symm.trans e)<|Sj.wr.keep b o e t) r.wr.base
   have hP:Xo ks fs xs=false:=by refine KW.mpr λh=>?_;refine Ap (Ow.mp h) λy hy ho=>?_;refine Dx (List.getElem?_of_mem hy) λj hj=>?_;exact Pm<|(f4 j y (Pl hj).1 hj).symm.trans ho
   refine KV (KQ Aq HK _ _ e0 _ ⟨by rw[hP],_,_,B⟩ ⟨λb h z=>⟨hu.up b h z,λq=>by exact z<|b3 b<|TF q⟩,λb h=>hu.new b h.1⟩ Mg S8)
 ·refine⟨0,Jn X [L],Af,Af,_,AH0<|JH pC env',B,D1 _,(λj y h=>Ay h<|H4 _),(λ_ _ h=>PV.noConfusion h),(λ_ _ h=>PV.noConfusion h),S4,⟨λb h _=>Ax h,λb h=>h.imp id λh=>by rw[Cx h];exact a4 _ hL⟩,BC<|B0 _,a3,by rw[g2,<-f8,Array.getElem?_push_size],⟨B,?_⟩,c1,BC a1,λv h=>h.elim λo h=>Kq h.1 a1 B⟩;have SG4:Sx (He T) (n+2) tG Y env' (pE (mw<|tz xs) Af Af) (AA s₁.heap) (λ_=>[]) (s₄.setGen g OD):=SG.ext P.O.pin (C1.of_keeps b0) ⟨i₄.ext,i₄.tab,i₄.os,AI⟩;have h:=rh P (n:=n+1) (A:=A.in1) K' (Le.in1 r.a) d8 oL.1 oL.2 h8 h7 h6 (tG:=tG) ⟨⟨SG4.a.mono<|Ej _,SG4.inv,SG4.x,SG4.f⟩,SG4.wr⟩;rw[show(s₄.setGen g OD).heap.objs.size=it from c3]at h;exact h
end
section
open PySem.Builtin
set_option backward.match.sparseCases true
theorem ABm(P:Rq T){ps locs:I Bt}
  (hb:VB k=KS body)(v:∀Cd code l doc pm,JI (ky k Cd code l doc pm) ps)(hs:O6 (E2 k) (DY k)=J)(hf:Su (E2 k) (DY k)=J)(hl:U ps=U ds)(a3:(ps++locs++DY k).Nodup)
  (a2:ps.all (λx=>kG (CY x (E2 k).names))=J)
  (C:∀L f cs code l doc pm,(DY k).length=U cs->Ex T n (DS (ky k ((DY k).zip cs) code l doc pm) L f) (EB ps ds locs++(DY k).zip (Se xs)) body (jn d)):CP T (n+1) (EG k xs) ds d:=by
 intro A X s f vs Q E a g x tf ta K;refine NZ (Nu hs) λh2 h3 h4=>?_;have G:=ta.length
 (refine OG tf.inv λfa j ws a9 N hp nx a1 tx=>?_;subst a9)
 ·rw[P.YO]at N;refine Kv N λo l doc pm c o1 o2 _ b0 q a6 _=>?_;have a8:=a6;refine F9<|Dt (fd:=ky k ((DY k).zip j) (AH c) l doc pm) a.room o1 o2 h2 h3 hb (QC a8) ?_;rw[v _ _ _ _ _ vs<|by rw[G,hl]];refine AP ?_;refine IV (fd:=ky k ((DY k).zip j) (AH c) l doc pm) (ES:=DY k) (cs:=j) (locs:=locs) P.O a g x ta tx hp a1 b0 B q hf hl a3 h4 (tZ a2) λa0 z y a4 i=>?_;refine⟨(g.lim P.O).keeps a4,Jh ?_⟩;refine C _ _ j _ l doc pm q _ a0 (AA s.heap) _ z _ _ i (λfl b1 r X' Ez s' hr hx a5 S'=>?_) λe r X' Ez s' hr=>hr.elim;have ext:C1 T s.heap s'.heap:= λb ob nt e=>S'.wr.keep b ob e nt;have u:Up s'.heap X' s'.heap X:=Up.less λb hb=>by
   rcases x.kind b hb with h|⟨_,o,ho,_⟩
   ·exact S'.x.tab b h
   ·exact hx.up b (y b hb)<|by rw[ho];exact SR
  cases a5 with
  |next=>obtain rfl:d=BK:=hr;exact K AN s' ext S'.inv YU
  |brk=>exact hr.elim
  |cont=>exact hr.elim
  |ret t=>cases hr;exact K _ s' ext S'.inv<|t.up P.O u
theorem ABn(P:Bw T)(e:T.gp=ID)(n:Aj)(xs:I HQ)(ks:Rows)(fs:I Aa):CP T (n+4) (EG 1 [AM 4]) [tz xs,EL ks (AZ fs)] (BZ (Xo ks fs xs)):=by
 refine ABm (n:=n+3) P.toRq (k:=1) (body:=xR) (ps:=[S "wlst",S "cstates"]) (locs:=[S "dt",S "cmt"]) ⋯ (λCd code d doc pm=>P9 λu v=>by kernel_rfl!) ⋯ ⋯ B (by decide+kernel) ⋯ λL f cs code d doc pm g=>?_;have i:DG T (DS (ky 1 ((DY 1).zip cs) code d doc pm) L f) ABh:=JC (ES:=DY 1) (cs:=cs) ⋯ B g B B<|B9 P.toHN;rw[show xR=[BA 0 xR,NT,BA 2 xR] by kernel_rfl!,show EB [S "wlst",S "cstates"] [tz xs,EL ks<|AZ fs] [S "dt",S "cmt"] ++(DY 1).zip (Se [AM 4])=ri xs ks fs Af Af by kernel_rfl!];have l:∀y,(DS (ky 1 ((DY 1).zip cs) code d doc pm) L f).kindOf y≠D BX:= λy h=>by have j:=BW<|show(E2 1).names.lookup y=D BX from h;have:=Kz (show((E2 1).names.all λp=> !(p.2==BX))=J by kernel_rfl!) _ j;simp at this
 refine My<|(As [] [] (fl:=Aq) (EA:=ri xs ks fs Af Af) P.O ⋯ AI _ i).weak λfl v ⟨e1,e2⟩=>?_;subst e1 e2;refine My<|(ABl P e n xs ks fs i l).weak λfl v ⟨e1,a,b,e2⟩=>?_;subst e1 e2;cases Xo ks fs xs with
 |true=>rfl
 |false=>exact My ((As [] [] (fl:=JF<|BZ AB) (EA:=ri xs ks fs a b) P.O ⋯ AI _ i).weak λfl v ⟨e1,e2⟩=>by subst e1 e2;rfl)
end
section
open PySem.Builtin
noncomputable def whT(e:Ct):Expr:=if h:e.ctorIdx=11 then Ts (motive_2:= λ_=>A2) e h λt _ _ _=>t else XC
noncomputable def whB(e:Ct):I Stmt:=if h:e.ctorIdx=11 then Ts (motive_2:= λ_=>I Ct) e h λ_ b _ _=>b else []
noncomputable def whP(e:Ct):Pos:=if h:e.ctorIdx=11 then Ts (motive_2:= λ_=>LH) e h λ_ _ _ p=>p else BN
noncomputable def trB(e:Ct):I Stmt:=if h:e.ctorIdx=17 then YZ (motive_2:= λ_=>I Ct) e h λb _ _ _ _=>b else []
noncomputable def trH(e:Ct):ExceptHandler:=if h:e.ctorIdx=17 then YZ (motive_2:= λ_=>Vk) e h λ_ a _ _ _=>(match a with|h::_=>h|_=>BN)else BN
noncomputable def trP(e:Ct):Pos:=if h:e.ctorIdx=17 then YZ (motive_2:= λ_=>LH) e h λ_ _ _ _ p=>p else BN
inductive WhR(T:Th)(k:Aj)(G:GV)(test:A2)(body:I Ct):Aj->BD->Fl->BD->Prop
 |done {pv:BD} :(∀env,DG T env G->bN T k env pv test AB)->WhR T k G test body 0 pv Aq pv
 |step {m:Aj} {pv BE Fh:BD} {fl:Fl} :(∀env,DG T env G->bN T k env pv test J)->Ge T k G pv body Aq BE->WhR T k G test body m BE fl Fh->WhR T k G test body (m+1) pv fl Fh
theorem rm(O:Cr T)(K:DG T env G)(h:WhR T n G r body m pv fl EA):SX T n env pv (.While r body [] pos) (atR fl EA):=by
 intro A X Z ad s Q E a KQ KE;refine wpAny_While<|codeAny_whileLoop (λq s'=> ∃BE g d,WhR T n G r body q BE fl EA/\Sx T n A g env BE Z d s'/\Rj X g Z) ?_ m<|nT pv X ad h a<|.refl;rintro q s' ⟨BE,g,d,N,S₁,C⟩;cases N with
 |done y=>
  refine y env K A g d s' _ _ S₁.toAr λj i l=>?_;exact KV<|KQ Aq HK _ g d j ⟨B,B⟩ C Mg<|S₁.ext O i l
 |step y hb hr=>
  refine y env K A g d s' _ _ S₁.toAr λj i l=>?_;refine hb env K A g Z d j _ _ (S₁.ext O i l) (λz f u X' Ez v hq L hf x=>?_) λe u X' Ez v hq=>by cases hq.1
  obtain⟨rfl,rfl⟩:=hq;cases hf;exact⟨_,PC _,_,X',Ez,hr,x,C.trans L⟩
theorem ro(O:Cr T){st:Ct}(a:st= .While (whT st) (whB st) [] (whP st))(h:WhR T n G (whT st) (whB st) m pv fl EA):Fn T n G pv st fl EA:= λenv K=>by rw[a];exact rm O K h
theorem TG{st:Ct}(l:st= .Try (trB st) [trH st] [] [] (trP st))(u:fl≠mx)(h:Ge T n G pv (trB st) fl EA):Fn T n G pv st fl EA:= λenv K=>by
 rw[l];intro A X Z ad s Q E a v x;refine AF2<|h env K A X Z ad s _ _ a (λi f d X' Ez g hq r q j=>?_) λe d X' Ez g hq=>Ay hq.1.symm u;have:=v i f d X' Ez g hq r q j;cases f with
 |next=>exact KV this
 |_=>exact this
noncomputable def aJ(ks:I Aa)(n:Aj):Bool:=match kH ks with
 |some q=>Bx (q.2<q.1)&&C8 n 2
 |none=>AB
noncomputable def Ii(ks:I Aa)(xs:I α):I α:=bif aJ ks (U xs)then xs.reverse else xs
theorem TH(xs:I a):(Ii ks xs).length=U xs:=by
 unfold Ii;cases aJ ks (U xs)with
 |true=>exact List.length_reverse
 |false=>rfl
theorem gh(h:U xs<2):Ii ks xs=xs:=by
 have:aJ ks (U xs)=false:=by
  unfold aJ;cases kH ks with
  |none=>rfl
  |some q=>exact Bool.and_eq_false_imp.mpr λ_=>KW.mpr λe=>Ay (DJ e)<|I7 h
 unfold Ii;rw[this];rfl
theorem AJA:kas_sort 2= .ask 1 0 (λc=>if c=J then .ret #[1,0]else .ret #[0,1]):=by
 show KasT.ask 1 0 _=_
 congr 1
 funext c
 cases c<;>rfl
theorem xU(t:A8 T h X ds vs):A8 T h X (Ii ks ds) (Ii ks vs):=by
 unfold Ii;rw[t.length];cases aJ ks (U ds)with
 |true=>exact t.reverse
 |false=>exact t
theorem pG(O:Cr T)(d:Cm T s)(x:Hs T X s.heap)(z:AA T.H1 b=AQ)(v:AA s.heap b=D o)(r:KJ o)(hs:Hg b s.heap h')(j:AA h' b=D o')(i:KJ o'):Cm T {s with heap:=h'} /\Hs T X h':=by
 refine⟨d.turn (s':= {s with heap:=h'}) O z (λg e=>by obtain rfl:=AE<|v.symm.trans e;exact r) λa g u e=>hs.extBut a g u e,⟨x.tab,λa y=>?_⟩⟩;rcases x.kind a y with h|⟨l,g,e,s2⟩
 ·exact Ax h
 ·by_cases q:a=b
  ·subst q;exact BC ⟨l,o',j,i⟩
  ·exact BC ⟨l,g,hs.extBut a g q e,s2⟩
theorem L2(h:o.data=Gz vs n):KJ o:=Ax<|by rw[h];exact K3 B
theorem AG8(h:U xs=2):∃x y,xs=[x,y] :=by
 cases xs with
 |nil=>cases h
 |cons x r=>
  cases r with
  |nil=>cases h
  |cons y r=>
   cases r with
   |nil=>exact(NJ x y B)
   |cons=>cases h
theorem AG9(h:AFE [a,b] kz):∃k t l u,a=EF k t/\b=EF l u/\kz=[k,l] :=by
 cases h with
 |cons k t r=>
  cases r with
  |cons l u r=>cases r;exact(uT _ _ _ _ B B B)
theorem xV(O:Cr T)(g:Cm T s)(x:Hs T X s.heap)(hk:AFE ks kz)(hl:U ks=U vs)(h2:U vs<=2)
  (a2:AA s.heap a=D o1)(a4:o1.cls=Ae "list")(a3:o1.dict=AQ)(j:o1.data=Gz #[] e1)(a8:AA T.H1 a=AQ)(L:AA s.heap z=D o2)(C:o2.data=Gz (AU ks) n2)(a6:AA T.H1 z=AQ)(ne:z≠a)
  (K:∀s',(∀b o,b≠a->b≠z->AA s.heap b=D o->AA s'.heap b=D o)->Cm T s'->Hs T X s'.heap->FK s'.heap a (Ii kz vs).toArray->P (ax (N8 AN)) s'):Ao (M T) A (ksk_end a AB (AU vs) e1 (AH z) (AU ks)) P E s:=by
 have v:∀st p,(arrOf st).map (·.2)=AU p->failedOf st=AQ->p=Ii kz vs->Ao (M T) A (ksk_tail a AB e1 (AH z) st) P E s:= λst p hp hf hq=>by
  refine Dx (Jk C λ_=>(#[]:Ef Am)) λm2 a1=>?_;have u1:=Dy s.heap z<|FO λ_=>(#[]:Ef Am);have g2:=Dm (FO λ_=>(#[]:Ef Am)) L<|Hp a1;refine F3 (pG O g x a6 L (L2 C) u1 g2<|L2 a1) λI1 x1=>?_;have g1:=u1.extBut a o1 (Gk ne) a2;refine Dx (Jk j λ_=>AU p) λm1 N=>?_;have u2:=Dy (s.heap.update z<|FO λ_=>(#[]:Ef Am)) a<|FO λ_=>AU p;have g3:=Dm (FO λ_=>AU p) g1<|Hp N;refine F3 (pG O I1 x1 a8 g1 (L2 j) u2 g3<|L2 N) λI2 x2=>?_;have b4:U p<=2:=by rw[hq,TH];exact h2
  unfold ksk_tail
  try dsimp only
  refine AD<|Vl L C ?_ (by rw[Ab,Ak];exact DT [_,_] [.e A9 BQ,.l BQ<|.n 2] A9 (.n 16777216) [1,1] B hl h2)<|D1 _;refine AD<|zy ?_;refine AD<|seqEpoch_at g1 j ?_;simp-iota only[DW,Ho,hp];refine AD<|Vl g1 j ?_ (D1 _)<|by rw[Ab,Ak];exact AO (by assumption)<|by decide
  rw[hf];simp only[AFH,DW,Ho];refine AP<|K _ (λb o b1 b2 e=>u2.extBut b o b1<|u1.extBut b o b2 e) I2 x2 ⟨_,m1,g3,(RX ..).trans a4,?_,by rw[<-hq];exact N⟩;obtain⟨c,d,dt,sl⟩:=o1;subst j;exact a3
 unfold ksk_end
 try dsimp only
 simp only[DW,Ho];by_cases r:AK vs.toArray<2
 ·rw[Dh r,Dh r];refine AD<|AP ?_;rw[StateT.run_pure];refine AD<|AP ?_
  try dsimp only
  refine v _ vs ?_ B ?_
  ·show(ks.toArray.zip<|AU vs).map (·.2)=_;rw[List.zip_toArray,List.map_toArray,List.map_snd_zip<|B8 hl.symm]
  ·rw[Ab]at r;exact(gh r).symm
 ·rw[CQ r,CQ r];rw[Ab]at r;rw[ksk_kind hk<|by rw[Ab];exact DT [_,_] [.e A9 BQ,.q BQ<|.n 2] (.n 2) A9 [-1,1] B hl r];refine AD<|AP ?_;refine AD (DF (kat_run (E:=E) (ks:=ks) (vs:=vs) (s:=s) (κ:=oneType') (Q:= λh s'=>s'=s/\ ∃p,(arrOf h).map (·.2)=AU p/\failedOf h=AQ/\p=Ii kz vs) (G:= λp s'=>s'=s/\(p.toList.map λi=>vs.getD i AN)=Ii kz vs) hl (by exact bK<|by assumption) (by exact Bj (by assumption)<|by decide) (λp h s' hp a5 hf hg=>⟨hg.1,_,kat_snds hl a5,hf,hg.2⟩) ?_) ?_ λ_ _ e=>e)
  ·have h4:=Yb [_] [.l A9<|.n 2,.q A9<|.n 2] A9 (.n 2) [1,0] [0,1] B B h2 r
   (refine E0 (AG8 h4) λx y a0=>?_;subst a0)
   (refine E0 (AG8<|hl.trans h4) λk1 k2 a0=>?_;subst a0)
   (refine EX (AG9 hk) λk t l u b3 b0 a9=>?_;subst b3;subst b0;subst a9)
   rw[show [x,y].length=2 from B,AJA];show Ao _ _ (keyLt' oneType' (EF l u)<|EF k t) _ _ s;refine kat_lt_int ?_;cases hc:Bx (l<k)with
   |true=>exact⟨B,by show [y,x] =bif Bx (l<k)&&J then [y,x]else [x,y];rw[hc];rfl⟩
   |false=>exact⟨B,by show [x,y] =bif Bx (l<k)&&J then [y,x]else [x,y];rw[hc];rfl⟩
  ·rintro⟨⟨⟩,h⟩ s' ⟨rfl,p,hp,hf,hq⟩
   try dsimp only
   exact v h p hp hf hq
theorem rp{l:I a}(h:l[i]? =D k):l.take (i+1)=l.take i++[k] :=by rw[List.take_add_one,h];rfl
theorem rq(O:Cr T)(c5:Le (n+1) A)(g:Cm T s)(x:Hs T X s.heap)(xa:X a)(pl:FK s.heap a (AU vs))(t:A8 T s.heap X ds vs)(tf:Tr T s.heap X c (AH fq))(hl:U kz=U ds)(h2:U ds<=2)
  (c4:∀(i:Aj) d k,ds[i]? =D d->kz[i]? =D k->CP T n c [d] (AM k))
  (K:∀s',(∀b o,¬T.Tab b->b≠a->AA s.heap b=D o->AA s'.heap b=D o)->Cm T s'->FK s'.heap a (Ii kz vs).toArray->Q AN s'):Ao (M T) A (RV (AS "list.sort") [AH a] [(S "key",AH fq)]) Q E s:=by
 have hvl:U vs=U ds:=t.length.symm▸B;refine BU (id pl) λo n0 ho hc c3 hd=>?_;have b0:=g.Bn ho<|by rw[hd];exact K3 B
 have b8:AA T.H1 a=none:=by
  rcases x.kind a xa with h|⟨h,_⟩
  ·exact Ay h b0
  ·exact h
 refine wpAny_call_entry_kw AH1 pl.isList.typeIs AH2 ?_<|ksk_l1 _ _;show Ao _ _ (Builtin.«list.sort» ⟨[AH a],[(S "key",AH fq)]⟩) _ _ s;rw[ksk_t1];unfold ksk_tree;refine Dx (Jk hd λ_=>(#[]:Ef Am)) λe1 N=>?_;have u1:=Dy s.heap a<|FO λ_=>(#[]:Ef Am);have g1:=Dm (FO λ_=>(#[]:Ef Am)) ho<|Hp N;refine F3 (pG O g x b8 ho (L2 hd) u1 g1<|L2 N) λI1 x1=>?_;have b7:(FO (λ_=>(#[]:Ef Am)) o).cls=Ae "list" :=(RX ..).trans hc;have a1:(FO (λ_=>(#[]:Ef Am)) o).dict=none:=by obtain⟨c,d,dt,sl⟩:=o;subst hd;exact c3
 generalize c9:FO (λ_=>(#[]:Ef Am)) o=o1 at N g1 b7 a1;refine AD<|AKT ho hd ?_;refine AD<|Vl ho hd ?_ (by rw[Ab,Ak];exact DT [_,_,_] [.e A9 BQ,.l BQ<|.n 2,.e B5 BQ] B5 (.n 16777216) [0,1,1] B hl h2 hvl)<|D1 _;generalize c8:s.heap.update a (FO λ_=>(#[]:Ef Am))=a0 at u1 g1 I1 x1;refine AD<|seqEpoch_at g1 N ?_;refine AD<|AIn ?_<|by show U vs<=_;rw[Ak];exact DT [_,_,_] [.e A9 BQ,.l BQ<|.n 2,.e B5 BQ] B5 (.n 16777216) [0,1,1] B hl h2 hvl
 refine AD<|wpAny_newList ?_<|D1 _;refine BV ?_
 dsimp only
 generalize c2:a0.push {cls:=Ae "tuple",data:=Gz (AU vs)} =hp2;have G:∀b o,AA a0 b=D o->AA hp2 b=D o:= λb o e=>by rw[<-c2];exact AX _ e
 have L:∀b o,AA hp2 b=D o->(hp2.push {cls:=Ae "list",data:=Gz ([]:I Am).toArray}).get? b=D o:= λb o e=>AX _ e;generalize b6:AK hp2.objs=z;have c1:=b6▸F4 _;have y:AA a0 z=none:=by
  cases e:AA a0 z with
  |none=>rfl
  |some ob=>exact Tt<|(G _ _ e).symm.trans c1
 have ne:z≠a:= λq=>by rw[q,g1]at y;exact Tt y
 have oK:=Du (s:= {s with heap:=a0}) I1 y;have I3:=I1.keeps (s':= {s with heap:=hp2.push {cls:=Ae "list",data:=Gz ([]:I Am).toArray} }) O λb o e=>L b o<|G b o e;have gK:(hp2.push {cls:=Ae "list",data:=Gz ([]:I Am).toArray}).get? z=D {cls:=Ae "list",data:=Gz ([]:I Am).toArray} :=b6▸A1 _ B;have x3:Hs T (Jn X [z]) (hp2.push {cls:=Ae "list",data:=Gz ([]:I Am).toArray}):=⟨λb hb=>Ax<|x.tab b hb,λb hb=>by
  rcases hb with hb|hb
  ·rcases x1.kind b hb with h|⟨h,o',e,so⟩
   ·exact Ax h
   ·exact BC ⟨h,o',L _ _<|G _ _ e,so⟩
  ·rw[Cx hb];exact BC ⟨oK.1,_,gK,L2 B⟩⟩
 have a5:Up s.heap X (hp2.push {cls:=Ae "list",data:=Gz ([]:I Am).toArray}) (Jn X [z]):= λb o' e nx=>⟨L _ _<|G _ _<|u1.extBut b o' (λq=>nx<|q▸xa) e,λq=>q.elim nx λq=>by rw[Cx q]at e;have:=u1.extBut z o' ne e;exact EN<|y.symm.trans this⟩
 have t3:=t.up O a5;have a6:=tf.up O a5;have b2:∀b o,b≠a->AA s.heap b=D o->(hp2.push {cls:=Ae "list",data:=Gz ([]:I Am).toArray}).get? b=D o:= λb o nb e=>L _ _<|G _ _<|u1.extBut b o nb e;have b9:=L _ _<|G _ _ g1;generalize c7:(hp2.push {cls:=Ae "list",data:=Gz ([]:I Am).toArray} :Dw)=c6 at I3 gK x3 a5 t3 a6 b2 b9;unfold ksk_rest;refine AD<|MG ?_
 first
  |rw[List.forIn_toArray]
  |(rw[<-qR];simp only[List.toList_toArray])
  |rw[<-qR]
 let u:Aj->Bq->Prop:= λi s'=>Cm T s'/\Hs T (Jn X [z]) s'.heap/\A8 T s'.heap (Jn X [z]) ds vs/\Tr T s'.heap (Jn X [z]) c (AH fq)/\(∀b o,¬T.Tab b->b≠a->AA s.heap b=D o->AA s'.heap b=D o)/\AA s'.heap a=D o1/\
  ∃ok ks nk,AA s'.heap z=D ok/\ok.data=Gz (AU ks) nk/\AFE ks (kz.take i)
 refine AD<|ksk_fold u vs 0 _ ⟨I3,x3,t3,a6,λb o _ nb e=>b2 b o nb e,b9,_,[],0,gK,B,by rw[List.take_zero];exact .nil⟩ ?step ?done
 case step=>
  rintro j v s' hv ⟨Ij,xj,tj,fj,kj,aj,ok,ks,nk,gk,dk,ik⟩;simp-iota only[Mm]at ik⊢;have hj:j<U vs:=(Pl hv).1;obtain⟨k,b5⟩:∃k,kz[j]? =D k:=⟨_,AR<|Pj [_,_,_,_] [.e A9 BQ,.e B5 BQ,.t Jj B5] Jj A9 [-1,1,1] B hl hvl hj⟩;obtain⟨d,a3⟩:∃d,ds[j]? =D d:=⟨_,AR<|by exact FN (by assumption)<|by assumption⟩;have tv:Tr T s'.heap (Jn X [z]) d v:=by
   have h1:j<U ds:=by exact FN (by assumption)<|by assumption
   have:=tj.get j h1 hj;rw[AR h1]at a3;rw[AR hj]at hv;obtain rfl:=AE a3;obtain rfl:=AE hv;exact this
  refine AD<|Pf<|c4 j d k a3 b5 _ (Jn X [z]) s' _ [v] _ _ (Le.in1 c5) Ij xj fj (Cw tv E4) λr s₁ C b4 tr=>?_;cases tr with
  | @int _ t2=>
  dsimp only
  have a4:=C z ok oK.2 gk;have U1:=C.up xj.tab;have c0:=xj.ext Ij C;refine Dx (Jk dk (·.push (EF k t2))) λm2 a2=>?_;have u2:=Dy s₁.heap z (FO (·.push (EF k t2)));have g2:=Dm (FO (·.push (EF k t2))) a4<|Hp a2;refine F3 (pG O b4 c0 oK.1 a4 (L2 dk) u2 g2<|L2 a2) λI2 x2=>?_;have hz:U ks<=2:=by have:=ik.length;rw[GK]at this;exact AO (B8 this)<|AO (PD ..)<|AO (B8 hl) h2
  refine AD<|Vl a4 dk ?_ (by rw[Ab,Ak];exact AO (by assumption)<|by decide)<|by rw[zZ,Ab,Ak];exact Bj (by assumption)<|by decide
  have U2:Up s₁.heap (Jn X [z]) (s₁.heap.update z (FO (·.push (EF k t2)))) (Jn X [z]):= λb o' e nx=>⟨u2.extBut b o' (λq=>nx<|BC<|by simp[q]) e,nx⟩;refine AP ⟨B,I2,x2,(tj.up O U1).up O U2,(fj.up O U1).up O U2,λb o' nt nb e=>u2.extBut b o' (λq=>by rw[q]at e;have:=u1.extBut z o' ne e;exact EN<|y.symm.trans this)<|C b o' nt<|kj b o' nt nb e,u2.extBut a o1 (Gk ne)<|C a o1 b0 aj,_,ks++[EF k t2],m2,g2,by rw[a2];simp,by rw[rp b5];exact ksk_snoc ik⟩
 case done=>
  rintro s' ⟨Ij,xj,tj,fj,kj,aj,ok,ks,nk,gk,dk,ik⟩;rw[Hi<|show U kz<=0+U vs from(Mm _).symm▸B8 (hl.trans hvl.symm)]at ik;refine AD<|AKT gk dk ?_;exact xV O Ij xj ik (by have:=ik.length;exact Yb [_,_,_,_] [.e A9 BQ,.e B5 BQ,.e Jj A9] Jj B5 [1,-1,1] [-1,1,-1] B B hl hvl this) (DT [_,_,_] [.e A9 BQ,.l BQ<|.n 2,.e B5 BQ] B5 (.n 2) [0,1,1] B hl h2 hvl) aj b7 a1 N b8 gk dk oK.1 ne λa8 b1 b3 _ a9=>⟨AN,B,K a8 (λb o' nt nb e=>b1 b o' nb (λq=>by rw[q]at e;have:=u1.extBut z o' ne e;exact EN<|y.symm.trans this)<|kj b o' nt nb e) b3 a9⟩
section
variable{M:Model}{A:Around}{E:Value->Shared->Prop}{s:Shared}{env:Env}
theorem Xq
  (N:Ni o=J)(hp:D6 args=J)(y:EV (U args) 20=J)(i:(apos.endLine==pos.line)=J)
  (h:Ao M A (IC o env) (λG g=> ∀L,Ao M A (ak G name L) (λr d=>Ao M A (T3 pos r.1 r.2 (Gc pos (C5 args env)) (AIf pos (zu [⟨D kn,z,C⟩] env))) Q E d) E g) E s):
  Ao M A (IC (El (CO o name apos) args [⟨D kn,z,C⟩] pos) env) Q E s:=by
 rw[AJh,Si N];refine AD<|DF h (λG g u=>?_) λ_ _ e=>e;refine AD<|Dq ?_;have j:AIe (U args+ [(⟨D kn,z,C⟩:Mh)].length) (Gc pos<|C5 args env) (AIf pos<|zu [⟨D kn,z,C⟩] env)=true:=by show((Gc pos<|C5 args env).all (λx=> !x.1)&&J&&Bx (U args+1+1<30))=J;rw[Pp hp];have:=Be y;simp;exact Pj [_] [.l A9<|.n 20] (.a (.a A9 DB) DB) (.n 30) [1] B this
 have v:Vg J o env apos pos=Ce pos:=by unfold Vg;simp[i]
 unfold methodCall;rw[j];refine AD<|BV<|DF (u _) (λr d q=>?_) λ_ _ e=>e;exact AD<|CW v q
end
noncomputable def ADA(e:A2):Pos:=if h:e.ctorIdx=16 then Dr (motive_1:= λ_=>LH) e h λ_ _ a _=>(match a with|k::_=>k.pos|_=>BN)else BN
noncomputable def gj(x:Bt)(e:A2):Expr:=El (CO (Bu x<|Hc<|O8<|KO e) "sort"<|JM<|KO e) [] [⟨D "key",kwV 0 e,ADA e⟩]<|Ka e
theorem xW(O:Cr T){st:Ct}(a1:st=NC (gj x (OE st)) (Xa st))(hn:C9 x=J)(hx:CY x pv=D (BP f (JW ds)))(z:((JM (KO (OE st))).endLine==(Ka (OE st)).line)=J)
  (he:Ms T (n+1) G pv (kwV 0 (OE st)) (EG k ts))(hl:U kz=U ds)(h2:U ds<=2)(a4:∀(i:Aj) d m,ds[i]? =D d->kz[i]? =D m->CP T n (EG k ts) [d] (AM m)):
  Fn T (n+1) G pv st Aq (D3 x (BP f (JW (Ii kz ds))) pv):= λenv K=>by
 rw[a1];unfold gj;refine MP K.kind λA X Z ad s Q E g KQ KE=>?_;refine Xq B B B z<|JB g (FF▸hx) K.kind hn λw xa pl=>?_;refine Bk w λa vs eF pl' t=>?_;have hm:HI (ad x)=a:=by rw[eF];rfl
 rw[hm];refine HE pl'.isList.typeIs Kx PySem.F.slot_list_sort PySem.F.type_list_sort (λb e=>by cases e;refine BU pl' λo m y _ hd _=>?_;exact(CB o y hd)) ?_;refine callWith_builtin_kwB B B<|evalArgs_kw2_nil B<|kwAll_cons<|he env K A X ad s _ E g.toAr λv a5 l r tv=>kwAll_nil ?_;have S₁:=g.ext O l r;have nt: ¬T.Tab a:=by refine BU pl' λo m y _ _ hd=>?_;exact g.inv.Bn y<|by rw[hd];exact K3 B
 have u:=PM pl' λo y=>l a o nt y;have ha:a∈ad x:=by rw[eF];simp
 cases tv with
 | @Cd fa _ a3 ws _ a2 hp nx a0 tx=>
 refine rq O g.a r S₁.x (xa a ha) u (t.up O λb o e j=>⟨l b o (λq=>j<|g.x.tab b q) e,j⟩) (.Cd a2 hp nx a0 tx) hl h2 a4 λs₂ kp N L=>?_;have h:Up s.heap X s₂.heap X:= λb o e j=>⟨kp b o (λq=>j<|g.x.tab b q) (λq=>j<|q▸xa a ha)<|l b o (λq=>j<|g.x.tab b q) e,j⟩;obtain⟨S',hu⟩:=S₁.JD (s':=s₂) (F':=ad x) (o':=JW<|Ii kz ds) (f':=f) O (FQ hx) N (λb o nb C y=>kp b o nb (λq=>C<|q▸ha) y) B (λb C=>Ax C) (λb C=>C)
  ⟨a,Ii kz vs,eF,L,xU<|(t.up O h).less O λb C=>C.elim id<|xa b⟩ (λG hG=>by refine FD (g.f _<|FQ hx) λ_ _ _ fx=>?_;exact fx G hG)
 exact KQ _ _ _ _ ⟨B,B⟩ hu S'
noncomputable def D4(b:I BB):Int:=(122-((b.getD 0 0).toNat:Aa)).fdiv 2
abbrev Dc:=Rows×I Aa
noncomputable def rr(c:Dc)(k:I BB):AW Int:=(c.1.zip c.2).lookup k
noncomputable def cM(c:Dc)(k:I BB)(v:Aa):Dc:=(k::c.1,v::c.2)
noncomputable def Qn(c:Dc)(k:I BB):Int:=(rr c k).getD 0
structure Lc where
 cands:I HQ
 cst:Dc
 xs:I HQ
noncomputable def TJ(a:Aa)(s:Dc×I HQ)(p:I BB):Dc×I HQ:=
 bif Ag (Qn s.1 p) a==a then s else bif Bx (D4 p<0)then s else(cM s.1 p<|BG (Qn s.1 p) a,MX (-(D4 p),p) s.2)
noncomputable def AHA:Int:=BG 1 2
noncomputable def a7:Int:=BG AHA 4
noncomputable def cP(a:Aa):Bool:=Ag a a7==AHA
noncomputable def lV(a:Aa):Bool:= !(Ag a 8==8)
noncomputable def Xr(c:Dc)(k:I BB)(a:Aa):Dc:=match cP a&&lV a with|true=>cM c k (BG a 8)|false=>c
noncomputable def aK(l:I HQ)(q:HQ)(a:Aa):I HQ:=match cP a&&lV a with|true=>l++[(-q.1,q.2)] |false=>l
noncomputable def gn(a:Aa):Int:=match cP a with|true=>BG (Ag a a7) 4|false=>Ag a a7
noncomputable def xX(s:Lc)(a:Aa)(ps:Rows):Lc:=
 ⟨aK s.cands (NQ s.xs).1 a,(ps.foldl (TJ<|gn a) (Xr s.cst (NQ s.xs).1.2 a,(NQ s.xs).2)).1,(ps.foldl (TJ<|gn a) (Xr s.cst (NQ s.xs).1.2 a,(NQ s.xs).2)).2⟩
noncomputable def aL(a:Rows)(JO:I Rows)(s:Lc):AW Lc:=
 s.xs.head?.bind λ_=>(rr s.cst (NQ s.xs).1.2).bind λd=>((a.zip JO).lookup (NQ s.xs).1.2).bind λps=>
  bif EV (U s.xs+U s.cst.1+U s.cands+U ps) 990&&ps.all (λp=>C8 (U p) 1)then D (xX s d ps)else AQ
theorem aM(h:aL i JO s=D s'):∃q0 qr a ps,s.xs=q0::qr/\(rr s.cst (NQ s.xs).1.2=D a/\((i.zip JO).lookup (NQ s.xs).1.2=D ps/\(U s.xs+U s.cst.1+U s.cands+U ps<=990/\(ps.all (λp=>C8 (U p) 1)=J/\s'=xX s a ps)))):=by
 refine Ap (Eo h) λq0 h0 h=>?_;refine Ap (Eo h) λa g h=>?_;refine Ap (Eo h) λps d h=>?_;have hb:=Ew (Y8 h).1;cases e:s.xs with
 |nil=>rw[e]at h0;cases h0
 |cons q qr=>exact⟨q,qr,a,ps,B,e▸g,e▸d,e▸Be hb.1,hb.2,(AE (Y8 h).2).symm⟩
noncomputable def rt(a:Rows)(JO:I Rows):Aj->Lc->AW Lc
 |0,_=>AQ
 |n+1,s=>bif Xo s.cst.1 s.cst.2 s.xs then(aL a JO s).bind (rt a JO n)else D s
noncomputable def ADB(a b:HQ):Bool:=(a.1==b.1)&&(a.2==b.2)
noncomputable def inQ(q:HQ)(l:I HQ):Bool:=l.any λx=>ADB x q
noncomputable def ABo(c:Dc):I HQ->I HQ->AW (I HQ)
 |[],acc=>D acc
 |q::r,acc=>(rr c q.2).bind λf=>ABo c r (bif !(Ag f 4==4)&& !(inQ q acc)then acc++[q]else acc)
noncomputable def Xs(s:Dc×I HQ)(a:I BB):Dc×I HQ:=(cM s.1 a<|BG (Qn s.1 a) 2,MX (-(D4 a),a) s.2)
noncomputable def gq(d:Rows)(JO:I Rows)(a:I BB)(KP:Rows):AW Rows:=
 let s:=KP.foldl Xs (cM ([],[]) a 1,MX (-(D4 a),a) [])
 (rt d JO 40 ⟨[],s.1,s.2⟩).bind λs=>(ABo s.cst s.cands []).bind λres=>
  bif EV (U res) 2&&EV (U KP) 10&&(a::KP).all (λp=>C8 (U p) 1)then D ((Ii (res.map CZ) res).map Ot)else AQ
theorem Xu(h:ir 5 a ds=D r):Cg T n AH3 a (AL ds) (!r):=by
 intro A X s u v Q E ao d x i t2 K
 (refine BU t2.inv λ_ _ g l _ q=>?_;subst g)
 ·refine Dg (Wj i ao.mj h q) λe C _ z=>?_;refine AIr e l (λy j=>C y<|by simpa using j) ?_;simp only[Vf,z];exact K _ (C1.refl _) d
theorem xY(k:Aj)(a b:HQ):Lu (k+2) (Ga a) (Ga b)=D (ADB a b):=by obtain⟨i,x⟩:=a;obtain⟨j,y⟩:=b;skip;show D ((i==j&&(x==y&&J))&&J)=D (i==j&&x==y);simp only[dG]
theorem rv(q:HQ)(l:I HQ):ir 5 (Ga q) (CM l)=D (inQ q l):=by
 induction l with
 |nil=>rfl
 |cons x l d=>
  show(Lu 5 (Ga x)<|Ga q).bind (λa=>(ir 5 (Ga q)<|CM l).bind λy=>D<|a||y)=_;rw[xY,d];rfl
theorem ZO(P:Bw T){st:Ct}(r:st=Oa y st)(j:Hz st=Vx x L4 (Hz st))(z:HP (Hz st)=es)(hn:C9 x=J)(hx:CY x pv=D (BP f o))(a1:Jm y x=AB)
  (hp:D6 es=J)(h:EV (U es) 20=J)(e:((JM (KO (Hz st))).endLine==(Ka (Hz st)).line)=J)(hc:ABZ o=D (C,ns))(hC:J4 (KT T) C)(hf:Hq (KT T) (AH C) L4=D (D (AH g)))(ht:WJ (KT T) (AH g)=D (Ae "function"))(hm:KY L4 ns=AB)
  (he:Gm (Rl (vE T n 20 G pv) es as)=D (ds,cs))(L:ER cs)(N:Li T n g o ds o' d)(kp:Bf T (Ah (AH g)))(hs:JK G y=J)(u:nf pv y=J):Fn T n G pv st Aq (D3 y (mw d) (D3 x (BP f o') pv)):= λenv K=>by
 rw[r];unfold Oa;have i:Vx x L4 (Hz st)=El (CO (Bu x<|Hc<|O8<|KO<|Hz st) L4<|JM<|KO<|Hz st) es [] (Ka<|Hz st):=by rw[<-z];rfl
 rw[j.trans i];intro A X Z ad s Q E a KQ KE;refine HD (VD P K.kind a hn hx hp h e hc hC hf ht hm ((JJ (Io P.O K 20).1).only he L) N kp λv X' Ez s' hu S' tr=>?_) B;exact MJ P.O S' tr K.kind ⟨K.stores hs,by have:=Nf u;exactλq=>this<|Pn.mp q⟩ λl a0=>KQ Aq HK _ X' Ez l ⟨B,B⟩ hu Mg a0
noncomputable def LV(JO:I Rows):I DV:=JO.map λr=>AL<|AV r
noncomputable def dnM:Str:=Wf<|S "_DNC"
noncomputable def LB:I Stmt:=Cc<|A6 65
noncomputable def qL:Str:=S "_find_lcas" ++ ".<locals>."
noncomputable def GL:GV:=⟨(D2<|A6 65).names,HA,[S "cands",S "cstates",S "wlst",S "results"],D (AH 1138,qL)⟩
structure Fx where
 fk:Rows
 JO:I Rows
 c1:I BB
 KP:Rows
noncomputable def J6(x:Fx)(i r v z h e y u d j g q a l:PV):BD:=
 [(dnM,Af),(S "lookup_parents",mw<|EG 3 [EL x.fk<|LV x.JO]),(S "c1",mw<|AJ x.c1),(S "c2s",mw<|AL<|AV x.KP),(S "lookup_stamp",mw<|EG 4 []),(S "min_stamp",mw<|AM 0),(S "shallows",mw BK),
  (S "cands",i),(S "cstates",r),(S "_ANC_OF_1",mw<|AM 1),(S "_ANC_OF_2",mw<|AM 2),(S "_LCA",mw<|AM 8),(S "_has_candidates",mw<|EG 1 [AM 4]),(S "wlst",v),(S "c2",z),(S "cflags",h),(S "result",e),(S "dt",y),(S "cmt",u),
  (S "parents",d),(S "pcmt",j),(S "pflags",g),(S "pdt",q),(S "results",a),(S "lcas",l),(S "_DNC",mw<|AM 4)]
noncomputable def JU(c:Dc):PV:=BP AQ<|nD c.1<|AZ c.2
noncomputable def NX(xs:I HQ):PV:=BP AQ<|dM xs
noncomputable def Mj(l:I HQ):PV:=BP AQ<|JW<|CM l
noncomputable def whS:Stmt:=BA 12 LB
noncomputable def wB:I Stmt:=whB whS
noncomputable def AEX:Stmt:=BA 0<|zd<|BA 6 wB
noncomputable def PN:I Stmt:=DR AEX
theorem Xv(P:Bw T):Bf T (Ah (AH 1112)):=B6 P.toHN 52 1112 1111 (Bl 64 2) (S "WorkList.add") AN ⋯ ⋯ ⋯ B B
theorem xZ(P:Bw T):Bf T (Ah (AH 1119)):=B6 P.toHN 54 1119 1118 (Bl 64 3) (S "WorkList.get") AN ⋯ ⋯ ⋯ B B
theorem xg:W6 c.1 (AZ c.2) k (AM 0)=AM (Qn c k):=by unfold W6 Qn rr;rw[MY];cases(c.1.zip c.2).lookup k<;>rfl
theorem Ug(P:Bw T)(n:Aj)(h:C8 (U b) 1=J):CP T (n+1) (EG 4 []) [AJ b] (AM (D4 b)):=by have:=DJ h;exact wj P.toRq n b (by exact B8<|nB<|by assumption)<|by rw[Ak];exact DT [_] [.e A9 DB] A9 (.n 16777216) [1] B this
noncomputable def AHC(e:Ct):Pos:=if h:e.ctorIdx=27 then AF3 (motive_2:= λ_=>LH) e h λp=>p else BN
theorem gr{st:Ct}(d:st= .Continue (AHC st)):Fn T k G pv st RW pv:= λenv K=>by rw[d];intro A X Z ad s Q E a e g;exact wpAny_Continue<|e RW .cont pv X ad s ⟨B,B⟩ .refl .cont a
theorem xh(P:Bw T)(n:Aj)(x:Fx)(d:Aa)(c:Dc)(xs:I HQ)(p:I BB)(i j e h cm pa z l:PV)(hp:C8 (U p) 1=J)(Q:U c.1<=1000)(N:U xs<=1000):
  ∃fl u y,(fl=Aq\/fl=RW)/\Ge T (n+1) GL (J6 x i (JU c) (NX xs) j (mw (AM d)) e h cm pa (mw (AJ p)) z l Af Af) PN fl (J6 x i (JU (TJ d (c,xs) p).1) (NX (TJ d (c,xs) p).2) j (mw (AM d)) e h cm pa (mw (AJ p)) u y Af Af):=by
 have q:Fn T (n+1) GL (J6 x i (JU c) (NX xs) j (mw<|AM d) e h cm pa (mw<|AJ p) z l Af Af) (BA 0 PN) Aq (J6 x i (JU c) (NX xs) j (mw<|AM d) e h cm pa (mw<|AJ p) (mw<|AM<|Qn c p) l Af Af):=
  As [.bw,.m (AS "dict.get")<|AM<|Qn c p] [H7 T (n+1) (EL c.1<|AZ c.2) "get"<|AS "dict.get",Bf T<|Ah<|AS "dict.get",CP T (n+1) (Ah<|AS "dict.get") [EL c.1<|AZ c.2,AJ p,AM 0]<|AM<|Qn c p] P.O ⋯ ⟨iQ,A3,xg (c:=c) (k:=p)▸oW,AI⟩
 unfold TJ;cases L:Ag (Qn c p) d==d with
 |true=>
  refine(Rh (RW) (mw<|AM<|Qn c p) l (BC B)<|A7 0 PN ⋯ q ?_);exact Ee [.b J,.v RW<|J6 x i (JU c) (NX xs) j (mw<|AM d) e h cm pa (mw<|AJ p) (mw<|AM<|Qn c p) l Af Af] [Fn T (n+1) GL (J6 x i (JU c) (NX xs) j (mw<|AM d) e h cm pa (mw<|AJ p) (mw<|AM<|Qn c p) l Af Af) (BA 0<|zd<|BA 1 PN) RW<|J6 x i (JU c) (NX xs) j (mw<|AM d) e h cm pa (mw<|AJ p) (mw<|AM<|Qn c p) l Af Af,(Ag (Qn c p) d==d)=J] P.O ⋯ ⟨gr ⋯,L,AI⟩
 |false=>
  have s1:Fn T (n+1) GL (J6 x i (JU c) (NX xs) j (mw<|AM d) e h cm pa (mw<|AJ p) (mw<|AM<|Qn c p) l Af Af) (BA 1 PN) Aq (J6 x i (JU c) (NX xs) j (mw<|AM d) e h cm pa (mw<|AJ p) (mw<|AM<|Qn c p) l Af Af):=
   As [.b AB] [(Ag (Qn c p) d==d)=AB] P.O ⋯ ⟨L,AI⟩
  have s2:Fn T (n+1) GL (J6 x i (JU c) (NX xs) j (mw<|AM d) e h cm pa (mw<|AJ p) (mw<|AM<|Qn c p) l Af Af) (BA 2 PN) Aq (J6 x i (JU c) (NX xs) j (mw<|AM d) e h cm pa (mw<|AJ p) (mw<|AM<|Qn c p) (mw<|AM<|D4 p) Af Af):=
   TG ⋯ nofun (Ee [.t<|AM<|D4 p] [CP T (n+1) (EG 4 []) [AJ p]<|AM<|D4 p,Bf T<|EG 4 []] P.O ⋯ ⟨Ug P n hp,MT P.toRq,AI⟩)
  skip;cases G:Bx (D4 p<0)with
  |true=>
   refine(Rh (RW) (mw<|AM<|Qn c p) (mw<|AM<|D4 p) (BC B)<|A7 0 PN ⋯ q<|A7 1 PN ⋯ s1<|A7 2 PN ⋯ s2 ?_);exact Ee [.b J,.v RW<|J6 x i (JU c) (NX xs) j (mw<|AM d) e h cm pa (mw<|AJ p) (mw<|AM<|Qn c p) (mw<|AM<|D4 p) Af Af] [Fn T (n+1) GL (J6 x i (JU c) (NX xs) j (mw<|AM d) e h cm pa (mw<|AJ p) (mw<|AM<|Qn c p) (mw<|AM<|D4 p) Af Af) (BA 0<|zd<|BA 3 PN) RW<|J6 x i (JU c) (NX xs) j (mw<|AM d) e h cm pa (mw<|AJ p) (mw<|AM<|Qn c p) (mw<|AM<|D4 p) Af Af,Bx (D4 p<0)=J] P.O ⋯ ⟨gr ⋯,G,AI⟩
  |false=>
   refine(Rh (Aq) (mw<|AM<|Qn c p) (mw<|AM<|D4 p) (Ax B)<|A7 0 PN ⋯ q<|A7 1 PN ⋯ s1<|A7 2 PN ⋯ s2 ?_);refine A7 3 PN (BE:=J6 x i (JU c) (NX xs) j (mw<|AM d) e h cm pa (mw<|AJ p) (mw<|AM<|Qn c p) (mw<|AM<|D4 p) Af Af) ⋯ (As [.b AB] [Bx (D4 p<0)=AB] P.O ⋯ ⟨G,AI⟩) ?_;refine A7 4 PN (BE:=J6 x i (JU<|cM c p<|BG (Qn c p) d) (NX xs) j (mw<|AM d) e h cm pa (mw<|AJ p) (mw<|AM<|Qn c p) (mw<|AM<|D4 p) Af Af) ⋯ (As [] [U c.1<=AY] P.O ⋯ ⟨by rw[Ak];exact AO (by assumption)<|by decide,AI⟩) ?_;refine Cq (s1:=BA 5 PN) (r:=[]) ⋯ ?_<|Ea B;exact J5 (x:=S "wlst") (L4:=S "add") (es:=HP<|OE<|BA 5 PN) (ds:=[FI [AM<|D4 p,AJ p]]) (o:=dM xs) (o':=dM<|MX (-(D4 p),p) xs) (C:=1129) (g:=1112) (ns:=[xM]) (f:=AQ) (as:=[]) (cs:=[]) P ⋯ B ⋯ ⋯ ⋯ ⋯ ⋯ B (L1 (λa=>K9<|AA T.H1 a) (λa=>Vs<|AA T.H1 a) λa=>Vt<|AA T.H1 a) ⋯ ⋯ ⋯ ⋯ AI (lT P n xs (D4 p) p<|by rw[Ak];exact Bj (by assumption)<|by decide)<|Xv P
end
section
open PySem.Builtin
set_option backward.match.sparseCases true
set_option tactic.hygienic true
theorem Og(q:HQ)(xs:I HQ):(MX q xs).length=U xs+1:=by unfold MX;rw[Xi];simp
theorem cQ(f pos:Aj)(xs:I HQ):(RH f pos xs).length=U xs:=by unfold RH;rw[Xi,cK]
theorem gu:∀xs,(NQ xs).2.length=U xs-1
 |[] =>B
 |[x] =>B
 |x::y::r=>by show(RH _ _ _).length=_;rw[cQ];simp
theorem xi(a:Aa)(s:Dc×I HQ)(p:I BB):(TJ a s p).1.1.length<=U s.1.1+1/\(TJ a s p).2.length<=U s.2+1:=by
 unfold TJ;cases Ag (Qn s.1 p) a==a with
 |true=>exact⟨Ej _,Ej _⟩
 |false=>
  cases Bx (D4 p<0)with
  |true=>exact⟨Ej _,Ej _⟩
  |false=>exact⟨BO _,B8<|Og ..⟩
theorem pH:∀ {ks:Rows} {fs:I Rows},(ks.zip (LV fs)).lookup k=((ks.zip fs).lookup k).map λr=>AL (AV r)
 |[],_=>by simp
 |_::_,[] =>by simp[LV]
 |q::ks,f::fs=>by
  show((q,AL (AV f))::ks.zip (LV fs)).lookup k=_;rw[DU,CE,CE];cases k==q with
  |true=>rfl
  |false=>exact pH
theorem xk(P:Bw T)(n:Aj)(x:Fx)(d:Aa)(j q h i cm pa:PV):∀ps c xs r e g,ps.all (λp=>C8 (U p) 1)=J->U c.1+U ps<=1000->U xs+U ps<=1000->
  ∃N y G,KN T (n+1) GL (Kk AEX) PN (J6 x j (JU c) (NX xs) q (mw (AM d)) h i cm pa r e g Af Af) (AV ps) Aq (J6 x j (JU (ps.foldl (TJ d) (c,xs)).1) (NX (ps.foldl (TJ d) (c,xs)).2) q (mw (AM d)) h i cm pa N y G Af Af):=by
 intro ps;induction ps with
 |nil=>
  exactλc xs r e g _ _ _=>(dh r e g<|.done)
 |cons p ps ih=>
  exactλc xs r e g h1 h2 Q=>by
   rw[N9,A4]at h1;rw[Ac]at h2 Q;refine Hr (xh P n x d c xs p j q h i cm pa e g h1.1 (AO (Ci ..) h2)<|AO (Ci ..) Q) λfl v C O hb=>?_;refine F3 (xi d (c,xs) p) λl1 l2=>?_;refine nS (ih (TJ d (c,xs) p).1 (TJ d (c,xs) p).2 (mw<|AJ p) v C h1.2 (by have:(c,xs).1.1.length=U c.1:=B;exact DT [_,_,_] [.l (.a A9<|.a BQ DB)<|.n 1000,.l B5<|.a A9 DB] (.a B5 BQ) (.n 1000) [1,1] B h2 l1)<|by have:(c,xs).2.length=U xs:=B;exact DT [_,_,_] [.l (.a A9<|.a BQ DB)<|.n 1000,.l B5<|.a A9 DB] (.a B5 BQ) (.n 1000) [1,1] B Q l2) λL u z hr=>?_;refine(dh L u z ?_);skip;rcases O with rfl|rfl
   ·exact .step (Ec:=J6 x j (JU c) (NX xs) q (mw<|AM d) h i cm pa (mw<|AJ p) e g Af Af) ⋯ hb hr
   ·exact .cont (Ec:=J6 x j (JU c) (NX xs) q (mw<|AM d) h i cm pa (mw<|AJ p) e g Af Af) ⋯ hb hr
theorem lW(P:Bw T)(n:Aj)(x:Fx)(f:Aa)(u v h q cm l i j:PV)(ps:Rows)(c:Dc)(xs:I HQ)(G:ps.all (λp=>C8 (U p) 1)=J)(z:U c.1+U ps<=1000)(C:U xs+U ps<=1000):
  ∃e a d,Ge T (n+1) GL (J6 x u (JU c) (NX xs) v (mw (AM f)) h q cm (mw (AL (AV ps))) l i j Af Af) (wB.drop 6) Aq (J6 x u (JU (ps.foldl (TJ f) (c,xs)).1) (NX (ps.foldl (TJ f) (c,xs)).2) v (mw (AM f)) h q cm (mw (AL (AV ps))) e a d Af Af):=by
 refine nS (xk P n x f u v h q cm (mw<|AL<|AV ps) ps c xs l i j G z C) λe a d g=>?_;have y:FP T (n+1) (AL<|AV ps) (!(AV ps).isEmpty):=UH<|by rw[CN];exact AO (AO (BM ..) z)<|Ak▸(by decide:1000<=16777216)
 cases ps with
 |nil=>exact dh l i j<|Ee [.b AB,.b AB] [FP T (n+1) (AL<|AV []) AB,AB=AB] P.O ⋯ ⟨y,B,AI⟩
 |cons p r=>
  exact dh e a d<|Cq (s1:=BA 6 wB) (r:=[]) ⋯ (Ub (m:=20) (as:=[.b J]) (cs:=[FP T (n+1) (AL<|AV<|p::r) J]) (c:=J) (bit:=J) P.O ⋯ ⋯ ⟨y,AI⟩ B (λ_=>Cq (s1:=AEX) (r:=[]) ⋯ (JL [] (AV<|p::r) [] P.O ⋯ ⋯ ⋯ ⋯ AI g)<|Ea B) ADk)<|Ea B
theorem lX(P:Bw T)(n:Aj)(x:Fx)(cands xs:I HQ)(cst:Dc)(q:HQ)(a:Aa)(u pa j g i:PV)(v:rr cst q.2=D a)(z:U cst.1<=990)(y:U cands<=990):
  Fn T (n+1) GL (J6 x (Mj cands) (JU cst) (NX xs) u (mw (AM (Ag a a7))) (mw (Qz q)) (mw (AM (-q.1))) (mw (AJ q.2)) pa j g i Af Af) (BA 4 wB) Aq (J6 x (Mj (aK cands q a)) (JU (Xr cst q.2 a)) (NX xs) u (mw (AM (gn a))) (mw (Qz q)) (mw (AM (-q.1))) (mw (AJ q.2)) pa j g i Af Af):=by
 have d:CC T (n+1) (EL cst.1<|AZ cst.2) (AJ q.2) (AM a):=P8 P.O<|by rw[MY];exact BI (nM AM) v
 unfold aK Xr gn;cases e:cP a with
 |false=>exact As [.b AB] [cP a=AB] P.O ⋯ ⟨e,AI⟩
 |true=>
  cases r:lV a with
  |false=>exact As [.b J,.t<|AM a,.b AB] [CC T (n+1) (EL cst.1<|AZ cst.2) (AJ q.2)<|AM a,lV a=AB,cP a=J] P.O ⋯ ⟨d,r,e,AI⟩
  |true=>
   have e4:Mj (cands++[(-q.1,q.2)])=BP AQ (JW<|CM cands++[Qz q]):=by unfold Mj CM;rw[Cv];rfl
   show Fn T (n+1) GL _ _ _<|J6 x (Mj<|cands++[(-q.1,q.2)]) _ _ _ _ _ _ _ _ _ _ _ _ _;have l:∀ {k:Aj},k<=990->k<=sizeLine:= λh=>AO h<|Ak▸(by decide:990<=16777216);rw[e4];exact As [.b J,.t<|AM a,.b J,.bw,.t<|AM a] [CC T (n+1) (EL cst.1<|AZ cst.2) (AJ q.2)<|AM a,CC T (n+1) (EL cst.1<|AZ cst.2) (AJ q.2)<|AM a,U cst.1<=AY,(CM cands).length<=AY,lV a=J,cP a=J] P.O ⋯ ⟨d,d,l z,l<|by unfold CM;rw[Ai];exact y,r,e,AI⟩
theorem lY(P:Bw T)(n:Aj)(x:Fx)(s s':Lc)(v cf re dt cm pa pc G N:PV)(h:aL x.fk x.JO s=D s'):
  ∃a5 a1 a3 a4 a2 Q z L,Ge T (n+1) GL (J6 x (Mj s.cands) (JU s.cst) (NX s.xs) v cf re dt cm pa pc G N Af Af) wB Aq (J6 x (Mj s'.cands) (JU s'.cst) (NX s'.xs) v a5 a1 a3 a4 a2 Q z L Af Af):=by
 obtain⟨q0,qr,j,ps,hx,hf,u,hz,ha,hs⟩:=aM h;obtain⟨i,cst,xs⟩:=s
 dsimp only at hx hf u hz
 subst hx;subst hs;have a0:=gu<|q0::qr;have wg:=AEP P n q0 qr<|Bj (AO (Ci _ _)<|AO (Ci _ _)<|AO (Ci _ _) hz)<|Ak▸(by decide:990<16777216);unfold xX
 dsimp only
 generalize NQ (q0::qr)=r at a0 wg hf u;obtain⟨q,xs⟩:=r
 dsimp only at a0 hf u⊢
 have lm:(Xr cst q.2 j).1.length<=U cst.1+1:=by
  unfold Xr;cases cP j&&lV j with
  |true=>exact BO _
  |false=>exact Ej _
 refine nS (lW P n x (gn j) (Mj<|aK i q j) v (mw<|Qz q) (mw<|AM<|-q.1) (mw<|AJ q.2) pc G N ps (Xr cst q.2 j) xs ha (DT [_,_,_,_,_] [.l A9<|.a BQ DB,.l (.a (.a (.a B5 BQ) Jj) df)<|.n 990] (.a A9 df) (.n 1000) [1,1] B lm hz)<|DT [_,_,_,_,_] [.e A9 BQ,.l (.a (.a (.a (.a BQ DB) B5) Jj) df)<|.n 990] (.a A9 df) (.n 1000) [1,1] B a0 hz) λQ z L ht=>?_;exact WZ _ _ _ _ _ Q z L (
  A7 0 wB (BE:=J6 x (Mj i) (JU cst) (NX xs) v cf (mw<|Qz q) dt cm pa pc G N Af Af) ⋯
   (ZO (x:=S "wlst") (y:=S "result") (L4:=S "get") (es:=[]) (ds:=[]) (o:=dM<|q0::qr) (o':=dM xs) (d:=Qz q) (C:=1129) (g:=1119) (ns:=[xM]) (f:=AQ) (as:=[]) (cs:=[]) P ⋯ ⋯ B ⋯ ⋯ ⋯ B B ⋯ B (L1 (λa=>K9<|AA T.H1 a) (λa=>Vs<|AA T.H1 a) λa=>Vt<|AA T.H1 a) ⋯ ⋯ ⋯ ⋯ AI wg (xZ P) ⋯ ⋯)<|
  A7 1 wB (BE:=J6 x (Mj i) (JU cst) (NX xs) v cf (mw<|Qz q) dt cm pa pc G N Af Af) ⋯ (As [.b AB] [AB=AB] P.O ⋯ ⟨B,AI⟩)<|
  A7 2 wB (BE:=J6 x (Mj i) (JU cst) (NX xs) v cf (mw<|Qz q) (mw<|AM<|-q.1) (mw<|AJ q.2) pa pc G N Af Af) ⋯ (As [] [] P.O ⋯ AI)<|
  A7 3 wB (BE:=J6 x (Mj i) (JU cst) (NX xs) v (mw<|AM<|Ag j a7) (mw<|Qz q) (mw<|AM<|-q.1) (mw<|AJ q.2) pa pc G N Af Af) ⋯
   (As [.bw,.t<|AM j] [CC T (n+1) (EL cst.1<|AZ cst.2) (AJ q.2)<|AM j] P.O ⋯ ⟨P8 P.O<|by rw[MY];exact BI (nM AM) hf,AI⟩)<|
  A7 4 wB ⋯ (lX P n x i xs cst q j v pa pc G N hf (DT [_,_,_,_] [.l (.a (.a (.a A9 BQ) B5) Jj)<|.n 990] BQ (.n 990) [1] B hz)<|DT [_,_,_,_] [.l (.a (.a (.a A9 BQ) B5) Jj)<|.n 990] B5 (.n 990) [1] B hz)<|
  A7 5 wB ⋯
   (TG ⋯ nofun (Ee [.t<|AL<|AV ps] [CP T (n+1) (EG 3 [EL x.fk<|LV x.JO]) [AJ q.2]<|AL<|AV ps,Bf T<|EG 3 [EL x.fk<|LV x.JO]] P.O ⋯ ⟨we P.toRq n q.2 x.fk (LV x.JO) _<|by rw[pH,u];rfl,MT P.toRq,AI⟩)) ht)
end
section
open PySem.Builtin
noncomputable def c2F:Stmt:=BA 11 LB
noncomputable def c2B:I Stmt:=DR c2F
theorem lZ(P:Bw T)(a8:T.gp=ID)(n:Aj)(x:Fx)(u:PV):∀l s s' r e q cm pa j g i,rt x.fk x.JO l s=D s'->
  ∃m b7 z b1 b4 a6 a3 L a0,WhR T (n+4) GL (whT whS) wB m (J6 x (Mj s.cands) (JU s.cst) (NX s.xs) u r e q cm pa j g i Af Af) Aq (J6 x (Mj s'.cands) (JU s'.cst) (NX s'.xs) u b7 z b1 b4 a6 a3 L a0 Af Af):=by
 intro l;induction l with
 |zero=>
  exactλ_ _ _ _ _ _ _ _ _ _ h=>by cases h
 |succ l ih=>
  exactλs s' r e q cm pa j g i h=>by
   have a:∀b,Xo s.cst.1 s.cst.2 s.xs=b->∀env,DG T env GL->bN T (n+4) env (J6 x (Mj s.cands) (JU s.cst) (NX s.xs) u r e q cm pa j g i Af Af) (whT whS) b:= λb d env K=>
    MM P.O ((Io P.O K 20).2 (whT whS) [.t<|BZ b] b [CP T (n+4) (EG 1 [AM 4]) [tz s.xs,EL s.cst.1<|AZ s.cst.2]<|BZ b,Bf T<|EG 1 [AM 4]] [] ⋯ ⟨d▸ABn P a8 n s.xs s.cst.1 s.cst.2,MT P.toRq,AI⟩)
   have h:(bif Xo s.cst.1 s.cst.2 s.xs then(aL x.fk x.JO s).bind (rt x.fk x.JO l)else D s)=D s':=h;cases d:Xo s.cst.1 s.cst.2 s.xs with
   |false=>
    rw[d]at h;obtain rfl:=AE h;exact⟨0,r,e,q,cm,pa,j,g,i,.done<|a AB d⟩
   |true=>
    rw[d]at h;refine Ap (Eo h) λs1 ht h=>?_
    ·refine MH (lY P (n+3) x s s1 u r e q cm pa j g i ht) λb6 y b0 b3 a5 a2 G Q st=>?_;obtain⟨m,b5,v,a9,b2,a4,a1,C,N,hw⟩:=ih s1 s' b6 y b0 b3 a5 a2 G Q h;exact⟨m+1,b5,v,a9,b2,a4,a1,C,N,.step (a J d) st hw⟩
theorem ABp(P:Bw T)(n:Aj)(x:Fx):∀ps c xs j i,ps.all (λp=>C8 (U p) 1)=J->U c.1+U ps<=1000->U xs+U ps<=1000->
  ∃h d,KN T (n+1) GL (Kk c2F) c2B (J6 x (Mj []) (JU c) (NX xs) j i Af Af Af Af Af Af Af Af Af) (AV ps) Aq (J6 x (Mj []) (JU (ps.foldl Xs (c,xs)).1) (NX (ps.foldl Xs (c,xs)).2) h d Af Af Af Af Af Af Af Af Af):=by
 intro ps;induction ps with
 |nil=>
  exactλc xs j i _ _ _=>(NJ j i<|.done)
 |cons p ps y=>
  exactλc xs j i h1 q u=>by
   rw[N9,A4]at h1;rw[Ac]at q u;have v:=Ak;refine E0 (y (Xs (c,xs) p).1 (Xs (c,xs) p).2 (mw<|AJ p) (mw<|AM<|Qn c p) h1.2 (by show U c.1+1+U ps<=1000;exact DT [_,_] [.l (.a A9<|.a BQ DB)<|.n 1000] (.a (.a A9 DB) BQ) (.n 1000) [1] B q)<|by show(MX _ xs).length+U ps<=1000;rw[Og];exact DT [_,_] [.l (.a A9<|.a BQ DB)<|.n 1000] (.a (.a A9 DB) BQ) (.n 1000) [1] B u) λh d z=>?_;refine(NJ h d<|.step (Ec:=J6 x (Mj []) (JU c) (NX xs) (mw<|AJ p) i Af Af Af Af Af Af Af Af Af) ⋯ ?_ z);refine A7 0 c2B (BE:=J6 x (Mj []) (JU c) (NX xs) (mw<|AJ p) (mw<|AM<|Qn c p) Af Af Af Af Af Af Af Af Af) ⋯
    (As [.bw,.m (AS "dict.get")<|AM<|Qn c p] [H7 T (n+1) (EL c.1<|AZ c.2) "get"<|AS "dict.get",Bf T<|Ah<|AS "dict.get",CP T (n+1) (Ah<|AS "dict.get") [EL c.1<|AZ c.2,AJ p,AM 0]<|AM<|Qn c p] P.O ⋯ ⟨iQ,A3,xg (c:=c) (k:=p)▸oW,AI⟩) ?_
   refine A7 1 c2B (BE:=J6 x (Mj []) (JU<|cM c p<|BG (Qn c p) 2) (NX xs) (mw<|AJ p) (mw<|AM<|Qn c p) Af Af Af Af Af Af Af Af Af) ⋯
    (As [] [U c.1<=AY] P.O ⋯ ⟨DT [_,_,_] [.l (.a A9<|.a BQ DB)<|.n 1000,.e B5<|.n 16777216] A9 B5 [1,-1] B q v,AI⟩) ?_
   refine Cq (s1:=BA 2 c2B) (r:=[]) ⋯ (TG ⋯ nofun (Cq (s1:=BA 0<|trB<|BA 2 c2B) (r:=[]) ⋯ ?_<|Ea B))<|Ea B;exact J5 (x:=S "wlst") (L4:=S "add") (es:=HP<|OE<|BA 0<|trB<|BA 2 c2B) (ds:=[FI [AM<|D4 p,AJ p]]) (o:=dM xs) (o':=dM<|MX (-(D4 p),p) xs) (C:=1129) (g:=1112) (ns:=[xM]) (f:=AQ) (as:=[.t<|AM<|D4 p]) (cs:=[CP T (n+1) (EG 4 []) [AJ p]<|AM<|D4 p,Bf T<|EG 4 []]) P ⋯ B ⋯ ⋯ ⋯ ⋯ ⋯ B (L1 (λa=>K9<|AA T.H1 a) (λa=>Vs<|AA T.H1 a) λa=>Vt<|AA T.H1 a) ⋯ ⋯ ⋯ ⋯ ⟨Ug P n h1.1,MT P.toRq,AI⟩ (lT P n xs (D4 p) p<|by omega)<|Xv P
end
section
open PySem.Builtin
set_option backward.match.sparseCases true
set_option tactic.hygienic true
noncomputable def reF:Stmt:=BA 14 LB
noncomputable def reB:I Stmt:=DR reF
noncomputable def lcE:Expr:=Hz<|BA 16 LB
theorem ry(f:d->a):Ii ks (xs.map f)=(Ii ks xs).map f:=by
 unfold Ii;rw[Ai];cases aJ ks (U xs)with
 |true=>exact List.map_reverse.symm
 |false=>rfl
theorem xm(P:Bw T)(n:Aj)(x:Fx)(ca:I HQ)(c:Dc)(z c2 cf C pa N G L:PV):∀l acc r dt cm,ABo c l acc=D r->U acc+U l<=1000->
  ∃d g,KN T (n+1) GL (Kk reF) reB (J6 x (mw (AL (CM ca))) (JU c) z c2 cf C dt cm pa N G L (Mj acc) Af) (CM l) Aq (J6 x (mw (AL (CM ca))) (JU c) z c2 cf C d g pa N G L (Mj r) Af):=by
 intro l;induction l with
 |nil=>
  exactλacc r dt cm h hz=>by cases h;exact(NJ dt cm<|.done)
 |cons q l ih=>
  exactλacc r dt cm h hz=>by
   rw[Ac]at hz;have sz:=Ak;refine Ap (Eo h) λf hf h=>?_
   ·have i:CC T (n+1) (EL c.1<|AZ c.2) (AJ q.2) (AM f):=P8 P.O (by rw[MY];exact BI (nM AM) hf);have v:∀b,inQ q acc=b->Cg T (n+1) AH3 (FI [AM q.1,AJ q.2]) (AL<|CM acc) (!b):= λb hb=>hb▸Xu (rv q acc)
    let j:=J6 x (mw<|AL<|CM ca) (JU c) z c2 cf C (mw<|AM q.1) (mw<|AJ q.2) pa N G L (Mj acc) Af
    have a0:(CM acc).length<=sizeLine:=by unfold CM;rw[Ai];exact DT [_,_,_] [.l (.a A9<|.a BQ DB)<|.n 1000,.e B5<|.n 16777216] A9 B5 [1,-1] B hz sz
    have h:=h;cases y: !(Ag f 4==4)with
    |false=>
     rw[y]at h;refine E0 (ih acc r (mw<|AM q.1) (mw<|AJ q.2) h<|DT [_,_] [.l (.a A9<|.a BQ DB)<|.n 1000] (.a A9 BQ) (.n 1000) [1] B hz) λd g u=>?_;refine(NJ d g<|.step (Ec:=j) ⋯ ?_ u);exact Ee [.t<|AM f,.b AB,.b AB] [CC T (n+1) (EL c.1<|AZ c.2) (AJ q.2)<|AM f,(!(Ag f 4==4))=AB,AB=AB] P.O ⋯ ⟨i,y,B,AI⟩
    |true=>
     rw[y]at h;cases Q:inQ q acc with
     |true=>
      rw[Q]at h;refine E0 (ih acc r (mw<|AM q.1) (mw<|AJ q.2) h<|DT [_,_] [.l (.a A9<|.a BQ DB)<|.n 1000] (.a A9 BQ) (.n 1000) [1] B hz) λd g u=>?_;refine(NJ d g<|.step (Ec:=j) ⋯ ?_ u);exact Ee [.t<|AM f,.b J,.b AB,.b AB] [CC T (n+1) (EL c.1<|AZ c.2) (AJ q.2)<|AM f,Cg T (n+1) AH3 (FI [AM q.1,AJ q.2]) (AL<|CM acc) AB,(!(Ag f 4==4))=J,AB=AB] P.O ⋯ ⟨i,v J Q,y,B,AI⟩
     |false=>
      rw[Q]at h;refine E0 (ih (acc++[q]) r (mw<|AM q.1) (mw<|AJ q.2) h<|by rw[Ad];simp;exact DT [_,_] [.l (.a A9<|.a BQ DB)<|.n 1000] (.a (.a A9 DB) BQ) (.n 1000) [1] B hz) λd g u=>?_;refine(NJ d g<|.step (Ec:=j) (BE:=J6 x (mw<|AL<|CM ca) (JU c) z c2 cf C (mw<|AM q.1) (mw<|AJ q.2) pa N G L (Mj<|acc++[q]) Af) ⋯ ?_ u);have e4:Mj (acc++[q])=BP AQ (JW<|CM acc++[FI [AM q.1,AJ q.2]]):=by unfold Mj CM;rw[Cv];rfl
      rw[e4];exact Ee [.t<|AM f,.b J,.b J,.b J] [CC T (n+1) (EL c.1<|AZ c.2) (AJ q.2)<|AM f,Cg T (n+1) AH3 (FI [AM q.1,AJ q.2]) (AL<|CM acc) J,(!(Ag f 4==4))=J,(CM acc).length<=AY,J=J] P.O ⋯ ⟨i,v AB Q,y,a0,B,AI⟩
theorem ABq(P:Bw T)(n:Aj)(pv:BD):∀l,EO T n (EY GL (Bd lcE)) (DA GL pv (Bd lcE).names) (PY lcE) (FT lcE) (FY lcE) (CM l) (AV (l.map Ot)):=by
 intro l;induction l with
 |nil=>
  exact Mi
 |cons q l a=>
  exact HL (tv:=[(S "dt",mw<|AM q.1),(S "cmt",mw<|AJ q.2)]) ⋯ (E5 ⋯) (EC [] [] P.O ⋯ AI) a
theorem ABr(P:Bw T)(n:Aj)(pv:BD):Ms T n GL pv (kwV 0 (OE (BA 15 LB))) (EG 2 []):= λenv K=>by have C:=Qg P.toHN 9 1138 1136 ⋯ ⋯ ⋯ ⋯ ⋯ ⋯ ⋯ ⋯;have h:=XM (n:=n) (pv:=pv) P.toRq K (k:=2) (e:=kwV 0<|OE<|BA 15 LB) (body:=Rp<|ZI 2) (c0:=1138) (q:=qL) (ts:=[]) (by decide) ⋯ ⋯ (λenv=>by rfl) ⋯ ⋯ (Ax ⋯) B C (DI.ok ⋯) (Ax B) ⋯ (by decide+kernel) ⋯ ⋯;intro A X ad s Q E R k;exact h A X ad s Q E (λy a=>by rw[show DY 2=[] by kernel_rfl!]at a;cases a) R k
theorem xn(P:Bw T)(n:Aj)(x:Fx)(ca:I HQ)(c:Dc)(j L C u dt cm pa z v y:PV)(r:I HQ)(h:ABo c ca [] =D r)(hz:U ca<=1000)(h2:U r<=2):
  ∃EA,Ge T (n+2) GL (J6 x (Mj ca) (JU c) j L C u dt cm pa z v y Af Af) (LB.drop 13) (JF (AL (AV ((Ii (r.map CZ) r).map Ot)))) EA:=by
 refine E0 (xm P (n+1) x ca c j L C u pa z v y ca [] r dt cm h<|by simpa using hz) λa g hr=>?_;have sz:=Ak;generalize Q:Ii (r.map CZ) r=sr;have a0:U sr<=2:=by rw[<-Q,TH];exact h2
 refine⟨J6 x (mw<|AL<|CM ca) (JU c) j L C u a g pa z v y (mw<|AL<|CM sr)<|mw<|AL<|AV<|sr.map Ot,?_⟩;refine A7 13 LB (BE:=J6 x (Mj ca) (JU c) j L C u dt cm pa z v y (Mj []) Af) ⋯ (As [] [] P.O ⋯ AI) ?_;refine Qj (x:=S "cands") (EA:=J6 x (mw<|AL<|CM ca) (JU c) j L C u a g pa z v y (mw<|AL<|CM sr)<|mw<|AL<|AV<|sr.map Ot) P.O ?_;rw[show Yc (S "cands") (J6 x (Mj ca) (JU c) j L C u dt cm pa z v y (Mj []) Af)=J6 x (mw<|AL<|CM ca) (JU c) j L C u dt cm pa z v y (Mj []) Af by kernel_rfl!];refine Cq (s1:=reF) (r:=LB.drop 15) ⋯ (JL [] (CM ca) [] P.O ⋯ ⋯ ⋯ ⋯ AI hr) ?_;refine A7 15 LB (BE:=J6 x (mw<|AL<|CM ca) (JU c) j L C u a g pa z v y (Mj sr) Af) ⋯ ?_ ?_
 ·have h:=xW (n:=n+1) (G:=GL) (pv:=J6 x (mw<|AL<|CM ca) (JU c) j L C u a g pa z v y (Mj r) Af) (st:=BA 15 LB) (x:=S "results") (f:=AQ) (ds:=CM r) (kz:=r.map CZ) (k:=2) (ts:=[]) P.O ⋯ ⋯ ⋯ ⋯ (ABr P _ _) (by unfold CM;rw[Ai,Ai]) (by unfold CM;rw[Ai];exact h2) (λi d m N hm=>by
   unfold CM at N;rw[Bv]at N hm;cases e:r[i]?with
   |none=>rw[e]at N;cases N
   |some q=>rw[e]at N hm;cases N;cases hm;exact wd P.toRq n _ _)
  rw[show Ii (r.map CZ) (CM r)=CM sr by unfold CM;rw[ry,Q]]at h;exact h
 refine Qj (x:=S "results") (EA:=J6 x (mw<|AL<|CM ca) (JU c) j L C u a g pa z v y (mw<|AL<|CM sr)<|mw<|AL<|AV<|sr.map Ot) P.O ?_;rw[show Yc (S "results") (J6 x (mw<|AL<|CM ca) (JU c) j L C u a g pa z v y (Mj sr) Af)=J6 x (mw<|AL<|CM ca) (JU c) j L C u a g pa z v y (mw<|AL<|CM sr) Af by kernel_rfl!];refine A7 16 LB ⋯ (GJ P.O (vs:=AV<|sr.map Ot) ⋯ ⋯ (D7 [] (CM sr) [] P.O ⋯ ⋯ ⋯ ⋯ AI (by unfold CM;rw[Ai];exact DT [_,_] [.e A9<|.n 16777216,.l BQ<|.n 2] BQ A9 [-1,1] B sz a0)<|ABq P _ _ sr) ⋯) ?_;exact K8 (s1:=BA 17 LB) (r:=[]) ⋯<|As [] [] P.O ⋯ AI
noncomputable def pvB(x:Fx)(a g i h d e:PV):BD:=
 [(S "lookup_parents",mw<|EG 3 [EL x.fk<|LV x.JO]),(S "c1",mw<|AJ x.c1),(S "c2s",mw<|AL<|AV x.KP),(S "lookup_stamp",mw<|EG 4 []),(S "min_stamp",mw<|AM 0),(S "shallows",mw BK),
  (S "cands",a),(S "cstates",g),(S "_ANC_OF_1",i),(S "_ANC_OF_2",h),(S "_LCA",d),(S "_has_candidates",Af),(S "wlst",Af),(S "c2",Af),(S "cflags",Af),(S "result",Af),(S "dt",Af),(S "cmt",Af),
  (S "parents",Af),(S "pcmt",Af),(S "pflags",Af),(S "pdt",Af),(S "results",Af),(S "lcas",Af),(S "_DNC",e)]
noncomputable def psL:I Str:=[S "lookup_parents",S "c1",S "c2s",S "lookup_stamp",S "min_stamp",S "shallows"]
noncomputable def ADC:I Str:=[S "cands",S "cstates",S "_ANC_OF_1",S "_ANC_OF_2",S "_LCA",S "_has_candidates",S "wlst",S "c2",S "cflags",S "result",S "dt",S "cmt",S "parents",S "pcmt",S "pflags",S "pdt",S "results",S "lcas",S "_DNC"]
theorem AHE(h:vo v=D q):∃t,v=D (Bz q t):=by
 cases v with
 |none=>cases h
 |some v=>cases v<;>first|((first|exact EN h|obtain rfl:=AE h);done)|(obtain rfl:=AE h;exact⟨_,B⟩)
theorem rz(h:aL q JO s=D s'):U s'.cands<=1000:=by
 obtain⟨q0,qr,d,ps,g,i,e,hz,j,hs⟩:=aM h;rw[hs];show(aK s.cands (NQ s.xs).1 d).length<=1000;unfold aK;cases cP d&&lV d with
 |true=>exact(Ad ..).symm▸DT [_,_,_,_] [.l (.a (.a (.a A9 BQ) B5) Jj)<|.n 990] (.a B5 DB) (.n 1000) [1] B hz
 |false=>exact DT [_,_,_,_] [.l (.a (.a (.a A9 BQ) B5) Jj)<|.n 990] B5 (.n 1000) [1] B hz
theorem xp(a:Rows)(JO:I Rows):∀n s s',U s.cands<=1000->rt a JO n s=D s'->U s'.cands<=1000:=by
 intro n;induction n with
 |zero=>exactλ_ _ _ h=>EN h
 |succ n e=>
  intro s s' hs h;have h:(bif Xo s.cst.1 s.cst.2 s.xs then(aL a JO s).bind (rt a JO n)else D s)=D s':=h;cases d:Xo s.cst.1 s.cst.2 s.xs with
  |true=>
   rw[d]at h;refine Ap (Eo h) λs1 g h=>?_;exact e s1 s' (rz g) h
  |false=>rw[d]at h;exact AE h▸hs
theorem gv(O:Cr T){ps locs Fe kw:I Bt}(g:ZM T f fd [] [] [])(W:∀x d,glob x=D d->Kj T x d)(u:fd.body=KS body)(hl:U ps=U es)
  (G:∀X s vs C,Cm T s->A8 T s.heap X ds vs->A8 T s.heap X ks C->∃ws,BindsTo s fd ⟨vs,kw.zip C⟩ (ps.zip ws)/\A8 T s.heap X es ws)(N:(ps++locs++[]).Nodup)(hs:O6 fd.scope [] =J)
  (L:ps.all (λx=>kG (CY x fd.scope.names))=J)
  (a3:∀p,cq=D p->fd.code=p.1/\fd.qualname++ ".<locals>." =p.2)
  (a1:Ge T n ⟨fd.scope.names,glob,Fe,cq⟩ (EB ps es locs++[]) body fl EA)(hr:jn d fl []):gU T (n+1) f kw ds ks d:=by
 intro A X s vs C R a i x ta tk K;refine NZ (Nu hs) λh2 h3 h4=>?_;refine Ap g.obj λob o1 o2=>?_;have a2:s.heap.CodeRec fd.code fd.qualname:=by refine EX g.code λc oc fs t e1 e2 e3=>?_;exact⟨c,oc,fs,t,e1,i.ext _ _ (g.Te c e1) e2,e3⟩
 refine Ap (G X s vs C i ta tk) λws a4 te=>?_;refine Dt a.room (i.ext _ _ g.tab o1) o2 h2 h3 u a2<|a4 _ _ _ _ ?_;refine IV (ES:=[]) (cs:=[]) (ds:=es) (xs:=[]) (ws:=[]) (locs:=locs) O a i x te E4 QV IL PE g.Cd B B hl N h4 (tZ L) λz y v Q j=>?_;refine⟨(i.lim O).keeps Q,Jh ?_⟩;have KE:DG T (DS fd (AK s.heap.objs) f) ⟨fd.scope.names,glob,Fe,AQ⟩:=JC hs g.Cd B g.dO g.blt W;refine a1 (DS fd (AK s.heap.objs) f) ⟨KE.kind,KE.names,KE.okn,KE.dO,KE.blt,KE.cells,KE.glob,λp hp=>a3 p hp⟩ _ z _ _ y _ _ j (λa6 a5 l X' Ez s' r hx a0 S'=>?_) λe l X' Ez s' r=>by refine F3 r λe1 _=>?_;subst e1;exact hr.elim
 refine F3 r λe1 e2=>?_;subst e1 e2;have ext:C1 T s.heap s'.heap:= λb ob nt e=>S'.wr.keep b ob e nt;have q:Up s'.heap X' s'.heap X:=Up.less λb G=>by
  rcases x.kind b G with h|⟨_,o,ho,_⟩
  ·exact S'.x.tab b h
  ·exact hx.up b (v b G)<|by rw[ho];exact SR
 cases a0 with
 |next=>obtain rfl:d=BK:=hr;exact K AN s' ext S'.inv YU
 |brk=>exact hr.elim
 |cont=>exact hr.elim
 |ret t=>cases hr;exact K _ s' ext S'.inv<|t.up O q
noncomputable def xq(x:Fx):BD:=pvB x (Mj []) (JU ([],[])) (mw<|AM 1) (mw<|AM 2) (mw<|AM 8)<|mw<|AM 4
theorem xt(P:Bw T)(z:T.gp=ID)(n:Aj)(x:Fx)(r:Rows)(h:gq x.fk x.JO x.c1 x.KP=D r):∃EA,Ge T (n+4) GL (pvB x Af Af Af Af Af Af) LB (JF (AL (AV r))) EA:=by
 refine Ap (Eo h) λrs e h=>?_;refine Ap (Eo h) λy j h=>?_;refine F3 (Y8 h) λhz h=>?_
 ·rw[A4,A4]at hz
  (refine F3 hz λv hz3=>?_;obtain⟨i,d⟩:=v)
  have i:=Be i;have d:=Be d;rw[N9,A4]at hz3;obtain rfl:=AE h;have sz:=Ak;have C:=L1 (λa=>K9<|AA T.H1 a) (λa=>Vs<|AA T.H1 a) λa=>Vt<|AA T.H1 a;have CH:=Qg P.toHN 9 1138 1136 ⋯ ⋯ ⋯ ⋯ ⋯ ⋯ ⋯ ⋯;refine E0 (ABp P (n+3) x x.KP (cM ([],[]) x.c1 1) (MX (-(D4 x.c1),x.c1) []) Af Af hz3.2 (by exact DT [_] [.l A9<|.n 10] (.a DB A9) (.n 1000) [1] B d)<|by rw[Og];exact DT [_] [.l A9<|.n 10] (.a (.a Mr DB) A9) (.n 1000) [1] B d) λu Q N=>?_;obtain⟨m,cf,re,dt,cm,pa,pc,pf,pd,hw⟩:=lZ P z n x u 40 _ rs Q Af Af Af Af Af Af Af e;have L:=xp x.fk x.JO 40 _ rs (D1 _) e;refine Dx (xn P (n+2) x rs.cands rs.cst (NX rs.xs) u cf re dt cm pa pc pf pd y j L i) λEA ht=>?_;refine⟨EA,?_⟩;refine A7 0 LB (BE:=pvB x Af Af Af Af Af Af) ⋯ (As [] [] P.O ⋯ AI) ?_;refine A7 1 LB (BE:=pvB x (Mj []) Af Af Af Af Af) ⋯ (As [] [] P.O ⋯ AI) ?_;refine A7 2 LB (BE:=pvB x (Mj []) (JU ([],[])) Af Af Af Af) ⋯ (As [] [] P.O ⋯ AI) ?_;refine A7 3 LB (BE:=pvB x (Mj []) (JU ([],[])) (mw<|AM 1) Af Af Af) ⋯ (As [] [] P.O ⋯ AI) ?_;refine A7 4 LB (BE:=pvB x (Mj []) (JU ([],[])) (mw<|AM 1) (mw<|AM 2) Af Af) ⋯ (As [] [] P.O ⋯ AI) ?_;refine A7 5 LB (BE:=pvB x (Mj []) (JU ([],[])) (mw<|AM 1) (mw<|AM 2) Af<|mw<|AM 4) ⋯ (As [] [] P.O ⋯ AI) ?_;refine A7 6 LB (BE:=xq x) ⋯ (As [] [] P.O ⋯ AI) ?_;refine Cq (s1:=fQ) (r:=LB.drop 8) (BE:=J6 x (Mj []) (JU ([],[])) Af Af Af Af Af Af Af Af Af Af Af Af) ⋯ ?_ ?_
  ·have h:=fT (n:=n+4) (G:=GL) (pv:=xq x) (k:=1) (st:=fQ) (body:=Cc fQ) (c0:=1138) (q:=qL) (ts:=[AM 4]) P.toRq (by decide) ⋯ ⋯ ⋯ ⋯ (λenv=>by rfl) ⋯ ⋯ ⋯ ⋯ CH (DI.ok ⋯) (Ax B) ⋯ (by decide+kernel) ⋯ ⋯;rw[show D3 (KZ 1) (mw<|EG 1 [AM 4]) (UX (DY 1)<|xq x)=J6 x (Mj []) (JU ([],[])) Af Af Af Af Af Af Af Af Af Af Af Af by kernel_rfl!]at h;exact h
  refine A7 8 LB (BE:=J6 x (Mj []) (JU ([],[])) (NX []) Af Af Af Af Af Af Af Af Af Af Af) ⋯ ?_ ?_
  ·exact gT (n:=n+3) (x:=S "wlst") (cn:=S "WorkList") (ds:=[]) (o':=dM []) (C:=1129) (g:=1105) (as:=[]) (cs:=[]) P ⋯ ⋯ ⋯ ⋯ ⋯ C ⋯ ⋯ ⋯ ⋯ AI<|xN P<|n+2
  refine A7 9 LB (BE:=J6 x (Mj []) (JU<|cM ([],[]) x.c1 1) (NX []) Af Af Af Af Af Af Af Af Af Af Af) ⋯ (As [] [([]:Rows).length<=AY] P.O ⋯ ⟨D1 _,AI⟩) ?_;refine A7 10 LB (BE:=J6 x (Mj []) (JU<|cM ([],[]) x.c1 1) (NX<|MX (-(D4 x.c1),x.c1) []) Af Af Af Af Af Af Af Af Af Af Af) ⋯ ?_ ?_
  ·refine TG ⋯ nofun (Cq (s1:=BA 0<|trB<|BA 10 LB) (r:=[]) ⋯ ?_<|Ea B);exact J5 (x:=S "wlst") (L4:=S "add") (es:=HP<|OE<|BA 0<|trB<|BA 10 LB) (ds:=[FI [AM<|D4 x.c1,AJ x.c1]]) (o:=dM []) (o':=dM<|MX (-(D4 x.c1),x.c1) []) (C:=1129) (g:=1112) (ns:=[xM]) (f:=AQ) (as:=[.t<|AM<|D4 x.c1]) (cs:=[CP T (n+4) (EG 4 []) [AJ x.c1]<|AM<|D4 x.c1,Bf T<|EG 4 []]) P ⋯ B ⋯ ⋯ ⋯ ⋯ ⋯ B C ⋯ ⋯ ⋯ ⋯ ⟨Ug P (n+3) hz3.1,MT P.toRq,AI⟩ (lT P (n+3) [] (D4 x.c1) x.c1<|by exact BM _ _)<|Xv P
  refine Cq (s1:=c2F) (r:=LB.drop 12) ⋯ (JL [] (AV x.KP) [] P.O ⋯ ⋯ ⋯ ⋯ AI N) ?_;refine Cq (s1:=whS) (r:=LB.drop 13) ⋯ (ro P.O ⋯ hw) ?_;exact ht
theorem xu(P:Bw T)(z:T.gp=ID)(n:Aj)(x:Fx)(r:Rows)(h:gq x.fk x.JO x.c1 x.KP=D r):gU T (n+5) 1139 [S "shallows"] [EG 3 [EL x.fk (LV x.JO)],AJ x.c1,AL (AV x.KP),EG 4 []] [BK] (AL (AV r)):=by
 refine Hr (Zu P.toHN (a:=1139) (c:=1138) (st:=A6 65) (q:=S "_find_lcas") (dflt:=AH 1134) (ct:=AN) (Cd:=[]) (fs:= #[]) (BJ (i:=8) ⋯)<|DI.ok B) λdc pm ob y u=>?_;refine Ap (P.Tf 1138 ⟨Ae "code",AQ,BF<|ED 9,#[]⟩<|BJ (i:=9) ⋯) λoc G C=>?_;refine Dx (AHE (v:=(ED 9)[1]?) (q:=S "_find_lcas") ⋯) λtq l=>?_;have g:ZM T 1139 (GX (LP (A6 65) (S "_find_lcas") [] (AH 1134) (AH 1138) AN) dc pm) [] [] [] :=⟨(CB ob y u),λq=>DI.ok (a:=1139) B<|(P.tab _).mp q,⟨1138,oc,_,tq,B,G,OZ C,l⟩,λc e=>by cases e;exactλq=>DI.ok (a:=1138) B<|(P.tab _).mp q,B,B,B,QV,IL,PE,B⟩;refine Dx (xt P z n x r h) λEA hb=>?_;refine gv (cq:=D (AH 1138,qL)) P.O (ps:=psL) (locs:=ADC) (Fe:=[S "cands",S "cstates",S "wlst",S "results"]) (kw:=[S "shallows"]) (ks:=[BK]) (es:=[EG 3 [EL x.fk<|LV x.JO],AJ x.c1,AL<|AV x.KP,EG 4 [],AM 0,BK]) (fl:=JF<|AL<|AV r) (EA:=EA) g (B9 P.toHN) B B (λX s vs us d ta tk=>?_) (by decide+kernel) ⋯ ⋯ (λp hp=>by obtain rfl:=AE hp;exact⟨B,by kernel_rfl!⟩) ?_ B
 ·(refine Bk ta.inv λv1 _ L a1 r1=>?_;subst L)
  ·cases r1 with
   | @cons _ v2 _ _ a2 r1=>cases r1 with
    | @cons _ Q _ _ a3 r1=>cases r1 with
     | @cons _ N _ _ a4 r1=>
      obtain rfl:=r1.inv
      (refine Bk tk.inv λ_ _ e_ b1 r2=>?_;subst e_)
      obtain rfl:=r2.inv;obtain rfl:=b1.inv;exact(CB [v1,v2,Q,N,EF 0 1932,AN] (Xe P d λj=>by kernel_rfl!)<|Cw a1<|Cw a2<|Cw a3<|Cw a4<|Cw (dC 0 1932)<|Cw YU E4)
 ·rw[show EB psL [EG 3 [EL x.fk<|LV x.JO],AJ x.c1,AL<|AV x.KP,EG 4 [],AM 0,BK] ADC++[] =pvB x Af Af Af Af Af Af by kernel_rfl!];exact hb
end
section
open PySem.Builtin
noncomputable def pI(f:Bt)(kn:Bt)(e:A2):Expr:=El (Bu f<|Hc<|KO e) (HP e) [⟨D kn,kwV 0 e,ADA e⟩]<|Ka e
theorem xv(O:Cr T)(hz:U ds<=AY):CP T n (Ah (Ae "list")) [AL ds] (AL ds):=by
 intro A X s f vs Q E a d x tf ta K;obtain rfl:=tf.inv
 (refine Bk ta.inv λ_ _ j t1 r=>?_;subst j)
 obtain rfl:=r.inv
 (refine BU t1.inv λl ws j z N ht=>?_;subst j)
 refine LO (id z) λo y G m C=>?_;refine call_list_seq l (Ax B) y G C (λh' c' u g=>?_)<|by rw[Ab,ht.length];exact hz
 have e:C1 T s.heap h':=C1.of_keeps u;refine K _ {s with heap:=h'} e (d.keeps (s':= {s with heap:=h'}) O u)<|dD ⟨_,g,B,_,B⟩ (λq=>?_)<|ht.up O<|e.up x.tab;rcases x.kind _ q with h|⟨_,o',i,_⟩
 ·refine Ap (d.tab _ h) λv L _=>?_;exact Ay (BS L)<|B7 _
 ·exact Ay (BS i)<|B7 _
theorem lg(O:Cr T)(he:e=pI x kn e)(b1:HP e=es)(ho:AA T.H1 f=D o)(hd:o.data=IB fd)(nt: ¬T.Tab f)
  (hg:O0 G pv x=D (Ah (AH f)))(a8:es≠ [])(ha:Gm (Rl (vE T n 20 G pv) es as)=D (ds,cs))(b2:ER cs)(hk:Gm (vE T n 20 G pv (kwV 0 e) bs)=D (k,cs'))(a6:ER cs')(b3:gU T n f [kn] ds [k] d):Ms T n G pv e d:= λenv K=>by
 rw[he];unfold pI;rw[b1];intro A X ad s Q E R KK;refine wpAny_Call_Name_kw<|HZ O K hg A X ad s _ E R λfv a3 i a5 t₁=>?_;obtain rfl:=t₁.inv;have y:=R.ext O i a5;have b0:=(JJ (Io O K 20).1).only ha b2;have a9:=(Io O K 20).1 _ _ _ _ _ (HM hk) a6;refine callWith_function_kw (o:=o) (fd:=fd) ?_;cases b0 with
 |nil=>exact Ay B a8
 | @cons e0 d0 es b4 h0 hs r=>
  have e1:=Fw (es:=es) (env:=env) hs;refine evalArgs_kw2 B ?_ e1;refine(JR O (Qt h0 hs r) A X ad a3 _ E y λvs a2 h l N=>?_).2;have q:=y.ext O h l;refine kwAll_cons<|a9 A X ad a2 _ E q λu a1 g j L=>kwAll_nil ?_;refine⟨⟨j.ext _ _ nt ho,hd⟩,?_⟩;refine F9<|b3 A X a1 vs [u] _ R.a j (q.x.ext l g) (N.up O<|g.up R.x.tab) (Cw L E4) λv a0 z a4 C=>?_;exact KK v a0 (((i.trans h).trans g).trans z) a4 C
noncomputable def mbB:I Stmt:=Cc<|A6 66
noncomputable def GMb:GV:=⟨(D2<|A6 66).names,HA,[],AQ⟩
noncomputable def pvM(x:Fx)(a b c:PV):BD:=[(S "lookup_parents",mw<|EG 3 [EL x.fk<|LV x.JO]),(S "lookup_stamp",mw<|EG 4 []),(S "shallows",mw BK),(S "commit_ids",mw<|AL<|AV<|x.c1::x.KP),(S "c1",a),(S "c2s",b),(S "lcas",c)]
theorem AEY(P:Bw T)(C:T.gp=ID)(n:Aj)(x:Fx)(r:Rows)(h:gq x.fk x.JO x.c1 x.KP=D r)(h1:x.KP≠ [])(h2:Qf x.KP x.c1=AB)(hz:U x.KP<=100):CP T (n+6) (Ah (AH 1146)) [EG 3 [EL x.fk (LV x.JO)],EG 4 [],BK,AL (AV (x.c1::x.KP))] (AL (AV r)):=by
 refine E0 (CS P.toHN 10 1146 1145 (A6 66) (S "find_merge_base") AN ⋯ ⋯ ⋯ B B) λdc pm F=>?_;refine Hr (Zu P.toHN (a:=1139) (c:=1138) (st:=A6 65) (q:=S "_find_lcas") (dflt:=AH 1134) (ct:=AN) (Cd:=[]) (fs:= #[]) (BJ (i:=8) ⋯)<|DI.ok B) λa0 N ob y j=>?_;have d:(AV<|x.c1::x.KP).length=U x.KP+1:=by rw[CN,Ac]
 have g:=Ak;have G:FP T (n+5) (AL<|AV<|x.c1::x.KP) true:=UH<|DT [_,_,_] [.l A9<|.n 100,.e BQ<|.a A9 DB,.e B5<|.n 16777216] BQ B5 [1,1,-1] B hz d g;have Q:CP T (n+5) (Ah<|AS "len") [AL<|AV<|x.c1::x.KP] (AM ((U x.KP+1:Aj):Aa)):=d▸FR (DT [_,_,_] [.l A9<|.n 100,.e BQ<|.a A9 DB,.e B5<|.n 16777216] BQ B5 [1,1,-1] B hz d g);have z:Bx ((1:Aa)<((U x.KP+1:Aj):Aa))=true:=by
  cases hc:x.KP with
  |nil=>exact Ay hc h1
  |cons _ _=>simp only[Ac,CX];exact Kd.mpr<|show 1<_ from Nat.succ_lt_succ (Ml _)
 have L:Fm T (n+5) (AL<|AV<|x.c1::x.KP) (D 1) AQ (AL<|AV x.KP):=by have:=Gw (T:=T) (n:=n+5) P.O (ds:=AV<|x.c1::x.KP) (l:=D 1) (h:=AQ)<|DT [_,_,_] [.l A9<|.n 100,.e BQ<|.a A9 DB,.e B5<|.n 16777216] BQ B5 [1,1,-1] B hz d g;rwa[show De (D 1) AQ (AV<|x.c1::x.KP)=AV x.KP by unfold De;rw[d];show((AV<|x.c1::x.KP).drop<|MF (U x.KP+1) 1).take (U x.KP+1-MF (U x.KP+1) 1)=_;have:MF (U x.KP+1) 1=1:=(Kg _ 1).trans<|Jl<|Dk<|D1 _;rw[this];show(AV x.KP).take (U x.KP+1-1)=_;exact Hi<|by rw[CN];exact BO _]at this
 have ev:Ms T (n+5) GMb (pvM x (mw<|AJ x.c1) (mw<|AL<|AV x.KP) Af) (Hz<|BA 6 mbB) (AL<|AV r):=
  lg P.O (x:=S "_find_lcas") (kn:=S "shallows") (es:=HP<|Hz<|BA 6 mbB) (ds:=[EG 3 [EL x.fk<|LV x.JO],AJ x.c1,AL<|AV x.KP,EG 4 []]) (k:=BK) (f:=1139) (as:=[]) (bs:=[]) (cs:=[]) (cs':=[]) ⋯ B y j (λq=>DI.ok (a:=1139) B<|(P.tab _).mp q) ⋯ (by rw[show HP (Hz<|BA 6 mbB)=EP 0 (Hz<|BA 6 mbB)::(HP<|Hz<|BA 6 mbB).drop 1 by kernel_rfl!];nofun) ⋯ AI ⋯ AI (xu P C n x r h)
 have g0:CC T (n+5) (AL<|AV<|x.c1::x.KP) (AM 0) (AJ x.c1):=Er (by exact Av _) B<|DT [_,_,_] [.l A9<|.n 100,.e BQ<|.a A9 DB,.e B5<|.n 16777216] BQ B5 [1,1,-1] B hz d g;have ci:Cg T (n+5) Yi (AJ x.c1) (AL<|AV x.KP) false:=h2▸K4 (UT x.c1 x.KP);exact JS (m:=20) (as:=[.b J,.b AB,.t<|AJ x.c1,.t<|AM ((U x.KP+1:Aj):Aa),.b AB,.t<|AL<|AV x.KP,.t<|AL<|AV x.KP,.b AB,.b AB,.t<|AL<|AV r])
  (cs:=[FP T (n+5) (AL<|AV<|x.c1::x.KP) J,(!J)=AB,CC T (n+5) (AL<|AV<|x.c1::x.KP) (AM 0)<|AJ x.c1,CP T (n+5) (Ah<|AS "len") [AL<|AV<|x.c1::x.KP]<|AM ((U x.KP+1:Aj):Aa),Bf T<|Ah<|AS "len",(!Bx ((1:Aa)<((U x.KP+1:Aj):Aa)))=AB,
   Fm T (n+5) (AL<|AV<|x.c1::x.KP) (D 1) AQ (AL<|AV x.KP),CP T (n+5) (Ah<|Ae "list") [AL<|AV x.KP]<|AL<|AV x.KP,Bf T<|Ah<|Ae "list",Cg T (n+5) Yi (AJ x.c1) (AL<|AV x.KP) AB,AB=AB,
   Ms T (n+5) GMb (pvM x (mw<|AJ x.c1) (mw<|AL<|AV x.KP) Af) (Hz<|BA 6 mbB) (AL<|AV r)]) (Fe:=[]) (ps:=[S "lookup_parents",S "lookup_stamp",S "shallows",S "commit_ids"]) (locs:=[S "c1",S "c2s",S "lcas"])
  P.O F (B9 P.toHN) B (W9 λu v w x=>by kernel_rfl!) ⋯ B (by decide+kernel) ⋯ ⋯ ⟨G,B,g0,Q,A3,by rw[z];rfl,L,xv P.O<|by rw[CN];exact AO (by assumption)<|by decide,MB,ci,B,ev,AI⟩
structure Wd where
 rows:Rows
 start:Aa
 changes:I Aa
 fk:Rows
 JO:I Rows
 whole:I Aa
 Aw:Aa
 total:Aa
noncomputable def KD(W:Wd)(i:Aa):Int:=W.whole.getD (Bp i) 0
noncomputable def Xw(W:Wd):DV:=FI [AL<|AV W.rows,AM W.start,AL<|AZ W.changes,EL W.fk<|LV W.JO,AL<|AZ W.whole,AM W.Aw,AM W.total]
noncomputable def Mk(W:Wd)(m:Aa):Int:=Ip W.start W.changes m
noncomputable def HJ(W:Wd)(m:Aa):I UInt8:=Cn W.rows<|Mk W m
noncomputable def cS(W:Wd)(m f:Aa):I BB×Bool:=Kn W.rows (D<|Mk W<|Ag m f) (D<|Mk W m)<|D<|Mk W f
noncomputable def TK(W:Wd)(m f:Aa):I BB×Bool:=match(cS W m f).2 with
 |true=>cS W m f
 |false=>(HJ W<|BG m f,AB)
noncomputable def O9(a:I BB):Int:=122-((a.getD 0 0).toNat:Aa)
noncomputable def Kr(W:Wd)(k:Aa)(bs:I Aa):I Int:=bs.filter λj=>Ag ((KD W j).fdiv<|2^Bp k) 1==1
noncomputable def SE(W:Wd)(i:Aa):Bool:=Bx (0<=i)&&Bx (i<U W.whole)
noncomputable def G1(W:Wd):I Aa->Aa
 |[] =>0
 |[i] =>KD W i
 |i::j::r=>PQ W (KD W i) (j::r)
where PQ (W:Wd):Aa->I Aa->Aa
 |m,[] =>m
 |m,i::r=>PQ W (BG m (KD W i)) r
noncomputable def FBd:I Stmt:=Cc<|A6 81
noncomputable def fB:I Stmt:=DR Sv
noncomputable def qF:Str:=S "_law_fold" ++ ".<locals>."
noncomputable def GF:GV:=⟨(D2<|A6 81).names,HA,[],D (AH 1271,qF)⟩
noncomputable def fkM:Str:=Wf<|S "folk"
noncomputable def pvF(mk:BD)(W:Wd)(q:I Aa)(l text a d h e g i rl j HX Mb N3 QR:PV):BD:=
 mk++[(S "tale",mw<|Xw W),(S "ids",mw<|AL<|AZ q),(S "rows",mw<|AL<|AV W.rows),(S "start",mw<|AM W.start),(S "changes",mw<|AL<|AZ W.changes),(S "whole",mw<|AL<|AZ W.whole),(S "manner",mw<|AM W.Aw),(S "total",mw<|AM W.total),
  (S "met",l),(S "text",text),(S "place",a),(S "fresh",d),(S "asked",h),(S "found",e),(S "bases",g),(S "base",i),(S "both",rl),(S "one",j),(S "two",HX),(S "blobs",Mb),(S "told",N3),(S "due",QR),(S "folk",mw<|EL W.fk<|LV W.JO)]
noncomputable def xw:BD:=[(fkM,Af)]
noncomputable def AEa(e:A2):Expr:=if h:e.ctorIdx=15 then Lp (motive_1:= λ_=>A2) e h λl _ _ _=>l else e
noncomputable def Xx:Expr:=Hz<|BA 1 fB
noncomputable def Xy:Expr:=Hz<|BA 3 fB
noncomputable def RI:Expr:=AEa<|zb<|BA 4 fB
noncomputable def Uh:Expr:=AEa<|(FT RI).headD XC
noncomputable def Ui:Expr:=Hz<|BA 6 fB
noncomputable def cT:Expr:=Hz<|BA 8 fB
theorem lh(P:Bw T)(n:Aj)(pv:BD):∀l,(∀i∈l,0<=i/\i<=122)->EO T (n+1) (EY GF (Bd Xx)) (DA GF pv (Bd Xx).names) (PY Xx) (FT Xx) (FY Xx) (AZ l) (AV (l.map EZ)):=by
 intro l;induction l with
 |nil=>
  exactλ_=>Mi
 |cons i l a=>
  exactλh=>HL (tv:=[(S "k",mw<|AM i)]) ⋯ (E5 ⋯) (EC [.t<|AJ<|EZ i] [CP T (n+1) (Ah<|AH 1248) [AM i]<|AJ<|EZ i,Bf T<|Ah<|AH 1248] P.O ⋯ ⟨XA P.toHN n i (h i<|B0 _).1 (h i<|B0 _).2,B6 P.toHN 24 1248 1247 (A6 77) (S "_law_name") AN ⋯ ⋯ ⋯ B B,AI⟩)<|a λj d=>h j<|Cb _ d
theorem lj(P:Bw T)(n:Aj)(pv:BD):∀l,(∀b∈l,0<U b/\U b<=1000)->EO T (n+1) (EY GF (Bd Xy)) (DA GF pv (Bd Xy).names) (PY Xy) (FT Xy) (FY Xy) (AV l) (AZ (l.map O9)):=by
 intro l;induction l with
 |nil=>
  exactλ_=>Mi
 |cons b l a=>
  exactλh=>HL (tv:=[(S "name",mw<|AJ b)]) ⋯ (E5 ⋯) (EC [.t<|AM ((b.getD 0 0).toNat:Aa)] [CC T (n+1) (AJ b) (AM 0)<|AM ((b.getD 0 0).toNat:Aa)] P.O ⋯ ⟨W0 (by exact Av _) (by have:=(h b<|B0 _).1;exact Iz.mpr<|by assumption)<|by have:=(h b<|B0 _).2;rw[Ak];exact AO (by assumption)<|by decide,AI⟩)<|a λj d=>h j<|Cb _ d
theorem lq(P:Bw T)(n:Aj)(W:Wd)(k:Aa)(bs:I Aa)(u:0<=k)(x:U W.whole<=1000):∀l,(∀i∈l,SE W i=J)->
  EO T (n+1) (EY (EY GF (Bd RI)) (Bd Uh)) [(S "k",mw (AM k)),(S "whole",mw (AL (AZ W.whole)))] (PY Uh) (FT Uh) (FY Uh) (AZ l) (AZ (Kr W k l)):=by
 intro l;induction l with
 |nil=>
  exactλ_=>Mi
 |cons j l d=>
  exactλh=>by
   have q:=d λi v=>h i<|Cb _ v;have hj:=h j<|B0 _;unfold SE at hj;rw[A4,CX,CX]at hj;have g:CC T (n+1) (AL<|AZ W.whole) (AM j) (AM<|KD W j):=Er hj.1 (by unfold AZ KD;have:=UA hj;rw[Bv,AR this,Al,AR this];rfl)<|by unfold AZ;rw[Ai,Ak];exact AO (by assumption)<|by decide
   have r:=CI u;skip;cases a:Ag ((KD W j).fdiv<|2^Bp k) 1==1 with
   |true=>
    have e:Kr W k (j::l)=j::Kr W k l:=by unfold Kr;rw[Bb,a];rfl
    rw[e];exact HL (tv:=[(S "j",mw<|AM j)]) ⋯ (GO [.t<|AM<|KD W j] (Ag ((KD W j).fdiv<|2^Bp k) 1==1) [CC T (n+1) (AL<|AZ W.whole) (AM j)<|AM<|KD W j,KL k=J] P.O ⋯ a ⋯ ⟨g,r,AI⟩) (EC [] [] P.O ⋯ AI) q
   |false=>
    have e:Kr W k (j::l)=Kr W k l:=by unfold Kr;rw[Bb,a];rfl
    rw[e];exact ay (tv:=[(S "j",mw<|AM j)]) ⋯ (GO [.t<|AM<|KD W j] (Ag ((KD W j).fdiv<|2^Bp k) 1==1) [CC T (n+1) (AL<|AZ W.whole) (AM j)<|AM<|KD W j,KL k=J] P.O ⋯ a ⋯ ⟨g,r,AI⟩) q
theorem sA(P:Bw T)(n:Aj)(W:Wd)(bs:I Aa)(r:U W.whole<=1000)(u:∀i∈bs,SE W i=J)(hz:U bs<=1000)(pv:BD)(C:CY (S "bases") pv=D (mw (AL (AZ bs))))(z:CY (S "whole") pv=D (mw (AL (AZ W.whole)))):∀l,(∀i∈l,SE W i=J)->(∀k∈l,Kr W k bs=[k])->
  EO T (n+1) (EY GF (Bd RI)) [(S "bases",mw (AL (AZ bs))),(S "whole",mw (AL (AZ W.whole)))] (PY RI) (FT RI) (FY RI) (AZ l) [] :=by
 intro l;induction l with
 |nil=>
  exactλ_ _=>Mi
 |cons k l a=>
  exactλh hp=>by
   have q:=a (λi d=>h i<|Cb _ d) λi d=>hp i<|Cb _ d;have hk:=h k<|B0 _;unfold SE at hk;rw[A4,CX,CX]at hk;have y:=Ak;have j:∀x,(AZ x).length=U x:= λx=>Ai ..;have v:Ms T (n+1) (EY GF<|Bd RI) ([(S "k",mw<|AM k)] ++[(S "bases",mw<|AL<|AZ bs),(S "whole",mw<|AL<|AZ W.whole)]) Uh (AL [AM k]):=by have e:=lq P n W k bs hk.1 r bs u;rw[hp k<|B0 _]at e;exact K7 P.O<|D7 [] (AZ bs) [] P.O ⋯ ⋯ ⋯ ⋯ AI (by rw[j];exact AO (by assumption)<|by decide) e
   have g:Cg T (n+1) H8 (AL [AM k]) (AL [AM k]) (!J):=Nh (by skip;show D ((k==k)&&J)=D J;rw[Cz];rfl)
   exact ay (tv:=[(S "k",mw<|AM k)]) ⋯ (GO [.t<|AL [AM k],.b AB] AB [Ms T (n+1) (EY GF<|Bd RI) ([(S "k",mw<|AM k)] ++[(S "bases",mw<|AL<|AZ bs),(S "whole",mw<|AL<|AZ W.whole)]) Uh<|AL [AM k],Cg T (n+1) H8 (AL [AM k]) (AL [AM k]) AB] P.O ⋯ B ⋯ ⟨v,g,AI⟩) q
theorem lu(P:Bw T)(n:Aj)(W:Wd)(d:U W.changes<=1000):∀l,EO T (n+1) (EY GF (Bd Ui)) [(S "changes",mw (AL (AZ W.changes))),(S "start",mw (AM W.start))] (PY Ui) (FT Ui) (FY Ui) (AZ l) (AZ (l.map (Mk W))):=by
 intro l;induction l with
 |nil=>
  exact Mi
 |cons i l a=>
  exact HL (tv:=[(S "within",mw<|AM i)]) ⋯ (E5 ⋯) (EC [.t<|AM<|Mk W i] [CP T (n+1) (Ah<|AH 1222) [AM W.start,AL<|AZ W.changes,AM i]<|AM<|Mk W i,Bf T<|Ah<|AH 1222] P.O ⋯ ⟨Qe P.toHN n W.start i W.changes<|by rw[Ak];exact AO (by assumption)<|by decide,B6 P.toHN 16 1222 1221 (A6 73) (S "_law_state") AN ⋯ ⋯ ⋯ B B,AI⟩) a
theorem lx(P:Bw T)(n:Aj)(W:Wd):∀l,(∀b∈l,U b<=AY)->EO T (n+4) (EY GF (Bd cT)) [(S "total",mw (AM W.total))] (PY cT) (FT cT) (FY cT) (AV l) (l.map λb=>BR (CJ b W.total)):=by
 intro l;induction l with
 |nil=>
  exactλ_=>Mi
 |cons b l a=>
  exactλh=>HL (tv:=[(S "part",mw<|AJ b)]) ⋯ (E5 ⋯) (EC [.t<|BR<|CJ b W.total] [CP T (n+4) (Ah<|AH 1241) [AJ b,AM W.total]<|BR<|CJ b W.total,Bf T<|Ah<|AH 1241] P.O ⋯ ⟨M5 P n b W.total<|h b<|B0 _,B6 P.toHN 22 1241 1240 (A6 76) (S "_law_blob") AN ⋯ ⋯ ⋯ B B,AI⟩)<|a λj d=>h j<|Cb _ d
structure WOk(W:Wd):Prop where
 rows:U W.rows<=90
 row:∀r∈W.rows,U r<=100
 flat:U W.rows.flatten<=100000
 chg:U W.changes<=100
 whole:U W.whole<=100
theorem ABt(O:Cr T)(h:Ge T k G (iu x pv) ss fl EA):Ge T k G pv ss fl EA:= λenv K=>Wl O<|h env K
theorem Cy(l:I Aa):(AZ l).length=U l:=Ai ..
theorem Nx{i:Aj}(h:l[i]? =D v)(hz:U l<=1000):CC T n (AL (AZ l)) (AM (i:Aa)) (AM v):=Er (by exact Av _) (by show(AZ l)[((i:Aj):Aa).toNat]? =_;rw[Fj];unfold AZ;rw[Bv,h];rfl)<|by rw[Cy,Ak];exact AO (by assumption)<|by decide
theorem Uj(ok:WOk W)(h:SE W i=J):CC T n (AL (AZ W.whole)) (AM i) (AM (KD W i)):=by unfold SE at h;rw[A4,CX,CX]at h;have a:=ok.whole;exact Er h.1 (by unfold AZ KD;have:=UA h;rw[Bv,AR this,Al,AR this];rfl)<|by unfold AZ;rw[Ai,Ak];exact AO (by assumption)<|by decide
theorem ABu:De AQ (D (U pre:Aa)) (AZ (pre++c::rest))=AZ pre:=by
 unfold De;show((AZ<|pre++c::rest).drop 0).take (MF (AZ<|pre++c::rest).length (U pre:Aa)-0)=_;rw[Cy,Q5,jO];have:MF (pre++c::rest).length (U pre:Aa)=U pre:=by rw[Kg,Ad];exact Jl<|Ci ..
 rw[this];unfold AZ;rw[Cv,List.take_left'<|by rw[Ai]]
theorem AEb(ok:WOk W)(m:Aa):(HJ W m).length<=100000:=AO (Nq _ W.rows 0) ok.flat
theorem ly(P:Bw T)(L:T.gp=ID)(n:Aj)(W:Wd)(i:I Aa)(g:Aa)(pre:I Aa)(r:Rows)(C u v N fo ba bs bo z j bl l du:PV)(h:gq W.fk W.JO (EZ g) (pre.map EZ)=D r)(h1:pre≠ [])(h2:Qf (pre.map EZ) (EZ g)=AB)(h3:U pre<=100):
  Fn T (n+6) GF (pvF xw W i C u v N (mw (AL (AV ((g::pre).map EZ)))) fo bs ba bo z j bl l du) (BA 2 fB) Aq (pvF xw W i C u v N (mw (AL (AV ((g::pre).map EZ)))) (mw (AL (AV r))) bs ba bo z j bl l du):= λenv K=>by
 intro A X Z ad s Q E a KQ KE;have C3:=Qg P.toHN 33 1271 1269 ⋯ ⋯ ⋯ ⋯ ⋯ ⋯ ⋯ ⋯;have C4:=C3
 let pv:=pvF xw W i C u v N (mw<|AL<|AV<|(g::pre).map EZ) fo bs ba bo z j bl l du
 have l3:EvX T (n+6) env pv (DY 3) (EP 0 Gg) (EG 3 [EL W.fk<|LV W.JO]):=XM P.toRq K (k:=3) (e:=EP 0 Gg) (body:=Rp<|ZI 3) (c0:=1271) (q:=qF) (ts:=[EL W.fk<|LV W.JO]) (by decide) ⋯ ⋯ (λenv=>by rfl) ⋯ ⋯ (BC a.wr.apart) B C3 (DI.ok ⋯) (BC<|BC B) ⋯ (by decide+kernel) ⋯ ⋯;have l4:EvX T (n+6) env pv (DY 4) (EP 1 Gg) (EG 4 []):=XM P.toRq K (k:=4) (e:=EP 1 Gg) (body:=Rp<|ZI 4) (c0:=1271) (q:=qF) (ts:=[]) (by decide) ⋯ ⋯ (λenv=>by rfl) ⋯ ⋯ (Ax ⋯) B C4 (DI.ok ⋯) (BC<|BC B) ⋯ (by decide+kernel) ⋯ ⋯;have G:EvX T (n+6) env pv (DY 3) (EP 1 Gg) (EG 4 []):= λA X ad s Q E a1 R KK=>l4 A X ad s Q E (λy hy=>by rw[show DY 4=[] by kernel_rfl!]at hy;cases hy) R KK;have e2:Ev T (n+6) env pv (EP 2 Gg) BK:=(Io P.O K 20).1 _ [] BK [] [] ⋯ AI;have e3:Ev T (n+6) env pv (EP 3 Gg) (AL<|AV<|(g::pre).map EZ):=(Io P.O K 20).1 _ [] _ [] [] ⋯ AI;have hf:Ev T (n+6) env pv (Bu (S "find_merge_base")<|Hc<|KO Gg) (Ah<|AH 1146):=HZ P.O K ⋯;have hs:BA 2 fB=Fg [Bu (S "found")<|Hc<|O7<|BA 2 fB] (El (Bu (S "find_merge_base")<|Hc<|KO Gg) [EP 0 Gg,EP 1 Gg,EP 2 Gg,EP 3 Gg] []<|Ka Gg) (Rv<|BA 2 fB):=by kernel_rfl!
 rw[hs];have kb:=B6 P.toHN 10 1146 1145 (A6 66) (S "find_merge_base") AN ⋯ ⋯ ⋯ B B;have ev:EvX T (n+6) env pv (DY 3) (El (Bu (S "find_merge_base")<|Hc<|KO Gg) [EP 0 Gg,EP 1 Gg,EP 2 Gg,EP 3 Gg] []<|Ka Gg) (AL<|AV r):=
  wA P.O hf (zV l3 ⋯<|zV G ⋯<|zV e2.toX ⋯<|zV e3.toX ⋯ .nil) (AEY P L n ⟨W.fk,W.JO,EZ g,pre.map EZ⟩ r h (λq=>h1<|SA.mp q) h2<|by rw[Ai];exact h3) kb
 have a0:UX (DY 3) pv=pv:=by kernel_rfl!
 refine XJ (ys:=DY 3) (d:=AL<|AV r) P.O K.kind (by rw[a0];exact ev) ⟨K.stores (x:=S "found") ⋯,Nf ⋯⟩ ⟨B,by kernel_rfl!⟩ B A X Z ad s Q E a KQ KE
def MOk(T:Th)(W:Wd):Prop:= ∀n m f,CP T (n+5) (Ah<|AH 1034) [BR<|CJ (HJ W<|Ag m f) W.total,BR<|CJ (HJ W m) W.total,BR<|CJ (HJ W f) W.total,EG 0 [BK,AM W.Aw]]<|Bi<|TK W m f
structure xy(W:Wd)(m:Aa)(pre:I Aa)(cur:Aa)(r:Rows):Prop where
 lca:gq W.fk W.JO (EZ cur) (pre.map EZ)=D r
 ne:pre≠ []
 off:Qf (pre.map EZ) (EZ cur)=AB
 len:U pre<=100
 ids:∀i∈cur::pre,SE W i=J
 one:∀b∈r,0<U b/\U b<=1000
 mq:U r<=2
 inw:∀i∈r.map O9,SE W i=J
 AJf:∀k∈r.map O9,Kr W k (r.map O9)=[k]
structure FV where
 fr:PV
 ask:PV
 fo:PV
 bs:PV
 ba:PV
 bo:PV
 on:PV
 tw:PV
 bl:PV
 to:PV
 du:PV
noncomputable def pvX(W:Wd)(a:I Aa)(g d e:PV)(x:FV):BD:=pvF xw W a g d e x.fr x.ask x.fo x.bs x.ba x.bo x.on x.tw x.bl x.to x.du
theorem sC(P:Bw T)(b9:T.gp=ID)(n:Aj)(W:Wd)(ok:WOk W)(hM:MOk T W)(pre rest:I Aa)(g m:Aa)(r:Rows)(t:xy W m pre g r)(hz:(pre++g::rest).length<=1000)
  (ih:CP T (n+6) (Ah (AH 1272)) [Xw W,AL (AZ (r.map O9))] (AJ (HJ W (Ag m (KD W g)))))(x:FV):
  ∃x',Ge T (n+6) GF (pvX W (pre++g::rest) (mw (AM m)) (mw (AJ (HJ W m))) (mw (AM (U pre:Aa))) x) fB Aq (pvX W (pre++g::rest) (mw (AM (BG m (KD W g)))) (mw (AJ (HJ W (BG m (KD W g))))) (mw (AM (U pre:Aa))) x'):=by
 obtain⟨fr,as,fo,bs,ba,N,L,G,y,v,u⟩:=x;have sz:=Ak;have a4:=t.ids g<|B0 _;have hI:∀i∈g::pre,0<=i/\i<=122:= λi hi=>by have h:=t.ids i hi;unfold SE at h;rw[A4,CX,CX]at h;have:=ok.whole;exact nQ 122 h<|AO this<|by decide
 let z:=pre++g::rest
 let f:=KD W g
 let b:=Ag m f
 let V:PV->PV->PV->PV->PV->PV->PV->PV->PV->PV->PV->PV->PV->BD:= λme te fr as fo bs ba N L G y v u=>pvF xw W z me te (mw<|AM (U pre:Aa)) fr as fo bs ba N L G y v u
 have gi:CC T (n+6) (AL<|AZ z) (AM (U pre:Aa)) (AM g):=Nx (by rw[List.getElem?_append_right<|BO _,AF4];rfl) hz;have gw:=Uj (T:=T) (n:=n+6) ok a4;have b4:=B6 P.toHN 16 1222 1221 (A6 73) (S "_law_state") AN ⋯ ⋯ ⋯ B B;have a2:=B6 P.toHN 18 1227 1226 (A6 74) (S "_law_text") AN ⋯ ⋯ ⋯ B B;have b6:=B6 P.toHN 32 1272 1271 (A6 81) (S "_law_fold") AN ⋯ ⋯ ⋯ B B;have b7:=B6 P.toHN 30 1267 1266 (A6 80) (S "_law_due") AN ⋯ ⋯ ⋯ B B;have b8:=B6 P.toHN 28 1262 1261 (A6 79) (S "_law_differ") AN ⋯ ⋯ ⋯ B B;have b5:=B6 P.toHN 6 1034 1033 (A6 60) (S "merge_blobs") AN ⋯ ⋯ ⋯ B B;have c2:=ok.flat;have c3:=ok.chg;have a1:∀x,CP T (n+6) (Ah<|AH 1227) [AL<|AV W.rows,AM x] (AJ<|Cn W.rows x):= λx=>QA P.toHN (n+5) W.rows x (by have:=ok.rows;exact AO (by assumption)<|by decide)<|by exact AO (by assumption)<|by decide
 have a5:∀x,CP T (n+6) (Ah<|AH 1222) [AM W.start,AL<|AZ W.changes,AM x] (AM<|Mk W x):= λx=>Qe P.toHN (n+5) W.start x W.changes<|by exact AO (by assumption)<|by decide
 have s0:Fn T (n+6) GF (V (mw<|AM m) (mw<|AJ<|HJ W m) fr as fo bs ba N L G y v u) (BA 0 fB) Aq (V (mw<|AM m) (mw<|AJ<|HJ W m) (mw<|AM f) as fo bs ba N L G y v u):=
  As [.t<|AM g,.t<|AM f] [CC T (n+6) (AL<|AZ z) (AM (U pre:Aa))<|AM g,CC T (n+6) (AL<|AZ W.whole) (AM g)<|AM f] P.O ⋯ ⟨gi,gw,AI⟩
 let j:PV:=mw<|AL<|AV<|(g::pre).map EZ
 have a6:Fm T (n+6) (AL<|AZ z) AQ (D (U pre:Aa)) (AL<|AZ pre):=by
  have:=Gw (T:=T) (n:=n+6) P.O (ds:=AZ z) (l:=AQ) (h:=D (U pre:Aa))<|by rw[Cy];exact AO (by assumption)<|by decide
  rwa[show De AQ (D (U pre:Aa)) (AZ z)=AZ pre from ABu]at this
 have b2:SU T (n+6) iY (AL [AM g]) (AL<|AZ pre) (AL<|AZ<|g::pre):=by
  have:=JZ (T:=T) (n:=n+6) P.O (as:=[AM g]) (bs:=AZ pre)<|by rw[Cy];have:=t.len;exact DT [_,_] [.e A9<|.n 16777216,.l BQ<|.n 100] (.a DB BQ) A9 [-1,1] B sz this
  exact this
 have s1:Fn T (n+6) GF (V (mw<|AM m) (mw<|AJ<|HJ W m) (mw<|AM f) as fo bs ba N L G y v u) (BA 1 fB) Aq (V (mw<|AM m) (mw<|AJ<|HJ W m) (mw<|AM f) j fo bs ba N L G y v u):=
  GJ P.O (vs:=AV<|(g::pre).map EZ) ⋯ ⋯ (D7 [.t<|AM g,.t<|AL<|AZ pre,.t<|AL<|AZ<|g::pre] (AZ<|g::pre) [CC T (n+6) (AL<|AZ z) (AM (U pre:Aa))<|AM g,Fm T (n+6) (AL<|AZ z) AQ (D (U pre:Aa))<|AL<|AZ pre,SU T (n+6) iY (AL [AM g]) (AL<|AZ pre)<|AL<|AZ<|g::pre] P.O ⋯ ⋯ ⋯ ⋯ ⟨gi,a6,b2,AI⟩ (by rw[Cy,Ac];have:=t.len;exact Bj (by assumption)<|by decide)<|lh P (n+5) _ (g::pre) hI) ⋯
 have s2:Fn T (n+6) GF (V (mw<|AM m) (mw<|AJ<|HJ W m) (mw<|AM f) j fo bs ba N L G y v u) (BA 2 fB) Aq (V (mw<|AM m) (mw<|AJ<|HJ W m) (mw<|AM f) j (mw<|AL<|AV r) bs ba N L G y v u):=
  ly P b9 n W z g pre r _ _ _ _ _ _ _ _ _ _ _ _ _ t.lca t.ne t.off t.len
 let Bs:=r.map O9
 have c4:U Bs<=2:=by rw[Ai];exact t.mq
 have s3:Fn T (n+6) GF (V (mw<|AM m) (mw<|AJ<|HJ W m) (mw<|AM f) j (mw<|AL<|AV r) bs ba N L G y v u) (BA 3 fB) Aq (V (mw<|AM m) (mw<|AJ<|HJ W m) (mw<|AM f) j (mw<|AL<|AV r) (mw<|AL<|AZ Bs) ba N L G y v u):=
  GJ P.O (vs:=AZ Bs) ⋯ ⋯ (D7 [] (AV r) [] P.O ⋯ ⋯ ⋯ ⋯ AI (by rw[CN];have:=t.mq;exact AO (by assumption)<|by decide)<|lj P (n+5) _ r t.one) ⋯
 let pv4:=V (mw<|AM m) (mw<|AJ<|HJ W m) (mw<|AM f) j (mw<|AL<|AV r) (mw<|AL<|AZ Bs) ba N L G y v u
 have c1:Ms T (n+6) GF (lend pv4) RI (AL []):=K7 P.O<|D7 [] (AZ Bs) [] P.O ⋯ ⋯ ⋯ ⋯ AI (by rw[Cy];exact AO (by assumption)<|by decide)<|sA P (n+5) W Bs (by have:=ok.whole;exact AO (by assumption)<|by decide) t.inw (by exact AO (by assumption)<|by decide) pv4 ⋯ ⋯ Bs t.inw t.AJf;have b3:Cg T (n+6) H8 (AL []) (AL []) (!J):=Nh B;have s4:Fn T (n+6) GF pv4 (BA 4 fB) Aq pv4:=
  As [.t<|AL [],.b AB,.b AB] [Ms T (n+6) GF (lend pv4) RI<|AL [],Cg T (n+6) H8 (AL []) (AL []) AB,AB=AB] P.O ⋯ ⟨c1,b3,B,AI⟩
 let bv:PV:=mw<|AJ<|HJ W b
 have s5:Fn T (n+6) GF pv4 (BA 5 fB) Aq (V (mw<|AM m) (mw<|AJ<|HJ W m) (mw<|AM f) j (mw<|AL<|AV r) (mw<|AL<|AZ Bs) bv N L G y v u):=
  As [.t<|AJ<|HJ W b] [CP T (n+6) (Ah<|AH 1272) [Xw W,AL<|AZ Bs]<|AJ<|HJ W b,Bf T<|Ah<|AH 1272] P.O ⋯ ⟨ih,b6,AI⟩
 let i6 (x:Aa):PV:=mw<|AM<|Mk W x
 have c0:Ms T (n+6) GF (V (mw<|AM m) (mw<|AJ<|HJ W m) (mw<|AM f) j (mw<|AL<|AV r) (mw<|AL<|AZ Bs) bv N L G y v u) Ui (AL<|AZ<|[b,m,f].map<|Mk W):=
  K7 P.O (D7 [] (AZ [b,m,f]) [] P.O ⋯ ⋯ ⋯ ⋯ AI (by rw[Cy,Ak];simp)<|lu P (n+5) W (by exact AO (by assumption)<|by decide) [b,m,f])
 have s6:Fn T (n+6) GF (V (mw<|AM m) (mw<|AJ<|HJ W m) (mw<|AM f) j (mw<|AL<|AV r) (mw<|AL<|AZ Bs) bv N L G y v u) (BA 6 fB) Aq (V (mw<|AM m) (mw<|AJ<|HJ W m) (mw<|AM f) j (mw<|AL<|AV r) (mw<|AL<|AZ Bs) bv (i6 b) (i6 m) (i6 f) y v u):=
  As [.t<|AL<|AZ<|[b,m,f].map<|Mk W] [Ms T (n+6) GF (V (mw<|AM m) (mw<|AJ<|HJ W m) (mw<|AM f) j (mw<|AL<|AV r) (mw<|AL<|AZ Bs) bv N L G y v u) Ui<|AL<|AZ<|[b,m,f].map<|Mk W] P.O ⋯ ⟨c0,AI⟩
 let Q:PV->PV->PV->PV->PV->BD:= λme te y v u=>V me te (mw<|AM f) j (mw<|AL<|AV r) (mw<|AL<|AZ Bs) bv (i6 b) (i6 m) (i6 f) y v u
 have s7:Fn T (n+6) GF (Q (mw<|AM m) (mw<|AJ<|HJ W m) y v u) (BA 7 fB) Aq (Q (mw<|AM m) (mw<|AJ<|HJ W m) y v u):=
  As [.b AB,.t<|AJ<|HJ W b,.b AB] [CP T (n+6) (Ah<|AH 1227) [AL<|AV W.rows,AM<|Mk W b]<|AJ<|HJ W b,Bf T<|Ah<|AH 1227,AB=AB,(!(HJ W b==HJ W b))=AB] P.O ⋯ ⟨a1 _,a2,B,by simp,AI⟩
 let q:I DV:=[HJ W b,HJ W m,HJ W f].map λb=>BR<|CJ b W.total
 have s8:Fn T (n+6) GF (Q (mw<|AM m) (mw<|AJ<|HJ W m) y v u) (BA 8 fB) Aq (Q (mw<|AM m) (mw<|AJ<|HJ W m) (mw<|AL q) v u):=
  GJ P.O (vs:=q) ⋯ ⋯ (D7 [.t<|AJ<|HJ W f] (AV [HJ W b,HJ W m,HJ W f]) [CP T (n+6) (Ah<|AH 1227) [AL<|AV W.rows,AM<|Mk W f]<|AJ<|HJ W f,Bf T<|Ah<|AH 1227] P.O ⋯ ⋯ ⋯ ⋯ ⟨a1 _,a2,AI⟩ (by rw[CN,Ak];simp) (lx P (n+2) W _ (λx hx=>by simp only[CV,Au,JQ]at hx;rcases hx with rfl|rfl|rfl<;>exact AO (AEb ok _)<|by exact BM _ _))) ⋯
 have gb:∀(i:Aj) d,q[i]? =D d->CC T (n+6) (AL q) (AM (i:Aa)) d:= λi d h=>Er (by exact Av _) (by rw[Fj];exact h)<|by rw[Ak];exact BM _ _
 let tld:=TK W m f
 have s9:Fn T (n+6) GF (Q (mw<|AM m) (mw<|AJ<|HJ W m) (mw<|AL q) v u) (BA 9 fB) Aq (Q (mw<|AM m) (mw<|AJ<|HJ W m) (mw<|AL q) (mw<|Bi tld) u):=
  As [.t<|BR<|CJ (HJ W b) W.total,.t<|BR<|CJ (HJ W m) W.total,.t<|BR<|CJ (HJ W f) W.total,.t<|EG 0 [BK,AM W.Aw],.t<|Bi tld] [CC T (n+6) (AL q) (AM 0)<|BR<|CJ (HJ W b) W.total,CC T (n+6) (AL q) (AM 1)<|BR<|CJ (HJ W m) W.total,CC T (n+6) (AL q) (AM 2)<|BR<|CJ (HJ W f) W.total,CP T (n+6) (Ah<|AH 1262) [AM W.Aw,BK]<|EG 0 [BK,AM W.Aw],Bf T<|Ah<|AH 1262,
    CP T (n+6) (Ah<|AH 1034) [BR<|CJ (HJ W b) W.total,BR<|CJ (HJ W m) W.total,BR<|CJ (HJ W f) W.total,EG 0 [BK,AM W.Aw]] (Bi tld),Bf T<|Ah<|AH 1034] P.O ⋯ ⟨gb 0 _ B,gb 1 _ B,gb 2 _ B,MU P.toRq (n+5) W.Aw BK,b8,hM (n+1) m f,b5,AI⟩
 let QR:=cS W m f
 have b1:Fn T (n+6) GF (Q (mw<|AM m) (mw<|AJ<|HJ W m) (mw<|AL q) (mw<|Bi tld) u) (BA 10 fB) Aq (Q (mw<|AM m) (mw<|AJ<|HJ W m) (mw<|AL q) (mw<|Bi tld)<|mw<|Bi QR):=
  As [.t<|Bi QR] [CP T (n+6) (Ah<|AH 1267) [AL<|AV W.rows,AM<|Mk W b,AM<|Mk W m,AM<|Mk W f]<|Bi QR,Bf T<|Ah<|AH 1267] P.O ⋯ ⟨cF P.toHN (n+4) W.rows (D<|Mk W b) (D<|Mk W m) (D<|Mk W f) ok.rows ok.row<|by exact AO (by assumption)<|by decide,b7,AI⟩
 let C:=BG m f
 have b0:Fn T (n+6) GF (Q (mw<|AM m) (mw<|AJ<|HJ W m) (mw<|AL q) (mw<|Bi tld)<|mw<|Bi QR) (BA 11 fB) Aq (Q (mw<|AM C) (mw<|AJ<|HJ W m) (mw<|AL q) (mw<|Bi tld)<|mw<|Bi QR):=
  As [] [] P.O ⋯ AI
 have a9:Fn T (n+6) GF (Q (mw<|AM C) (mw<|AJ<|HJ W m) (mw<|AL q) (mw<|Bi tld)<|mw<|Bi QR) (BA 12 fB) Aq (Q (mw<|AM C) (mw<|AJ<|HJ W C) (mw<|AL q) (mw<|Bi tld)<|mw<|Bi QR):=
  As [.t<|AM<|Mk W C,.t<|AJ<|HJ W C] [CP T (n+6) (Ah<|AH 1222) [AM W.start,AL<|AZ W.changes,AM C]<|AM<|Mk W C,Bf T<|Ah<|AH 1222,CP T (n+6) (Ah<|AH 1227) [AL<|AV W.rows,AM<|Mk W C]<|AJ<|HJ W C,Bf T<|Ah<|AH 1227] P.O ⋯ ⟨a5 _,b4,a1 _,a2,AI⟩
 have a8:Fn T (n+6) GF (Q (mw<|AM C) (mw<|AJ<|HJ W C) (mw<|AL q) (mw<|Bi tld)<|mw<|Bi QR) (BA 13 fB) Aq (Q (mw<|AM C) (mw<|AJ<|HJ W C) (mw<|AL q) (mw<|Bi tld)<|mw<|Bi QR):=by
  have g1:CC T (n+6) (Bi QR) (AM 1) (BZ QR.2):=GP 1 B<|by simp
  have g2:CC T (n+6) (Bi tld) (AM 1) (BZ tld.2):=GP 1 B<|by simp
  have a0:∀x,Cg T (n+6) H8 (Bi x) (Bi x) (!J):= λx=>Nh (by skip;show D ((x.1==x.1&&(x.2==x.2&&J))&&J)=D J;rw[Cz,Cz];rfl)
  have a3:CP T (n+6) (Ah<|AS "isinstance") [BZ tld.2,Ah<|Ae "bool"] (BZ J):=kY;cases hd:QR.2 with
  |true=>
   have e:tld=QR:=by show TK W m f=cS W m f;unfold TK;rw[show(cS W m f).2=J from hd]
   have sm:Cg T (n+6) H8 (Bi tld) (Bi QR) false:=e▸a0 QR;rw[hd]at g1;exact As [.t<|BZ J,.b J,.b AB,.b AB,.t<|BZ tld.2,.t<|BZ J,.b AB] [CC T (n+6) (Bi QR) (AM 1)<|BZ J,J=J,Cg T (n+6) H8 (Bi tld) (Bi QR) AB,CC T (n+6) (Bi tld) (AM 1)<|BZ tld.2,CP T (n+6) (Ah<|AS "isinstance") [BZ tld.2,Ah<|Ae "bool"]<|BZ J,Bf T<|Ah<|AS "isinstance",AB=AB,(!J)=AB] P.O ⋯ ⟨g1,B,sm,g2,a3,A3,B,B,AI⟩
  |false=>
   have e:tld=(HJ W C,AB):=by show TK W m f=_;unfold TK;rw[show(cS W m f).2=AB from hd]
   have sm:Cg T (n+6) H8 (Bi tld) (FI [AJ<|HJ W C,BZ AB]) false:=by rw[e];exact a0 (HJ W C,AB)
   rw[hd]at g1;exact As [.t<|BZ AB,.b AB,.b AB,.b AB,.t<|BZ tld.2,.t<|BZ J,.b AB] [CC T (n+6) (Bi QR) (AM 1)<|BZ AB,AB=AB,Cg T (n+6) H8 (Bi tld) (FI [AJ<|HJ W C,BZ AB]) AB,CC T (n+6) (Bi tld) (AM 1)<|BZ tld.2,CP T (n+6) (Ah<|AS "isinstance") [BZ tld.2,Ah<|Ae "bool"]<|BZ J,Bf T<|Ah<|AS "isinstance",AB=AB,(!J)=AB] P.O ⋯ ⟨g1,B,sm,g2,a3,A3,B,B,AI⟩
 have h7:=A7 7 fB (ss:=fB.drop 7) ⋯ s7<|A7 8 fB ⋯ s8<|A7 9 fB ⋯ s9<|A7 10 fB ⋯ b1<|A7 11 fB ⋯ b0<|A7 12 fB ⋯ a9<|Cq (s1:=BA 13 fB) (r:=[]) ⋯ a8<|Ea B;have h0:=A7 0 fB (ss:=fB) ⋯ s0<|A7 1 fB ⋯ s1<|A7 2 fB ⋯ s2<|A7 3 fB ⋯ s3<|A7 4 fB ⋯ s4<|A7 5 fB ⋯ s5<|A7 6 fB ⋯ s6 h7;exact⟨⟨mw<|AM f,j,mw<|AL<|AV r,mw<|AL<|AZ Bs,bv,i6 b,i6 m,i6 f,mw<|AL q,mw<|Bi tld,mw<|Bi QR⟩,h0⟩
end
section
open PySem.Builtin
set_option backward.match.sparseCases true
set_option tactic.hygienic true
noncomputable def TL(W:Wd)(bs:I Aa):Bool:=bs.all (SE W)&&bs.all λk=>Kr W k bs== [k]
noncomputable def TM(W:Wd)(rec:I Aa->Ba):Aa->I Aa->I Aa->Ba
 |_,_,[] =>J
 |m,pre,a::rest=>match gq W.fk W.JO (EZ a) (pre.map EZ)with
  |none=>AB
  |some r=>SE W a&&(!(Qf (pre.map EZ) (EZ a))&&(EV (U pre) 100&&(r.all (λb=>C8 (U b) 1)&&(EV (U r) 2&&(TL W (r.map O9)&&(rec (r.map O9)&&(G1 W (r.map O9)==Ag m (KD W a)&&TM W rec (BG m (KD W a)) (pre++[a]) rest)))))))
theorem yA:TM W rec m pre (a::rest)=(match gq W.fk W.JO (EZ a) (pre.map EZ)with
  |none=>AB
  |some r=>SE W a&&(!(Qf (pre.map EZ) (EZ a))&&(EV (U pre) 100&&(r.all (λb=>C8 (U b) 1)&&(EV (U r) 2&&(TL W (r.map O9)&&(rec (r.map O9)&&(G1 W (r.map O9)==Ag m (KD W a)&&TM W rec (BG m (KD W a)) (pre++[a]) rest)))))))):=B
noncomputable def Ny(W:Wd):Aj->I Aa->Ba
 |0,_=>AB
 |_+1,[] =>AB
 |f+1,i::rest=>SE W i&&TM W (Ny W f) (KD W i) [i] rest
theorem yB:Ny W (f+1) (i::rest)=(SE W i&&TM W (Ny W f) (KD W i) [i] rest):=B
theorem Xz(W:Wd)(i:Aa)(r:I Aa):G1 W (i::r)=G1.PQ W (KD W i) r:=by cases r<;>rfl
theorem sD(P:Bw T)(C:T.gp=ID)(n:Aj)(W:Wd)(ok:WOk W)(hM:MOk T W)(rec:I Aa->Ba)(ih:∀bs,rec bs=J->U bs<=2->CP T (n+6) (Ah (AH 1272)) [Xw W,AL (AZ bs)] (AJ (HJ W (G1 W bs)))):
  ∀rest pre m g x,TM W rec m pre rest=J->pre≠ [] ->(∀i∈pre,SE W i=J)->(pre++rest).length<=1000->
   ∃l Q,KN T (n+6) GF (Kk Sv) fB (pvX W (pre++rest) (mw (AM m)) (mw (AJ (HJ W m))) g x) (Dd (U pre:Aa) (U rest)) Aq (pvX W (pre++rest) (mw (AM (G1.PQ W m rest))) (mw (AJ (HJ W (G1.PQ W m rest)))) l Q):=by
 intro rest;induction rest with
 |nil=>exactλpre m g x h G z hz=>(NJ g x<|.done)
 |cons a rest u=>
  intro pre m g x h G z hz;rw[yA]at h
  split at h
  ·exact Pm h
  ·rename_i r hr
   have b1:=Ew h;have b2:=Ew b1.2;have b3:=Ew b2.2;have b4:=Ew b3.2;have b5:=Ew b4.2;have b6:=Ew b5.2;have b7:=Ew b6.2;have b8:=Ew b7.2;have b9:=Ew b6.1;have v:∀i∈a::pre,SE W i=true:=uc b1.1 z;have t:xy W m pre a r:=⟨hr,G,(CR _).mp b2.1,Be b3.1,v,λb hb=>(DJ<|Kz b4.1 b hb).symm▸(by decide:0<1/\1<=1000),Be b5.1,Kz b9.1,λk hk=>F7<|Kz b9.2 k hk⟩;have d:=ih _ b7.1<|by rw[Ai];exact t.mq
   rw[F7 b8.1]at d;refine Dx (sC P C n W ok hM pre rest a m r t hz d x) λO st=>?_;have e:=DN pre [a] rest;refine E0 (u (pre++[a]) (BG m<|KD W a) (mw<|AM (U pre:Aa)) O b8.2 (List.append_ne_nil_of_right_ne_nil _<|C2 _ _) (λi y=>(IF y).elim (z i) λq=>Cx q▸b1.1)<|e▸hz) λj N L=>?_;rw[e,Ad]at L;exact(NJ j N<|.step (Ec:=pvX W (pre++a::rest) (mw<|AM m) (mw<|AJ<|HJ W m) (mw<|AM (U pre:Aa)) x) ⋯ st L)
noncomputable def AHF:FV:=⟨Af,Af,Af,Af,Af,Af,Af,Af,Af,Af,Af⟩
noncomputable def psF:I Str:=[S "tale",S "ids"]
noncomputable def AHG:I Str:=[S "rows",S "start",S "changes",S "whole",S "manner",S "total",S "met",S "text",S "place",S "fresh",S "asked",S "found",S "bases",S "base",S "both",S "one",S "two",S "blobs",S "told",S "due",S "folk"]
theorem gx(P:Bw T)(g:T.gp=ID)(W:Wd)(ok:WOk W)(z:MOk T W):∀fu ids,Ny W fu ids=J->U ids<=900->CP T (fu+6) (Ah (AH 1272)) [Xw W,AL (AZ ids)] (AJ (HJ W (G1 W ids)))
 |0,_,h,_=>by cases h
 |fu+1,[],h,_=>by cases h
 |fu+1,i::rest,h,hz=>by
  rw[yB]at h;rw[A4]at h;have sz:=Ak;refine E0 (CS P.toHN 32 1272 1271 (A6 81) (S "_law_fold") AN ⋯ ⋯ ⋯ B B) λdc pm F=>?_;rw[Ac]at hz;refine E0 (sD P g fu W ok z (Ny W fu) (λbs hb y=>gx P g W ok z fu bs hb<|by exact AO (by assumption)<|by decide) rest [i] (KD W i) Af AHF h.2 (by simp) (λj hj=>by rw[Cx hj];exact h.1)<|by show(i::rest).length<=1000;rw[Ac];exact AO (by assumption)<|by decide) λQ C y=>?_;rw[Xz];have q:=B6 P.toHN 16 1222 1221 (A6 73) (S "_law_state") AN ⋯ ⋯ ⋯ B B;have l:=B6 P.toHN 18 1227 1226 (A6 74) (S "_law_text") AN ⋯ ⋯ ⋯ B B;have a0:=ok.flat;have a3:=ok.chg;have v:(AZ<|i::rest).length=U rest+1:=by rw[Cy,Ac]
  let ids:=i::rest
  have e:Cg T (fu+6) To (AL<|AZ ids) (AL []) false:=Ng<|by rfl
  have g0:CC T (fu+6) (AL<|AZ ids) (AM 0) (AM i):=Nx (i:=0) B<|by exact AO (by assumption)<|by decide
  have gw:=Uj (T:=T) (n:=fu+6) ok h.1;have ln:CP T (fu+6) (Ah<|AS "len") [AL<|AZ ids] (AM ((U rest+1:Aj):Aa)):=v▸FR (by rw[v];exact AO (by assumption)<|by decide)
  let pv:PV->PV->BD:= λme N=>pvX W ids me N Af AHF
  refine gU.app<|gv (kw:=[]) (ks:=[]) (cq:=D (AH 1271,qF)) P.O (ps:=psF) (locs:=AHG) (Fe:=[]) (es:=[Xw W,AL<|AZ ids]) (fl:=JF<|AJ<|HJ W<|G1.PQ W (KD W i) rest) (EA:=pvX W ids (mw<|AM<|G1.PQ W (KD W i) rest) (mw<|AJ<|HJ W<|G1.PQ W (KD W i) rest) Q C) (Fd F) (B9 P.toHN) B B (λX s vs us a ta tk=>?_) (by decide+kernel) ⋯ ⋯ (λp hp=>by obtain rfl:=AE hp;exact⟨B,by kernel_rfl!⟩) ?_ B
  ·(refine Bk ta.inv λL _ u a1 r1=>?_;subst u)
   ·cases r1 with
    | @cons _ G _ _ a2 r1=>
     obtain rfl:=r1.inv;obtain rfl:=tk.inv;exact(CB [L,G] (Xe P a λd=>by kernel_rfl!)<|Cw a1<|Cw a2 E4)
  ·refine A7 0 FBd (BE:=pvF [] W ids Af Af Af Af Af Af Af Af Af Af Af Af Af Af) ⋯ (As [] [] P.O ⋯ AI) ?_;refine ABt (x:=S "folk") P.O ?_;rw[show iu (S "folk") (pvF [] W ids Af Af Af Af Af Af Af Af Af Af Af Af Af Af)=pv Af Af by kernel_rfl!];refine A7 1 FBd (BE:=pv Af Af) ⋯ (As [.b AB,.b AB] [Cg T (fu+6) To (AL<|AZ ids) (AL []) AB,AB=AB] P.O ⋯ ⟨e,B,AI⟩) ?_;refine A7 2 FBd (BE:=pv (mw<|AM<|KD W i) Af) ⋯ (As [.t<|AM i,.t<|AM<|KD W i] [CC T (fu+6) (AL<|AZ ids) (AM 0)<|AM i,CC T (fu+6) (AL<|AZ W.whole) (AM i)<|AM<|KD W i] P.O ⋯ ⟨g0,gw,AI⟩) ?_;refine A7 3 FBd (BE:=pv (mw<|AM<|KD W i)<|mw<|AJ<|HJ W<|KD W i) ⋯ (As [.t<|AM<|Mk W<|KD W i,.t<|AJ<|HJ W<|KD W i] [CP T (fu+6) (Ah<|AH 1222) [AM W.start,AL<|AZ W.changes,AM<|KD W i]<|AM<|Mk W<|KD W i,Bf T<|Ah<|AH 1222,CP T (fu+6) (Ah<|AH 1227) [AL<|AV W.rows,AM<|Mk W<|KD W i]<|AJ<|HJ W<|KD W i,Bf T<|Ah<|AH 1227] P.O ⋯ ⟨Qe P.toHN (fu+5) W.start _ W.changes<|by exact AO (by assumption)<|by decide,q,QA P.toHN (fu+5) W.rows _ (by have:=ok.rows;exact AO (by assumption)<|by decide)<|by exact AO (by assumption)<|by decide,l,AI⟩) ?_;refine Cq (s1:=Sv) (r:=FBd.drop 5) ⋯ (JL [.t<|AM ((U rest+1:Aj):Aa)] (Dd 1<|(((U rest+1:Aj):Aa)-1).toNat) [CP T (fu+6) (Ah<|AS "len") [AL<|AZ ids]<|AM ((U rest+1:Aj):Aa),Bf T<|Ah<|AS "len",(-(2^62)<=(1:Aa)/\(1:Aa)<2^62)/\ -(2^62)<=((U rest+1:Aj):Aa)/\((U rest+1:Aj):Aa)<2^62] P.O ⋯ ⋯ ⋯ ⋯ ⟨ln,A3,⟨⟨by decide,by decide⟩,WR _,WS hz<|by decide⟩,AI⟩<|by rw[show(((U rest+1:Aj):Aa)-1).toNat=U rest by omega];exact y) ?_
   ·exact K8 (s1:=BA 5 FBd) (r:=[]) ⋯<|As [] [] P.O ⋯ AI
end
section
open PySem.Builtin
noncomputable def yC:Obj:=⟨AN,AQ,ACm,#[]⟩
theorem ABv(h:Dw):∀(a:I Az),∃base:Dw,(∀b∈a,AA base b=AQ)/\ ∀b,b∉a->AA base b=AA h b:=by
 intro a;induction a with
 |nil=>
  exact(CB h IL λ_ _=>B)
 |cons L a j=>
  exact by
   obtain⟨base,u,r⟩:=j;have hs:∀b,(base.update L λ_=>yC).get? b=if b=L then AQ else AA base b:= λb=>by
    by_cases q:b=L
    ·subst q;rw[Dh B];cases e:(base.update b λ_=>yC).get? b with
     |none=>rfl
     |some o=>
      have i:=(Heap.get?_some_iff.mp e);rw[Heap.objs_update_self]at i;obtain⟨g,l⟩:=i;cases e2:base.objs[b]?with
      |none=>(rw[e2]at g;cases g)
      |some x=>(rw[e2]at g;cases g);exact nY l
    ·rw[CQ q];exact ip _ _<|Gk q
   refine(CB (base.update L λ_=>yC) (λb d=>?_) λb d=>?_)
   ·rw[hs]
    split
    ·rfl
    ·rename_i q
     exact u b<|(DO d).resolve_left q
   ·rw[hs,CQ λq:b=L=>d<|by rw[q];exact B0 _];exact r b λq=>d<|Cb _ q
noncomputable def IH(l:I Pc):I Addr:=l.filterMap (·.frame)
def Q0(T:Th)(h:Dw)(l:I Pc):Prop:= ∀env∈l,env.scope.kind≠ .module/\ ∃L o,env.frame=D L/\AA h L=D o/\(∀vs,o.data≠BF vs)/\AA T.H1 L=AQ/\ ¬T.Tab L
theorem Q0.mem(f:Q0 T h l)(y:b∈IH l):(∃o,AA h b=D o/\ ∀vs,o.data≠BF vs)/\AA T.H1 b=AQ/\ ¬T.Tab b:=by refine Ap (tW.mp y) λenv u j=>?_;obtain⟨_,L,o,e1,e2,e3,e4,C⟩:=f env u;have i:=j;obtain rfl:=AE<|e1.symm.trans i;exact⟨(CB o e2 e3),e4,C⟩
theorem Q0.fun:∀ {l:I Pc},Q0 T h l->(∀b∈IH l,AA i b=AQ)->h.FunFrames i l:=by
 intro l;induction l with
 |nil=>
  exactλ_ _=>AI
 |cons env l u=>
  exactλf j=>by obtain⟨C,L,o,e1,e2,e3,_⟩:=f env<|B0 _;refine⟨C,(AAJ L o e1 (j L<|by unfold IH;rw[HF,e1];exact B0 _) e2 e3),u (λx y=>f x<|Cb _ y) λb h=>j b ?_⟩;unfold IH;rw[HF,e1];exact Cb _ h
theorem Q0.keeps(f:Q0 T h l)(k:∀b∈IH l,∀o,AA h b=D o->AA h' b=D o):Q0 T h' l:= λenv i=>by obtain⟨j,L,o,e1,e2,r⟩:=f env i;exact⟨j,L,o,e1,k L (tW.mpr<|CB env i e1) o e2,r⟩
structure AEe(T:Th)(h:Dw):Prop where
 ext:C1 T T.H1 h
 tab:∀a,T.Tab a->∃vs,AA h a=D (T2 vs)/\T.iP a vs h
def gy(T:Th)(s₀:Bq)(l:I Pc)(e:Az)(s':Bq):Prop:= ∃a a0,AFS a l e (Ae "ValueError") a0 s'.heap/\(∀b o,¬T.Tab b->b∉IH l->AA s₀.heap b=D o->AA a b=D o)/\AEe T a/\s'.os=T.os/\T.gp s'.gens/\
 ∀b∈IH l,∀o,AA s₀.heap b=D o->∃d,AA s'.heap b=D {o with slots:=d}
def Qo(T:Th)(n:Aj)(f:Az)(ds:I DV):Prop:=
 ∀A X s vs R l,Le n A->A.frames=D l->Cm T s->Hs T X s.heap->A8 T s.heap X ds vs->Q0 T s.heap l->
  (∀e s',gy T s l e s'->R (ib<|AH e) s')->Mf (M T) A (qB (AH f) ⟨vs,[]⟩) R s
theorem Cm.ofH(O:Cr T)(i:AEe T h)(k:h.StaysIn s'.heap)(y:s'.os=T.os)(u:T.gp s'.gens):Cm T s':=
 ⟨λb o t e=>k b o<|i.ext b o t e,λa j=>(by refine Ap (i.tab a j) λvs e t=>?_;exact(CB vs (k _ _ e)<|O.Us a vs _ _ t λb o _ e _ _=>k b o e)),y,u⟩
theorem ABw(O:Cr T)(d:Cm T s)(f:Q0 T s.heap l):∃base,(∀b∈IH l,AA base b=AQ)/\(∀b o,b∉IH l->AA s.heap b=D o->AA base b=D o)/\base.StaysIn s.heap/\AEe T base:=by
 refine Ap (ABv s.heap<|IH l) λbase j i=>?_;have g:∀b o,b∉IH l->AA s.heap b=D o->AA base b=D o:= λb o r e=>(i b r).trans e;have u:base.StaysIn s.heap:= λb o e=>by
  by_cases q:b∈IH l
  ·exact EN<|(j b q).symm.trans e
  ·rw[<-i b q];exact e
 refine(NI base j g u ⟨λb o t e=>g b o (λq=>by exact EN<|((f.mem q).2.1).symm.trans e)<|d.ext b o t e,λa h=>?_⟩);refine Ap (d.tab a h) λvs e t=>?_;refine(CB vs (g a _ (λq=>(f.mem q).2.2 h) e)<|O.Us a vs _ _ t λb o fs e1 _ e2=>g b o (λq=>?_) e1);refine Ap ((f.mem q).1) λo' e3 e4=>?_;obtain rfl:=AE<|e1.symm.trans e3;exact e4 _ e2
theorem sE{M:jA}(hf:env.frame=D L)(hh:ZX x l e Q a0 L s.heap)(hQ:∀h',ZX x l e Q a0 L h'->s.heap.UpToSlots h'->E (AH e) {s with heap:=h'}):ADd M A env E (AH e) s:=by
 obtain⟨y,z,hl,oe,vs,T,oT,ts,C,u,G,O,r,v,N,hdT,h3⟩:=hh;have i:3<AK ts:=(Yu.mp h3).1;have d:∀b,b≠T->(s.heap.update T (Obj.mapFields (·.setIfInBounds 3 ((D L).elim AN λf=>Jo f)))).get? b=AA s.heap b:= λb g=>ip _ _<|Gk g;have a:∀b o,AA s.heap b=D o->(∀vs,o.data≠BF vs)->b≠T:= λb o g h q=>by rw[q,N]at g;injection g with g;subst g;exact h ts hdT
 unfold ADd;refine AD<|HG C G O ?_;refine B2 (Bc<|show¬((AH T==AN)=J)from by simp) ?_;refine(show Ao M A (AF1 (AH e) env.frame) _ _ s from ?_);rw[hf];unfold AF1;refine AD<|HG C G O ?_;refine C0 (CI<|show(AH T !=AN)=J from by simp) ?_;refine wpAny_setField N hdT i<|hQ _ ⟨λb o j=>(d b λq=>by rw[q,r]at j;exact EN j).trans<|y b o j,z,hl.of_keeps λb o g h=>(CB o ((d b<|a b o g h).trans g) B),?_⟩ λb o g h=>⟨o.slots,(d b<|a b o g h).trans g⟩;exact⟨oe,vs,T,_,_,(d e<|Gk v).trans C,u,G,O,r,v,Dm _ N<|Obj.isFreed_of_fields<|uP hdT _,uP hdT _,by simp[i]⟩
theorem sF{M:jA}
  (q:A.frames=D (env::d))(u:env.frame=D L)(i:a.StaysIn h)(hl:h.FunFrames a (env::d))(hx:Heap.MadeExcOf h s.heap e r y)
  (hQ:∀h' a0,ZX a (env::d) e r a0 L h'->s.heap.UpToSlots h'->Q () {s with heap:=h'}):Ao M A (aw (AH e) env) Q E s:=by
 refine Dg hx.there λt v O ht=>?_;have g:∀b,AA h b=AQ->AA a b=none:= λb j=>by
  cases hq:AA a b with
  |none=>rfl
  |some o'=>have:=i b o' hq;exact EN<|j.symm.trans this
 unfold aw;simp only[u];refine AD<|HG (x:=AN) v B B ?_;refine B2 (Bc<|show¬((AN !=AN)=J) by decide) ?_;refine wpAny_entryW (a0:=AH t) q (hl.of_keeps λb o j _=>(CB o (hx.keeps b o j) B)) u v (λb o j=>hx.keeps b o<|i b o j) (g e hx.new) B (show 1<6 by exact BM _ _) B λh' l=>(by refine FD l λN G C z=>?_;exact hQ h' (AH t) ⟨N,g e hx.new,G,C⟩ z)
theorem mA{M:jA}(v:env.frame=D L)
  (hh:ZX d (env::a) e i a0 L s.heap)(x:∀h',AFS d a e i a0 h'->s.heap.UpToSlots h'->Q () {s with heap:=h'}):Ao M A (AFT env (AH e)) Q E s:=by
 unfold AFT;refine AD<|wpAny_noteFrame_againW v hh.2.2.2 ?_;refine AKU hh λh' h j=>?_
 (refine FD h λu r g l=>?_;obtain⟨_,_,q⟩:=g)
 exact x h' ⟨u,r,q,l⟩ j
theorem Uk(a:env.frame=D L):IH (env::l)=L::IH l:=by unfold IH;rw[HF,a]
theorem Sx.AEz{ad:Bt->I Az}{s₀ s:Bq}(i:Sx T n A X env pv Z ad s)(G:env.scope.kind=BY)(L:env.frame=D env.locals)(y:Q0 T s₀.heap l)(C:∀b o,¬T.Tab b->AA s₀.heap b=D o->AA s.heap b=D o):Q0 T s.heap (env::l):= λv hv=>by
 rcases DO hv with rfl|hv
 ·refine EX i.wr.ns λm o es Q j u _=>?_;refine⟨by rw[G];nofun,v.locals,o,L,j,(by rw[u];exact K3 B),?_,i.inv.Bn j<|by rw[u];exact K3 B⟩;rcases i.x.kind _ i.wr.xl with h|⟨h,_⟩
  ·exact Ay h<|i.inv.Bn j<|by rw[u];exact K3 B
  ·exact h
 ·exact(y.keeps λb N o e=>C b o (y.mem N).2.2 e) v hv
theorem gz(j:A.frames=D (env::l))(u:env.frame=D L)(h0:AA s₀.heap L=AQ)(O:Q0 T s₀.heap l)(v:∀b o,¬T.Tab b->AA s₀.heap b=D o->AA a.heap b=D o)
  (fl:gy T a (env::l) e s₂)(k:∀s',gy T s₀ l e s'->Q () s'):Ao (M T) A (AFT env (AH e)) Q E s₂:=by
 refine UB fl λd a0 f1 f2 f3 f4 f5 f6=>?_;refine wpAny_leaves_onW j u f1 λh' r y=>k _ ⟨d,a0,r,λb o g z e=>?_,f3,f4,f5,λb x o e=>?_⟩
 ·refine f2 b o g (λq=>?_) (v b o g e);rw[Uk u]at q;rcases DO q with rfl|q
  ·exact EN<|h0.symm.trans e
  ·exact z q
 ·(refine NZ (O.mem x) λh _ g=>?_;obtain⟨o',e',C⟩:=h)
  obtain rfl:=AE<|e.symm.trans e';refine Dx (f6 b (by rw[Uk u];exact Cb _ x) o<|v b o g e) λsl N=>?_;refine Dx (y b _ N C) λi G=>?_;exact⟨i,G⟩
theorem mB(O:Cr T)(G:A.frames=D (env::l))(v:env.frame=D L)(h0:AA s₀.heap L=AQ)(a1:Q0 T s₀.heap l)(fr:Q0 T s₂.heap (env::l))(a:Cm T s₂)(kp:∀b o,¬T.Tab b->AA s₀.heap b=D o->AA s₂.heap b=D o)
  (hx:iq s₂.heap h' e "ValueError" a4)(k:∀s',(∀ {Q:Unit->Bq->Prop} {E:Am->Bq->Prop},(∀d,gy T s₀ l e d->Q () d)->Ao (M T) A (AFT env (AH e)) Q E s')->E (AH e) s'):Yn (M T) A env (λe d=>ADd (M T) A env E e d) (AH e) {s₂ with heap:=h'} :=by
 refine WU (ABw O a fr) λu b1 b2 b3 b4=>?_;have C:=hx.of;refine sF (s:= {s₂ with heap:=h'}) G v b3 (fr.fun b1) C λr a0 hh up=>?_;refine sE (s:= {s₂ with heap:=r}) v hh λj i h=>?_;refine k _ λ {Q E} kk=>?_;refine mA (s:= {s₂ with heap:=j}) v i λa3 a2 g=>?_;refine kk _ ⟨u,a0,a2,λb o z nb e=>b2 b o (λq=>?_)<|kp b o z e,b4,a.os,a.gens,λb hb o e=>?_⟩
 ·rw[Uk v]at q;rcases DO q with rfl|q
  ·exact EN<|h0.symm.trans e
  ·exact nb q
 ·(refine NZ (a1.mem hb) λx _ z=>?_;obtain⟨o',e',N⟩:=x)
  obtain rfl:=AE<|e.symm.trans e';have h1:=hx.keeps b o<|kp b o z e;refine Dx (up b o h1 N) λa6 g1=>?_;refine Dx (h b _ g1 N) λa5 g2=>?_;refine Dx (g b _ g2 N) λy g3=>?_;exact⟨y,g3⟩
noncomputable def rsE(e:Ct):Expr:=if h:e.ctorIdx=16 then jU (motive_2:= λ_=>A2) e h λa _ _=>(match a with|some e=>e|_=>XC)else XC
noncomputable def rsP(e:Ct):Pos:=if h:e.ctorIdx=16 then jU (motive_2:= λ_=>LH) e h λ_ _ p=>p else BN
noncomputable def jsL(e:A2):I Expr:=if h:e.ctorIdx=18 then WK (motive_1:= λ_=>I A2) e h λl _=>l else []
noncomputable def jsP(e:A2):Pos:=if h:e.ctorIdx=18 then WK (motive_1:= λ_=>LH) e h λ_ p=>p else BN
noncomputable def fvE(e:A2):Expr:=if h:e.ctorIdx=17 then Qx (motive_1:= λ_=>A2) e h λe _ _ _=>e else e
noncomputable def fvP(e:A2):Pos:=if h:e.ctorIdx=17 then Qx (motive_1:= λ_=>LH) e h λ_ _ _ p=>p else BN
noncomputable def hB:Stmt:=BA 0<|DR Ma
noncomputable def hJ:Stmt:=BA 0<|ifB hB
noncomputable def raM:Stmt:=BA 0<|ifB hJ
noncomputable def jsM:Expr:=EP 0<|rsE raM
noncomputable def zg:Expr:=(jsL jsM).getD 1 XC
noncomputable def mC:Expr:=(jsL jsM).getD 0 XC
noncomputable def Oh(k:Bt):DV:=FI [Fu k,AL []]
theorem sG(P:Bw T){ad:Bt->I Az}{gd:DV}(K:DG T env GM)(g:Sx T n A X env (Ua gd r (mw (Oh k)) x y z m) Z ad s)(hz:(jV k).length<=1000)
  (h:∀s₂ h' e N,C1 T s.heap s₂.heap->Cm T s₂->iq s₂.heap h' e "ValueError" N->E (AH e) {s₂ with heap:=h'}):Ao (M T) A (exec raM env) Q E s:=by
 have hs:raM= .Raise (D<|El (Bu (S "ValueError")<|Hc<|KO<|rsE raM) [ACn [Gj (ACZ<|Xl mC) (rX mC)<|rY mC,RZ (fvE zg) 114 AQ<|fvP zg]<|jsP jsM] []<|Ka<|rsE raM) AQ (rsP raM):=by kernel_rfl!
 rw[hs];have sz:=Ak;refine wpAny_Raise_call PySem.F.excCall_ValueError PySem.F.excRaise_ValueError g.a.handled B<|HZ (d:=Ah<|Ae "ValueError") P.O K ⋯ A X ad s _ E g.toAr λfv s₁ i G t₁=>?_;obtain rfl:=t₁.inv;have q:=g.ext P.O i G;have gk:CC T n (Oh k) (AM 0) (Fu k):=GP 0 B<|by simp
 have ev:=(Io (n:=n) (pv:=Ua gd r (mw<|Oh k) x y z m) P.O K 20).1 (fvE zg) [.t<|Fu k] (Fu k) [CC T n (Oh k) (AM 0)<|Fu k] [] ⋯ ⟨gk,AI⟩;have a1:zg=RZ (fvE zg) 114 AQ (fvP zg):=by kernel_rfl!
 refine⟨B,?_⟩;rw[show Gc (Ka<|rsE raM) (C5 [ACn [Gj (ACZ<|Xl mC) (rX mC)<|rY mC,RZ (fvE zg) 114 AQ<|fvP zg]<|jsP jsM] env)=[(AB,IC (ACn [Gj (ACZ<|Xl mC) (rX mC)<|rY mC,RZ (fvE zg) 114 AQ<|fvP zg]<|jsP jsM) env)]from B];refine Hm<|Yt<|wpAny_JoinedStr ?_;refine Ke<|Ki (Xl mC) _ B ?_ ?_
 ·show(WL++Xl mC).length<=_;rw[sz];exact Be ⋯
 have S₂:=q.ext (s':= {s₁ with toks:=s₁.toks+1}) P.O (C1.refl _)<|q.inv.toks _;refine wpAny_FormattedValue_repr<|ev A X ad _ _ _ S₂.toAr λv s₃ u j C=>?_;cases C with
 | @str _ tk=>
 refine pyReprObj_str ?_<|by exact AO (by assumption)<|by decide
 have L:∀s₄ tk,s₄.heap=s₃.heap->Cm T s₄->∃y t,Bz (jV k) tk=Bz y t/\((WL++Xl mC)++y).length<=AY/\Joins (M T) A E (evalEach [] env) ((WL++Xl mC)++y) (λout s₁=>out.length<=AY/\Ao (M T) A (PS []) (λvs s₂=>(⟨Bz out s₁.toks::vs,[]⟩:Args).kw=[] /\(⟨Bz out s₁.toks::vs,[]⟩:Args).pos.length<=AY/\ ∀h' e,iq s₂.heap h' e "ValueError" (⟨Bz out s₁.toks::vs,[]⟩:Args).pos->E (AH e) {s₂ with heap:=h'}) E {s₁ with toks:=s₁.toks+1}) s₄:= λs₄ tk a0 i4=>by
  have hl:((WL++Xl mC)++jV k).length<=sizeLine:=by rw[strLen_append];have:(WL++Xl mC).length<=100:=Be ⋯;exact DT [_,_,_] [.l A9<|.n 1000,.e BQ<|.n 16777216,.l B5<|.n 100] (.a B5 A9) BQ [1,-1,1] B hz sz this
  refine⟨_,_,B,hl,hl,AP ⟨B,by show 1<=_;exact BM _ _,λh' e hx=>?_⟩⟩;refine h {s₄ with toks:=s₄.toks+1} h' e _ ?_ (i4.toks _) hx;skip;rw[a0];exact i.trans u
 exact wpAny_formatField_str (L _ _ B<|j.toks _) (L _ _ B<|(j.toks _).toks _)<|by exact AO (by assumption)<|by decide
structure Odd(k:Bt):Prop where
 known:UZ k=AB
 con:Jm k (S "conflict")=AB
 short:(jV k).length<=1000
def RSm(gd:DV)(k:Bt):BD->Prop:= λpv=> ∃a x y z m,pv=Ua gd (LS a) (mw<|Oh k) x y z m
theorem hS(P:Bw T)(n:Aj)(gd:DV)(k:Bt):∀d rs g x y z m,(∀q∈d,lF q)->U rs+(By d).length<=100000->
  ∃EA,MR (RSm gd k) T (n+1) GM (Kk Ma) (DR Ma) (Ua gd (LS rs) g x y z m) (d.map gD++[Oh k]) mx EA:=by
 intro d;induction d with
 |nil=>
  exactλrs g x y z m _ _=>⟨Ua gd (LS rs) (mw<|Oh k) x y z m,.exc (Ec:=Ua gd (LS rs) (mw<|Oh k) x y z m) ⋯ ⟨rs,x,y,z,m,B⟩⟩
 |cons q d C=>
  exactλrs g x y z m i hz=>by
   have h:U rs+(NP q).length+(By d).length<=100000:=by
    have:(By<|q::d).length=(NP q).length+(By d).length:=by simp[By]
    exact DT [_,_,_,_] [.l (.a A9 BQ)<|.n 100000,.e BQ<|.a B5 Jj] (.a (.a A9 B5) Jj) (.n 100000) [1,-1] B hz this
   refine Rg (XS P.toHN n gd rs x y z m q (i q<|B0 _)<|DT [_,_,_] [.l (.a (.a A9 BQ) B5)<|.n 100000] (.a A9 BQ) (.n 100000) [1] B h) λu r j v L=>?_;refine Dx (C (rs++NP q) (mw<|gD q) u r j v (λp hp=>i p<|Cb _ hp)<|by rw[Ad];exact DT [_,_,_] [.l (.a (.a A9 BQ) B5)<|.n 100000] (.a (.a A9 BQ) B5) (.n 100000) [1] B h) λEA G=>?_;refine⟨EA,?_⟩;rw[B4,Iw];exact MR.step (Ec:=Ua gd (LS rs) (mw<|gD q) x y z m) ⋯ L G
theorem II{ad:Bt->I Az}{st:Ct}(h:Fn T n G pv st Aq BE)(K:DG T env G)(a:Sx T n A X env pv Z ad s)
  (k:∀X' Ez s',Rj X X' Z->Sx T n A X' env BE Z Ez s'->Ao (M T) A (Ve r env) Q E s'):Ao (M T) A (Ve (st::r) env) Q E s:=by
 refine DQ<|h env K A X Z ad s _ E a (λfl f d X' Ez s' hr g i j=>?_) λe d X' Ez s' hr=>by cases hr.1
 obtain⟨e1,e2⟩:=hr;subst e1 e2;cases i;exact k X' Ez s' g j
theorem sH(P:Bw T)(n:Aj)(i:I Vr)(k:Bt)(ok:Odd k)(ho:∀q∈i,lF q)(hz:(By i).length<=100000):Qo T (n+2) 1020 [AL (i.map gD++[Oh k])] :=by
 intro A X s vs R l a N d x ta fr KR;refine E0 (CS P.toHN 2 1020 1019 (A6 58) (S "_merge3_to_bytes") AN ⋯ ⋯ ⋯ B B) λdc pm F=>?_;have g:=Fd F;refine Ap g.obj λob o1 o2=>?_;have a0:s.heap.CodeRec (GX (LP (A6 58) (S "_merge3_to_bytes") [] AN (AH 1019) AN) dc pm).code (GX (LP (A6 58) (S "_merge3_to_bytes") [] AN (AH 1019) AN) dc pm).qualname:=by refine EX g.code λc oc fs t e1 e2 e3=>?_;exact⟨c,oc,fs,t,e1,d.ext _ _ (g.Te c e1) e2,e3⟩
 (refine Bk ta.inv λv1 _ e_ a1 r1=>?_;subst e_)
 obtain rfl:=r1.inv;refine Dt (fd:=GX (LP (A6 58) (S "_merge3_to_bytes") [] AN (AH 1019) AN) dc pm) (body:=bM) a.room (d.ext _ _ g.tab o1) o2 ⋯ ⋯ ⋯ a0 ?_;rw[show CG (GX (LP (A6 58) (S "_merge3_to_bytes") [] AN (AH 1019) AN) dc pm) ⟨[v1],[]⟩=Ce [(S "groups",v1)] by kernel_rfl!];refine AP ?_;refine IV (fd:=GX (LP (A6 58) (S "_merge3_to_bytes") [] AN (AH 1019) AN) dc pm) (n:=n+1) (ps:=[S "groups"]) (locs:=[S "result",S "group",S "base_lines",S "a_lines",S "b_lines",S "merged_lines"]) (ES:=[]) (cs:=[]) (xs:=[]) (ws:=[]) (f:=1020) P.O a d x (Cw a1 E4) E4 QV IL PE B B B B (by decide+kernel) ⋯ (tZ ⋯) λv j a2 L h=>?_;refine⟨(d.lim P.O).keeps L,Jh ?_⟩;have KE:DG T (DS (GX (LP (A6 58) (S "_merge3_to_bytes") [] AN (AH 1019) AN) dc pm) (AK s.heap.objs) 1020) GM:=JC (ES:=[]) (cs:=[]) ⋯ B B B B<|B9 P.toHN;have hL:(DS (GX (LP (A6 58) (S "_merge3_to_bytes") [] AN (AH 1019) AN) dc pm) (AK s.heap.objs) 1020).frame=D (AK s.heap.objs):=B;have hLo:(DS (GX (LP (A6 58) (S "_merge3_to_bytes") [] AN (AH 1019) AN) dc pm) (AK s.heap.objs) 1020).locals=AK s.heap.objs:=B;generalize DS (GX (LP (A6 58) (S "_merge3_to_bytes") [] AN (AH 1019) AN) dc pm) (AK s.heap.objs) 1020=env at h KE hL hLo⊢;have r:(A.deeper env).frames=D (env::l):=by show A.frames.map (env:: ·)=_;rw[N];rfl
 let gd:DV:=AL<|i.map gD++[Oh k]
 have hb:bM=[BA 0 bM,BA 1 bM,Ma,BA 3 bM] :=by kernel_rfl!
 rw[hb];refine II (BE:=Ua gd Af Af Af Af Af Af) (As [] [] P.O ⋯ AI) KE (show Sx T (n+1) _ v env (Ua gd Af Af Af Af Af Af) _ _ j from h) λX2 a9 s2 u2 S2=>?_;refine II (BE:=Ua gd (LS []) Af Af Af Af Af) (As [] [] P.O ⋯ AI) KE S2 λX3 a8 s3 u3 S3=>?_;refine Dx (hS P n gd k i [] Af Af Af Af Af ho<|by simpa using hz) λEA hl=>?_;have G:Ma= .For (Kk Ma) (FX Ma) (DR Ma) [] (W2 Ma):=by kernel_rfl!
 refine DQ ?_;rw[G];refine AC0 (RS:=RSm gd k) P.O KE ⋯ ⋯ ((vg P.O KE (m:=20) (as:=[])).only (a:=i.map gD++[Oh k]) (cs:=[]) ⋯ AI).toZ hl S3 (λfl f y X' Ez s' hr hx Q S'=>?_) λEc X4 Zc u s4 _ a3 S4 hZ=>?_
 ·(refine F3 hr λa5 _=>?_;subst a5)
  cases Q
 (refine bJ a3 λrs x' y' z' m' a4=>?_;subst a4)
 rw[show DR Ma=[hB] by kernel_rfl!];have g0:CC T (n+1) (Oh k) (AM 0) (Fu k):=GP 0 B<|by simp
 have i1:Cg T (n+1) Yi (Fu k) (FI Ru) false:=ok.known▸Po (fe k);have t1:bN T (n+1) env (Ua gd (LS rs) (mw<|Oh k) x' y' z' m') (zb hB) false:=MM P.O<|(Io P.O KE 20).2 (zb hB) [.t<|Fu k,.b AB] AB [CC T (n+1) (Oh k) (AM 0)<|Fu k,Cg T (n+1) Yi (Fu k) (FI Ru) AB] [] ⋯ ⟨g0,i1,AI⟩;have t2:bN T (n+1) env (Ua gd (LS rs) (mw<|Oh k) x' y' z' m') (zb hJ) (Jm k<|S "conflict"):=MM P.O<|(Io P.O KE 20).2 (zb hJ) [.t<|Fu k] (Jm k<|S "conflict") [CC T (n+1) (Oh k) (AM 0)<|Fu k] [] ⋯ ⟨g0,AI⟩;rw[ok.con]at t2;have C:hB= .If (zb hB) (zd hB) [hJ] (wQ hB):=by kernel_rfl!
 have z:hJ= .If (zb hJ) (zd hJ) [raM] (wQ hJ):=by kernel_rfl!
 refine DQ ?_;rw[C];refine AIc<|t1 _ X4 u s4 _ _ S4.toAr λs5 x5 i5=>?_;have S5:=S4.ext P.O x5 i5;rw[CQ CD];refine DQ ?_;rw[z];refine AIc<|t2 _ X4 u s5 _ _ S5.toAr λs6 x6 i6=>?_;have S6:=S5.ext P.O x6 i6;rw[CQ CD];refine DQ ?_;refine sG P KE S6 ok.short λs7 h' e a6 x7 i7 hx=>?_;have S7:=S6.ext P.O x7 i7;have kp:∀b o,¬T.Tab b->AA s.heap b=D o->AA s7.heap b=D o:= λb o nt e=>S7.wr.keep b o (hZ b o e nt) nt;exact mB P.O r hL (F4 _) fr (S7.AEz KE.kind (hL.trans<|BI D hLo.symm) fr kp) i7 kp hx λs8 kk=>kk λs9 Q=>KR e s9 Q
end
section
open PySem.Builtin
set_option backward.match.sparseCases true
set_option tactic.hygienic true
noncomputable def AJF(x y z:Rows)(Cd:DV)(m a b c:PV):BD:=[(S "base_blob",mw<|BR x),(S "ours_blob",mw<|BR y),(S "theirs_blob",mw<|BR z),(S "make_merge3",mw Cd),(S "m",m),(S "base_content",a),(S "ours_content",b),(S "theirs_content",c),(S "merged_content",Af),(S "has_conflicts",Af)]
theorem RJ(O:Cr T){ad:Bt->I Az}{st:Ct}(v:st=Oa y st)(u:Hz st=Vy x (Hz st))(C:HP (Hz st)=es)(K:DG T env G)(d:Sx T n A X env pv Z ad s)(z:A.frames=D l)
  (hg:O0 G pv x=D (Ah (AH f)))(he:Gm (Rl (vE T n 20 G pv) es as)=D (ds,cs))(L:ER cs)(kp:Bf T (Ah (AH f)))(N:Qo T n f ds)(fr:∀s',C1 T s.heap s'.heap->Cm T s'->Q0 T s'.heap l)(k:∀s₁ e s',C1 T s.heap s₁.heap->Cm T s₁->gy T s₁ l e s'->E (AH e) s'):Ao (M T) A (exec st env) Q E s:=by
 rw[v];unfold Oa;rw[u];unfold Vy;rw[C];refine HD (Fb<|HZ O K hg A X ad s _ E d.toAr λfv s₁ i r t₁=>?_) B;obtain rfl:=t₁.inv;have S₁:=d.ext O i r;refine GI (first:=[]) O ((JJ (Io O K 20).1).only he L) kp S₁.toAr λvs j h g q=>?_;have S₂:=S₁.ext O h g;exact F9<|N A X j vs _ l d.a z g S₂.x q (fr j (i.trans h) g) λe s' hf=>k j e s' (i.trans h) g hf
theorem sJ(P:Bw T)(n:Aj)(x y z:Rows)(Cd:DV)(G:I Vr)(k:Bt)(ok:Odd k)(kc:Bf T Cd)(ag:CP T (n+4) Cd [AL (AV (CU (AF x))),AL (AV (CU (AF y))),AL (AV (CU (AF z)))] (AL (G.map gD++[Oh k])))(hg:∀q∈G,lF q)(g1:(By G).length<=100000)
  (hx:U x.flatten<=AY)(hy:U y.flatten<=AY)(hz:U z.flatten<=AY)(h:(AF y==AF z)=AB)(h2:(AF x==AF y)=AB)(h3:(AF x==AF z)=AB):Qo T (n+5) 1034 [BR x,BR y,BR z,Cd] :=by
 intro A X s vs R l a a3 d xo ta fr KR;refine E0 (CS P.toHN 6 1034 1033 (A6 60) (S "merge_blobs") AN ⋯ ⋯ ⋯ B B) λdc pm F=>?_;have g:=Fd F;refine Ap g.obj λob o1 o2=>?_;have a5:s.heap.CodeRec (GX (LP (A6 60) (S "merge_blobs") [] AN (AH 1033) AN) dc pm).code (GX (LP (A6 60) (S "merge_blobs") [] AN (AH 1033) AN) dc pm).qualname:=by refine EX g.code λc oc fs t e1 e2 e3=>?_;exact⟨c,oc,fs,t,e1,d.ext _ _ (g.Te c e1) e2,e3⟩
 refine Dt (fd:=GX (LP (A6 60) (S "merge_blobs") [] AN (AH 1033) AN) dc pm) (body:=bB) a.room (d.ext _ _ g.tab o1) o2 ⋯ ⋯ ⋯ a5 ?_;rw[(show JI (GX (LP (A6 60) (S "merge_blobs") [] AN (AH 1033) AN) dc pm) [S "base_blob",S "ours_blob",S "theirs_blob",S "make_merge3"]from W9 λu v w x=>by kernel_rfl!) vs ta.length];refine AP ?_;refine IV (fd:=GX (LP (A6 60) (S "merge_blobs") [] AN (AH 1033) AN) dc pm) (n:=n+4) (ps:=[S "base_blob",S "ours_blob",S "theirs_blob",S "make_merge3"]) (locs:=[S "m",S "base_content",S "ours_content",S "theirs_content",S "merged_content",S "has_conflicts"]) (ES:=[]) (cs:=[]) (xs:=[]) (ws:=[]) (f:=1034) P.O a d xo ta E4 QV IL PE B B B B (by decide+kernel) ⋯ (tZ ⋯) λL C a8 a2 i=>?_;refine⟨(d.lim P.O).keeps a2,Jh ?_⟩;have KE:DG T (DS (GX (LP (A6 60) (S "merge_blobs") [] AN (AH 1033) AN) dc pm) (AK s.heap.objs) 1034) GB:=JC (ES:=[]) (cs:=[]) ⋯ B B B B<|B9 P.toHN;have hL:(DS (GX (LP (A6 60) (S "merge_blobs") [] AN (AH 1033) AN) dc pm) (AK s.heap.objs) 1034).frame=D (AK s.heap.objs):=B;have hLo:(DS (GX (LP (A6 60) (S "merge_blobs") [] AN (AH 1033) AN) dc pm) (AK s.heap.objs) 1034).locals=AK s.heap.objs:=B;generalize DS (GX (LP (A6 60) (S "merge_blobs") [] AN (AH 1033) AN) dc pm) (AK s.heap.objs) 1034=env at i KE hL hLo⊢;have j:(A.deeper env).frames=D (env::l):=by show A.frames.map (env:: ·)=_;rw[a3];rfl
 have hb:bB=[BA 0 bB,BA 1 bB,BA 2 bB,BA 3 bB,BA 4 bB,BA 5 bB,BA 6 bB,BA 7 bB,BA 8 bB] ++bB.drop 9:=by kernel_rfl!
 rw[hb]
 let V:PV->PV->PV->PV->BD:=AJF x y z Cd
 refine II (BE:=V Af Af Af Af) (As [] [] P.O ⋯ AI) KE (show Sx T (n+4) _ L env (V Af Af Af Af) _ _ C from i) λX2 c1 s2 u2 S2=>?_;refine II (BE:=V Af Af Af Af) (As [.b AB,.b AB] [AB=AB,AB=AB] P.O ⋯ ⟨B,B,AI⟩) KE S2 λX3 c0 s3 u3 S3=>?_;refine II (BE:=V Af Af Af Af) (As [.b AB] [AB=AB] P.O ⋯ ⟨B,AI⟩) KE S3 λX4 b9 s4 u4 S4=>?_;refine II (BE:=V Af (mw<|AJ<|AF x) Af Af) (As [.b J,.b J,.t<|AJ<|AF x] [FP T (n+4) (BR x) J,Ey T (n+4) (BR x) (S "data")<|AJ<|AF x,J=J] P.O ⋯ ⟨Es P,DH P n _ _ x hx,B,AI⟩) KE S4 λX5 b8 s5 u5 S5=>?_;refine II (BE:=V Af (mw<|AJ<|AF x) (mw<|AJ<|AF y) Af) (As [.b J,.b J,.t<|AJ<|AF y] [FP T (n+4) (BR y) J,Ey T (n+4) (BR y) (S "data")<|AJ<|AF y,J=J] P.O ⋯ ⟨Es P,DH P n _ _ y hy,B,AI⟩) KE S5 λX6 b7 s6 u6 S6=>?_;refine II (BE:=V Af (mw<|AJ<|AF x) (mw<|AJ<|AF y)<|mw<|AJ<|AF z) (As [.b J,.b J,.t<|AJ<|AF z] [FP T (n+4) (BR z) J,Ey T (n+4) (BR z) (S "data")<|AJ<|AF z,J=J] P.O ⋯ ⟨Es P,DH P n _ _ z hz,B,AI⟩) KE S6 λX7 b6 s7 u7 S7=>?_
 let V2:PV->BD:= λm=>V m (mw<|AJ<|AF x) (mw<|AJ<|AF y)<|mw<|AJ<|AF z
 refine II (BE:=V2 Af) (As [.b AB,.b AB] [AB=AB,AB=AB] P.O ⋯ ⟨B,B,AI⟩) KE S7 λX8 b5 s8 u8 S8=>?_;refine II (BE:=V2 Af) (As [.b AB,.b AB,.b AB] [(AF x==AF z)=AB,(AF x==AF y)=AB,(AF y==AF z)=AB] P.O ⋯ ⟨h3,h2,h,AI⟩) KE S8 λX9 b4 s9 u9 S9=>?_
 let gd:DV:=AL<|G.map gD++[Oh k]
 refine II (BE:=V2<|mw gd) (As [.m (AS "bytes.splitlines")<|AL<|AV<|CU<|AF x,.m (AS "bytes.splitlines")<|AL<|AV<|CU<|AF y,.m (AS "bytes.splitlines")<|AL<|AV<|CU<|AF z,.t gd] [H7 T (n+4) (AJ<|AF x) "splitlines"<|AS "bytes.splitlines",Bf T<|Ah<|AS "bytes.splitlines",CP T (n+4) (Ah<|AS "bytes.splitlines") [AJ<|AF x,BZ J]<|AL<|AV<|CU<|AF x,H7 T (n+4) (AJ<|AF y) "splitlines"<|AS "bytes.splitlines",Bf T<|Ah<|AS "bytes.splitlines",CP T (n+4) (Ah<|AS "bytes.splitlines") [AJ<|AF y,BZ J]<|AL<|AV<|CU<|AF y,H7 T (n+4) (AJ<|AF z) "splitlines"<|AS "bytes.splitlines",Bf T<|Ah<|AS "bytes.splitlines",CP T (n+4) (Ah<|AS "bytes.splitlines") [AJ<|AF z,BZ J]<|AL<|AV<|CU<|AF z,
   CP T (n+4) Cd [AL<|AV<|CU<|AF x,AL<|AV<|CU<|AF y,AL<|AV<|CU<|AF z] gd,Bf T Cd] P.O ⋯ ⟨DE,A3,DX P.O hx,DE,A3,DX P.O hy,DE,A3,DX P.O hz,ag,kc,AI⟩) KE S9 λc2 b0 s10 b1 r=>?_
 have a6:bB.drop 9=BA 9 bB::bB.drop 10:=by kernel_rfl!
 show Ao _ _ (Ve ([] ++bB.drop 9) env) _ _ _;rw[Hx,a6];refine DQ ?_;have kp:∀(s':Bq),C1 T s10.heap s'.heap->∀b o,¬T.Tab b->AA s.heap b=D o->AA s'.heap b=D o:= λs' N b o nt e=>N b o nt<|r.wr.keep b o e nt;refine RJ (y:=S "merged_content") (x:=S "_merge3_to_bytes") (es:=HP<|Hz<|BA 9 bB) (ds:=[gd]) (f:=1020) (l:=env::l) (as:=[]) (cs:=[]) P.O ⋯ ⋯ B KE r j ⋯ ⋯ AI (B6 P.toHN 2 1020 1019 (A6 58) (S "_merge3_to_bytes") AN ⋯ ⋯ ⋯ B B) (sH P (n+2) G k ok hg g1) (λs' N i'=>(r.ext P.O N i').AEz KE.kind (hL.trans<|BI D hLo.symm) fr<|kp s' N) λa1 e b2 Q b3 a4=>?_;exact gz j hL (F4 _) fr (kp a1 Q) a4 λa0 a9=>KR e a0 a9
end
section
open PySem.Builtin
theorem yD(O:Cr T)(K:DG T env G)(z:CY x G.names=D IP)(h:G.glob x=D (Ah w))(u:C9 x=J)(d:Cm T s)(q:Hs T X s.heap)(k:Q w s):Ao (M T) A (IC (Bu x pos) env) Q E s:=by
 refine Ap (K.glob x _ h) λv e r=>?_;have tv:=r s X d q;obtain rfl:=tv.inv;have j:env.kindOf x=D IP:=by rw[K.kindOf,z]
 have l:=C9.a u;rcases e with e|⟨y,e,i⟩
 ·exact Mo K.kind j (AFA (by rw[K.dO];exact d.g O) e k) l
 ·exact Mo K.kind j (WC (by rw[K.dO];exact d.g O) y (by rw[K.blt];exact d.b O) ((O.boot x i).trans e) k) l
theorem Sx.AEy(O:Cr T){ad:Bt->I Az}(i:Sx T n A X env pv Z ad s)(kp:∀b o,¬T.Tab b->b≠env.locals->AA s.heap b=D o->AA s'.heap b=D o)(hl:∀o,AA s.heap env.locals=D o->∃sl,AA s'.heap env.locals=D {o with slots:=sl})(I':Cm T s'):Sx T n A X env pv Z ad s':=by
 have up:Up s.heap X s'.heap X:= λb o e nx=>⟨kp b o (λq=>nx<|i.x.tab b q) (λq=>nx<|q▸i.wr.xl) e,nx⟩;have Q:∀ {m},s.heap.Ns env.locals m->s'.heap.Ns env.locals m:= λ {m} ⟨o,es,ep,j,L,hr⟩=>let⟨sl,h⟩:=hl o j;⟨_,es,ep,h,L,hr⟩;have a2:∀ {c v},s.heap.IsCell c v->c≠env.locals:=by rintro c v ⟨o,j,L⟩ rfl;refine EX i.wr.ns λm o' es ep a3 a0 _=>?_;obtain rfl:=AE<|j.symm.trans a3;(rw[L]at a0;cases a0)
 have C:∀ {c v},s.heap.IsCell c v->s'.heap.IsCell c v:= λ {c v} h=>by have G:=a2 h;refine Ap h λo j L=>?_;exact⟨o,kp c o (i.inv.Bn j<|by rw[L];exact K3 B) G j,L⟩
 have rd:∀ {y u},Rd env s.heap y u->Rd env s'.heap y u:=by
  rintro y u (⟨hk,m,hm,hv⟩|⟨hk,c,hc,hv⟩)
  ·exact Ax ⟨hk,m,Q hm,hv⟩
  ·exact BC ⟨hk,c,hc,C hv⟩
 refine Dx i.wr.ns λm0 a4=>?_;refine⟨⟨i.a,I',⟨i.x.tab,λb hb=>?_⟩,λp hp=>?_⟩,⟨i.wr.nd,⟨m0,Q a4⟩,i.wr.xl,i.wr.zl,λy c G h2=>(by(refine F3 (i.wr.cell y c G h2) λa1 r=>?_;obtain⟨v,hv⟩:=a1);exact⟨⟨v,C hv⟩,r⟩),i.wr.apart,i.wr.own,i.wr.inj,λb o e t=>kp b o t (λq=>by rw[q,i.wr.zl]at e;exact EN e)<|i.wr.keep b o e t,i.wr.base⟩⟩
 ·rcases i.x.kind b hb with h|⟨G,o,j,so⟩
  ·exact Ax h
  ·by_cases q:b=env.locals
   ·subst q;refine Dx (hl o j) λsl h=>?_;exact BC ⟨G,_,h,so⟩
   ·exact BC ⟨G,o,kp b o (i.inv.KA j so) q j,so⟩
 ·have N:=i.f p hp;obtain⟨y,w⟩:=p;cases w with
  |no=>trivial
  |d t=>refine Ap N λu r tr=>?_;exact⟨u,rd r,tr.up O up⟩
  |own fx ow=>
   refine FD N λr xa w a5=>?_;exact⟨rd r,xa,w.up O up λb hb o j=>by refine Ap (w.fields b hb) λob G h2=>?_;exact kp b o (i.inv.Bn G h2) (i.wr.own y ow hp b hb).2.1 j,a5⟩
theorem mD(P:Bw T){ad:Bt->I Az}{st b0 h0:Ct}
  (b5:st= .Try [b0] [.ExceptHandler (D (Bu (S "ValueError") np)) AQ [Fg [Bu y yp] (Gj .none (rX (Hz h0)) (rY (Hz h0))) (Rv h0)] hp] [] [] tp)(c3:b0=Oa y b0)(a5:Hz b0=Vy x (Hz b0))(b8:HP (Hz b0)=es)(K:DG T env G)(a:Sx T n A X env pv Z ad s)(a4:A.frames=D [env])(hf:env.frame=D env.locals)
  (b4:CY (S "ValueError") G.names=D IP)(b3:G.glob (S "ValueError")=D (Ah (Ae "ValueError")))(hy:JK G y=J)(b2:nf pv y=J)
  (hg:O0 G pv x=D (Ah (AH f)))(he:Gm (Rl (vE T n 20 G pv) es as)=D (ds,cs))(c2:ER cs)(kp:Bf T (Ah (AH f)))(c4:Qo T n f ds)
  (k:∀s',Sx T n A X env (D3 y (mw BK) pv) Z ad s'->Q HK s'):Ao (M T) A (exec st env) Q E s:=by
 rw[b5];have fr:∀s',C1 T s.heap s'.heap->Cm T s'->Q0 T s'.heap [env] := λs' x' i'=>(a.ext P.O x' i').AEz (s₀:=s') (l:=[]) K.kind hf (λ_ h=>Ay h Au) λb o _ e=>e;refine AF2<|DQ<|RJ P.O c3 a5 b8 K a a4 hg he c2 kp c4 fr λc5 e d C a1 b7=>?_;have S₁:=a.ext P.O C a1;refine UB b7 λa6 a0 f1 f2 f3 f4 f5 f6=>?_;have r:IH [env] =[env.locals] :=by unfold IH;rw[HF,hf];rfl
 refine wpAny_looks_onW a4 hf f1 λa3 j v=>?_;refine AKU (s:= {d with heap:=a3}) j λi fly₄ u=>?_;refine wpAny_handleBy_builtin (X:= "ValueError") (T:= "ValueError") (b:=J) (by rw[JP];kernel_rfl) (by rw[JP];kernel_rfl) (by rw[JP];kernel_rfl) ?_;have g:∀h',a6.StaysIn h'->(∀o,AA d.heap env.locals=D o->(∀vs,o.data≠BF vs)->∃q,AA h' env.locals=D {o with slots:=q})->Sx T n A X env pv Z ad {d with heap:=h'} := λh' sk hl=>by refine S₁.AEy P.O (s':= {d with heap:=h'}) (λb o nt nb e=>sk b o<|f2 b o nt (by rw[r];simpa using nb) e) (λo e=>?_)<|Cm.ofH P.O f3 sk f4 f5;refine Dx (f6 env.locals (by rw[r];exact B0 _) o e) λq h1=>?_;refine EX S₁.wr.ns λm o' c6 c7 b6 c1 _=>?_;obtain rfl:=AE<|e.symm.trans b6;refine Dx (hl {o with slots:=q} h1<|by rw[c1];exact K3 B) λz h2=>?_;exact⟨z,h2⟩
 have N:∀o,AA d.heap env.locals=D o->(∀vs,o.data≠BF vs)->∃q,AA i env.locals=D {o with slots:=q} := λo e hd=>let⟨q,h1⟩:=v _ o e hd;let⟨z,h2⟩:=u _ {o with slots:=q} h1 hd;⟨z,h2⟩;have S₄:=g i fly₄.1 N;have b1:=fly₄.2.2.2;refine Ap (AH4 fly₄) λoe c0 b9=>?_;refine yD P.O K b4 b3 ⋯ S₄.inv S₄.x ⟨B,⟨oe,c0,b9⟩,?_⟩;rw[Dh B];refine wpAny_setFlight_noneW (s:= {d with heap:=i}) fly₄.1 fly₄.2.2.1 b1 λa2 k1 k2 k3 k4=>?_;have a9:=g a2 k1 λo e hd=>(by refine Dx (N o e hd) λq h1=>?_;exact⟨q,k4 _ {o with slots:=q} h1 hd⟩);refine DQ<|HD (ACY ?_) B;exact MJ P.O a9 YU K.kind ⟨K.stores hy,Nf b2⟩ λL a8=>KV<|k L a8
structure LF where
 GQ:PV:=Af
 head:PV:=Af
 total:PV:=Af
 Aw:PV:=Af
 rows:PV:=Af
 start:PV:=Af
 Dl:PV:=Af
 changes:PV:=Af
 IY:PV:=Af
 number:PV:=Af
 k:PV:=Af
 rest:PV:=Af
 kind:PV:=Af
 pick:PV:=Af
 Gy:PV:=Af
 whole:PV:=Af
 R1:PV:=Af
 mask:PV:=Af
 JE:PV:=Af
 last:PV:=Af
 M8:PV:=Af
 ids:PV:=Af
 merged:PV:=Af
 met:PV:=Af
 fresh:PV:=Af
 Ll:PV:=Af
 base:PV:=Af
 Co:PV:=Af
 BH:PV:=Af
 texts:PV:=Af
 Mb:PV:=Af
 QR:PV:=Af
 LY:PV:=Af
 N3:PV:=Af
 alike:PV:=Af
 joined:PV:=Af
 left:PV:=Af
 bare:PV:=Af
 some:PV:=Af
 parts:PV:=Af
noncomputable def F6(a:I Aa)(f:LF):BD:=
 [(S "script",mw<|AL<|AZ a),(S "numbers",f.GQ),(S "head",f.head),(S "total",f.total),(S "manner",f.Aw),(S "rows",f.rows),(S "start",f.start),(S "kin",f.Dl),(S "changes",f.changes),(S "crossed",f.IY),(S "number",f.number),(S "k",f.k),(S "rest",f.rest),(S "kind",f.kind),(S "pick",f.pick),(S "elders",f.Gy),(S "whole",f.whole),(S "folk",f.R1),(S "mask",f.mask),(S "elder",f.JE),(S "last",f.last),(S "plans",f.M8),(S "ids",f.ids),(S "merged",f.merged),(S "met",f.met),(S "fresh",f.fresh),(S "sides",f.Ll),(S "base",f.base),(S "ours",f.Co),(S "theirs",f.BH),(S "texts",f.texts),(S "blobs",f.Mb),(S "due",f.QR),(S "merger",f.LY),(S "told",f.N3),(S "alike",f.alike),(S "joined",f.joined),(S "left",f.left),(S "bare",f.bare),(S "some",f.some),(S "parts",f.parts)]
noncomputable def LW:I Stmt:=Cc<|A6 82
noncomputable def GW:GV:=⟨(D2<|A6 82).names,HA,[S "kin",S "changes",S "whole",S "folk"],AQ⟩
noncomputable def CF(a:I Aa):I Int:=De AQ (D 4) a
noncomputable def D9(ns:I Aa):Int:=ns.headD 0
noncomputable def QL(ns:I Aa):Int:=(ns.sum.fdiv 6+U ns).fmod 3
noncomputable def HS(a:Aa):Int:=match a.fmod 2==1 with
 |true=>BG (B1 365<|(a.fdiv 12).fmod 512) 512
 |false=>B1 365<|(a.fdiv 12).fmod 512
noncomputable def It(a:Aa):Bool:=(a.fdiv 2).fmod 2==1
noncomputable def Q1(a:Aa):I (I Aa):=match It a with
 |true=>[[],[0],[0],[1,2],[2,1]]
 |false=>[[],[0],[0]]
noncomputable def TN(a d:Aa):I Int:=match It a with
 |true=>[0,Dj d 1,Dj (d.fdiv 81+a) 2,Dj (d.fdiv 9+1) 3,Dj (a.fdiv 9+2) 4]
 |false=>[0,Dj d 1,Dj (d.fdiv 81+a) 2]
noncomputable def IJ(Dl:I (I Aa)):I DV:=Dl.map λl=>AL<|AZ l
noncomputable def VX(Dl:I (I Aa)):PV:=BP AQ<|JW<|IJ Dl
noncomputable def ZP(a:I Aa):PV:=BP AQ<|JW<|AZ a
theorem Nz:De l h (AZ xs)=AZ (De l h xs):=by unfold De AZ;rw[Ai,<-ADY,<-ADX]
noncomputable def lf1(s:I Aa):LF:= {GQ:=mw<|AL<|AZ<|CF s,head:=mw<|AM<|D9<|CF s,total:=mw<|AM (CF s).sum,Aw:=mw<|AM<|QL<|CF s,rows:=mw<|AL<|AV<|Jw (D9<|CF s) (CF s).sum,start:=mw<|AM<|HS<|D9<|CF s,Dl:=VX<|Q1<|D9<|CF s,changes:=ZP<|TN (D9<|CF s) (CF s).sum,IY:=mw (BZ<|It<|D9<|CF s)}
theorem sL(s:I Aa):(CF s).length<=U s:=by unfold CF De;rw[GK,Eg];exact Vn<|BO _
def TP(T:Th)(k:Aj)(A:Hk)(env:Pc)(pv:BD)(ss:I Ct)(fl:Fl)(EA:BD):Prop:=
 ∀X Z ad s Q E,Sx T k A X env pv Z ad s->
  (∀f X' Ez s',Rj X X' Z->bV T s'.heap X' fl f->Sx T k A X' env EA Z Ez s'->Q f s')->Ao (M T) A (Ve ss env) Q E s
theorem N0(K:DG T env G)(i:ss=s1::r)(y:Fn T k G pv s1 Aq BE)(x:TP T k A env BE r fl Fh):TP T k A env pv ss fl Fh:= λX Z ad s Q E a L=>by
 rw[i];refine DQ<|y env K A X Z ad s _ E a (λz f d X' Ez s' hr u j C=>?_) λe d X' Ez s' hr=>by cases hr.1
 obtain⟨e1,e2⟩:=hr;subst e1 e2;cases j;exact x X' Z Ez s' Q E C λf l g h v j q=>L f l g h (u.trans v) j q
theorem D5(i)(a:List Stmt)(K:DG T env G)(d:ss=BA i a::a.drop (i+1))(g:Fn T k G pv (BA i a) .next BE)(e:TP T k A env BE (a.drop (i+1)) fl Fh):TP T k A env pv ss fl Fh:=N0 K d g e
theorem Vz(O:Cr T)(h:TP T k A env (Yc x pv) ss fl EA):TP T k A env pv ss fl EA:= λX Z ad s Q E a r=>by refine Ap (a.freeze (x:=x) O) λX' q u=>?_;exact h X' Z ad s Q E q λf g d e j l i=>r f g d e (u.trans j) l i
theorem Ge.toA(h:Ge T k G pv ss fl EA)(K:DG T env G)(C:fl≠mx):TP T k A env pv ss fl EA:= λX Z ad s Q E i KQ=>
 h env K A X Z ad s Q E i (λL f j X' Ez s' hr y u N=>by obtain⟨e1,e2⟩:=hr;subst e1 e2;exact KQ f X' Ez s' y u N) λe j X' Ez s' hr=>Ay hr.1.symm C
theorem sM(P:Bw T)(K:DG T env GW)(n:Aj)(s:I Aa)(hs:U s<=63):∀EA fl,TP T (n+1) A env (F6 s (lf1 s)) (LW.drop 11) fl EA->TP T (n+1) A env (F6 s {}) LW fl EA:= λEA fl g=>by
 have Q:=Ak;have v:=sL s;generalize q:CF s=ns at v;have sl:Fm T (n+1) (AL<|AZ s) AQ (D 4) (AL<|AZ ns):=by
  have:=Gw (T:=T) (n:=n+1) P.O (ds:=AZ s) (l:=AQ) (h:=D 4)<|by rw[Cy];exact AO (by assumption)<|by decide
  rwa[Nz,show De AQ (D 4) s=ns from q]at this
 refine D5 0 LW K (BE:=F6 s {GQ:=mw (AL<|AZ ns)}) ⋯ (As [.t<|AL<|AZ ns] [Fm T (n+1) (AL<|AZ s) AQ (D 4)<|AL<|AZ ns] P.O ⋯ ⟨sl,AI⟩) ?_;have s1:Fn T (n+1) GW (F6 s {GQ:=mw (AL<|AZ ns)}) (BA 1 LW) Aq (F6 s {GQ:=mw<|AL<|AZ ns,head:=mw (AM<|D9 ns)}):=by
  have N:FP T (n+1) (AL<|AZ ns) (!(AZ ns).isEmpty):=UH<|by rw[Cy];exact DT [_,_,_] [.l A9<|.n 63,.e BQ<|.n 16777216,.l B5 A9] B5 BQ [1,-1,1] B hs Q v
  cases ns with
  |nil=>exact As [.b AB,.b AB] [FP T (n+1) (AL<|AZ []) AB,AB=AB] P.O ⋯ ⟨N,B,AI⟩
  |cons h t=>exact As [.b J,.b J,.t<|AM h] [FP T (n+1) (AL<|AZ<|h::t) J,CC T (n+1) (AL<|AZ<|h::t) (AM 0)<|AM h,J=J] P.O ⋯ ⟨N,Nx (i:=0) B<|DT [_,_] [.l A9<|.n 63,.l BQ A9] BQ (.n 1000) [1,1] B hs v,B,AI⟩
 refine D5 1 LW K ⋯ s1 ?_
 let a:=D9 ns
 let d:=ns.sum
 refine D5 2 LW K (BE:=F6 s {GQ:=mw<|AL<|AZ ns,head:=mw<|AM a,total:=mw (AM d)}) ⋯ (As [.t<|AM d] [CP T (n+1) (Ah<|AS "sum") [AL<|AZ ns]<|AM d,Bf T<|Ah<|AS "sum"] P.O ⋯ ⟨ABE P.O,A3,AI⟩) ?_;have ln:CP T (n+1) (Ah<|AS "len") [AL<|AZ ns] (AM (U ns:Aa)):=Cy ns▸FR (by rw[Cy];exact DT [_,_,_] [.l A9<|.n 63,.e BQ<|.n 16777216,.l B5 A9] B5 BQ [1,-1,1] B hs Q v);refine D5 3 LW K (BE:=F6 s {GQ:=mw<|AL<|AZ ns,head:=mw<|AM a,total:=mw<|AM d,Aw:=mw (AM<|QL ns)}) ⋯ (As [.t<|AM (U ns:Aa)] [CP T (n+1) (Ah<|AS "len") [AL<|AZ ns]<|AM (U ns:Aa),Bf T<|Ah<|AS "len"] P.O ⋯ ⟨ln,A3,AI⟩) ?_
 let u:LF:= {GQ:=mw<|AL<|AZ ns,head:=mw<|AM a,total:=mw<|AM d,Aw:=mw<|AM<|QL ns,rows:=mw (AL<|AV<|Jw a d)}
 refine D5 4 LW K (BE:=F6 s u) ⋯ (As [.t<|AL<|AV<|Jw a d] [CP T (n+1) (Ah<|AH 1208) [AM a,AM d]<|AL<|AV<|Jw a d,Bf T<|Ah<|AH 1208] P.O ⋯ ⟨vu P.toHN n a d,B6 P.toHN 12 1208 1207 (A6 71) (S "_law_rows") AN ⋯ ⋯ ⋯ B B,AI⟩) ?_
 let st0:Int:=B1 365<|(a.fdiv 12).fmod 512
 refine D5 5 LW K (BE:=F6 s {u with start:=mw (AM st0)}) ⋯ (As [] [] P.O ⋯ AI) ?_;have s6:Fn T (n+1) GW (F6 s {u with start:=mw (AM st0)}) (BA 6 LW) Aq (F6 s {u with start:=mw (AM<|HS a)}):=by
  cases y:a.fmod 2==1 with
  |true=>
   have e:HS a=BG st0 512:=by unfold HS;rw[y]
   rw[e];exact As [.b J] [(a.fmod 2==1)=J] P.O ⋯ ⟨y,AI⟩
  |false=>
   have e:HS a=st0:=by unfold HS;rw[y]
   rw[e];exact As [.b AB] [(a.fmod 2==1)=AB] P.O ⋯ ⟨y,AI⟩
 refine D5 6 LW K ⋯ s6 ?_
 let L:LF:= {u with start:=mw (AM<|HS a)}
 have j:=B6 P.toHN 14 1215 1214 (A6 72) (S "_law_turns") AN ⋯ ⋯ ⋯ B B;refine D5 7 LW K (BE:=F6 s {L with Dl:=VX [[],[0],[0]] }) ⋯ (As [] [] P.O ⋯ AI) ?_;refine D5 8 LW K (BE:=F6 s {L with Dl:=VX [[],[0],[0]],changes:=ZP [0,Dj d 1,Dj (d.fdiv 81+a) 2] }) ⋯ (As [.t<|AM<|Dj d 1,.t<|AM<|Dj (d.fdiv 81+a) 2] [CP T (n+1) (Ah<|AH 1215) [AM d,AM 1]<|AM<|Dj d 1,Bf T<|Ah<|AH 1215,CP T (n+1) (Ah<|AH 1215) [AM<|d.fdiv 81+a,AM 2]<|AM<|Dj (d.fdiv 81+a) 2,Bf T<|Ah<|AH 1215] P.O ⋯ ⟨Np P.toHN n _ _,j,Np P.toHN n _ _,j,AI⟩) ?_
 let z:LF:= {L with Dl:=VX [[],[0],[0]],changes:=ZP [0,Dj d 1,Dj (d.fdiv 81+a) 2],IY:=mw (BZ<|It a)}
 refine D5 9 LW K (BE:=F6 s z) ⋯ (As [] [] P.O ⋯ AI) ?_;have e1:lf1 s= {z with Dl:=VX<|Q1 a,changes:=ZP (TN a d)} :=by unfold lf1;rw[q]
 rw[e1]at g;refine D5 10 LW K ⋯ ?_ g;refine Ub (m:=20) (as:=[]) (cs:=[]) (c:=It a) (bit:=It a) P.O ⋯ ⋯ AI B (λr=>?_) λr=>?_
 ·have C:Q1 a=[[],[0],[0],[1,2],[2,1]] :=by unfold Q1;rw[r]
  have G:TN a d=[0,Dj d 1,Dj (d.fdiv 81+a) 2,Dj (d.fdiv 9+1) 3,Dj (a.fdiv 9+2) 4] :=by unfold TN;rw[r]
  rw[C,G];refine Qj (x:=S "kin") P.O<|Qj (x:=S "changes") P.O ?_;rw[show Yc (S "changes") (Yc (S "kin")<|F6 s z)=F6 s {z with Dl:=mw<|AL<|IJ [[],[0],[0]],changes:=mw (AL<|AZ [0,Dj d 1,Dj (d.fdiv 81+a) 2])} by kernel_rfl!];exact Ee [.t<|AM<|Dj (d.fdiv 9+1) 3,.t<|AM<|Dj (a.fdiv 9+2) 4] [3+2<=AY,CP T (n+1) (Ah<|AH 1215) [AM<|d.fdiv 9+1,AM 3]<|AM<|Dj (d.fdiv 9+1) 3,Bf T<|Ah<|AH 1215,CP T (n+1) (Ah<|AH 1215) [AM<|a.fdiv 9+2,AM 4]<|AM<|Dj (a.fdiv 9+2) 4,Bf T<|Ah<|AH 1215,3+2<=AY] P.O ⋯ ⟨by exact BM _ _,Np P.toHN n _ _,j,Np P.toHN n _ _,j,by exact BM _ _,AI⟩
 ·have C:Q1 a=[[],[0],[0]] :=by unfold Q1;rw[r]
  have G:TN a d=[0,Dj d 1,Dj (d.fdiv 81+a) 2] :=by unfold TN;rw[r]
  rw[C,G];exact Ea ⋯
noncomputable def YA:I (I Aa):=[[1,2],[2,1],[0,1],[2,0]]
noncomputable def RK(p:Aa):I Int:=YA.getD (Bp p) []
noncomputable def Oi(k p:Aa):I Int:=(RK p).map λa=>k-1-a
abbrev Kc:=I (I Aa)×I Aa
noncomputable def EE(x:Aa):Int:=x.fdiv 4
noncomputable def FE(x:Aa):Int:=x.fmod 4
noncomputable def VY(k x:Aa):I Int:=match Bx (1<FE x)with
 |true=>Oi k<|FE<|EE x
 |false=>De AQ (D 1)<|Oi k<|FE<|EE x
noncomputable def chE(s:Kc)(x:Aa):Int:=match FE x==1 with
 |true=>s.2.getD (U s.1-1) 0
 |false=>Dj (EE<|EE x)<|U s.1
noncomputable def HT(s:Kc)(x:Aa):Kc:=(s.1++[VY (U s.1) x],s.2++[chE s x])
noncomputable def KF:Stmt:=BA 11 LW
noncomputable def KB:I Stmt:=DR KF
noncomputable def ABy:Expr:=Hz<|BA 3 KB
theorem mE(x:Aa):0<=FE x/\FE x<4:=⟨Br _<|by decide,DC _<|by decide⟩
theorem yF(P:Bw T)(n:Aj)(k:Aa):∀l,EO T n (EY GW (Bd ABy)) [(S "k",mw (AM k))] (PY ABy) (FT ABy) (FY ABy) (AZ l) (AZ (l.map λa=>k-1-a)):=by
 intro l;induction l with
 |nil=>
  exact Mi
 |cons f l d=>
  exact HL (tv:=[(S "far",mw<|AM f)]) ⋯ (E5 ⋯) (EC [] [] P.O ⋯ AI) d
theorem yG(P:Bw T)(n:Aj)(s:I Aa)(f:LF)(c:Kc)(x:Aa)(h1:U c.1=U c.2)(h2:3<=U c.1)(L:U c.1<=90)(hf:f.Dl=VX c.1)(hg:f.changes=ZP c.2)(hx:f.number=mw (AM x)):
  Ge T (n+1) GW (F6 s f) KB Aq (F6 s {f with k:=mw (AM (U c.1:Aa)),rest:=mw (AM (EE (EE x))),kind:=mw (AM (FE x)),pick:=mw (AM (FE (EE x))),Gy:=mw (AL (AZ (Oi (U c.1) (FE (EE x))))),Dl:=VX (HT c x).1,changes:=ZP (HT c x).2}):=by
 obtain⟨GQ,a2,q,Aw,rows,y,Dl,changes,IY,a8,k,rest,kind,pick,Gy,j,R1,Q,JE,a0,M8,b0,a,a9,C,Ll,a5,Co,BH,u,Mb,QR,LY,N3,G,d,left,a6,some,z⟩:=f
 dsimp only at hf hg hx
 subst hf hg hx;have N:=Ak
 let f0:LF:=⟨GQ,a2,q,Aw,rows,y,VX c.1,ZP c.2,IY,mw<|AM x,k,rest,kind,pick,Gy,j,R1,Q,JE,a0,M8,b0,a,a9,C,Ll,a5,Co,BH,u,Mb,QR,LY,N3,G,d,left,a6,some,z⟩
 have lk:(IJ c.1).length=U c.1:=Ai ..;have ln:CP T (n+1) (Ah<|AS "len") [AL<|IJ c.1] (AM (U c.1:Aa)):=lk▸FR (DT [_,_,_] [.l A9<|.n 90,.e BQ<|.n 16777216,.e B5 A9] B5 BQ [1,-1,1] B L N lk)
 let f1:LF:= {f0 with k:=mw (AM (U c.1:Aa))}
 refine A7 0 KB (BE:=F6 s f1) ⋯ (As [.bw,.t<|AM (U c.1:Aa)] [CP T (n+1) (Ah<|AS "len") [AL<|IJ c.1]<|AM (U c.1:Aa),Bf T<|Ah<|AS "len"] P.O ⋯ ⟨ln,A3,AI⟩) ?_
 let f2:LF:= {f1 with rest:=mw<|AM<|EE x,kind:=mw (AM<|FE x)}
 refine A7 1 KB (BE:=F6 s f2) ⋯ (As [.t<|FI [AM<|EE x,AM<|FE x]] [CP T (n+1) (Ah<|AS "divmod") [AM x,AM 4]<|FI [AM<|EE x,AM<|FE x],Bf T<|Ah<|AS "divmod"] P.O ⋯ ⟨W8 P.O (by decide)<|by decide,A3,AI⟩) ?_
 let f3:LF:= {f2 with rest:=mw<|AM<|EE<|EE x,pick:=mw (AM<|FE<|EE x)}
 refine A7 2 KB (BE:=F6 s f3) ⋯ (As [.t<|FI [AM<|EE<|EE x,AM<|FE<|EE x]] [CP T (n+1) (Ah<|AS "divmod") [AM<|EE x,AM 4]<|FI [AM<|EE<|EE x,AM<|FE<|EE x],Bf T<|Ah<|AS "divmod"] P.O ⋯ ⟨W8 P.O (by decide)<|by decide,A3,AI⟩) ?_
 let p:=FE<|EE x
 have hp:=mE<|EE x;have gp:CC T (n+1) (AL<|IJ YA) (AM p) (AL<|AZ<|RK p):=Er hp.1 (by
  have:Bp p<4:=by show(FE<|EE x).toNat<4;exact UA (c:=4) hp
  show(YA.map λl=>AL<|AZ l)[Bp p]? =_;rw[Bv];unfold RK;have hl:=this;rw[AR hl,Al,AR hl];rfl)<|by rw[Ak];show 4<=_;exact BM _ _
 let el:=Oi (U c.1:Aa) p
 have pl:(RK p).length<=2:=by
  have:Bp p<4:=by show(FE<|EE x).toNat<4;exact UA (c:=4) hp
  unfold RK YA;rcases Bp p with _|_|_|_|m<;>simp_all
 have b1:U el<=2:=by show((RK p).map _).length<=2;rw[Ai];exact pl
 let f4:LF:= {f3 with Gy:=mw (AL<|AZ el)}
 refine A7 3 KB (BE:=F6 s f4) ⋯ (GJ P.O (vs:=AZ el) ⋯ ⋯ (D7 [.t<|AL<|AZ<|RK p] (AZ<|RK p) [CC T (n+1) (AL<|IJ YA) (AM p)<|AL<|AZ<|RK p] P.O ⋯ ⋯ ⋯ ⋯ ⟨gp,AI⟩ (by rw[Cy];exact AO (by assumption)<|by decide)<|yF P (n+1) (U c.1:Aa)<|RK p) ⋯) ?_;have a1:VX (c.1++[VY (U c.1) x])=BP AQ (JW<|IJ c.1++[AL<|AZ<|VY (U c.1) x]):=by unfold VX IJ;rw[Cv];rfl
 have a4:ZP (c.2++[chE c x])=BP AQ (JW<|AZ c.2++[AM<|chE c x]):=by unfold ZP AZ;rw[Cv];rfl
 have s4:Fn T (n+1) GW (F6 s f4) (BA 4 KB) Aq (F6 s {f4 with Dl:=BP AQ (JW<|IJ c.1++[AL<|AZ<|VY (U c.1) x])}):=by
  have sl:Fm T (n+1) (AL<|AZ el) AQ (D 1) (AL<|AZ<|De AQ (D 1) el):=by
   have:=Gw (T:=T) (n:=n+1) P.O (ds:=AZ el) (l:=AQ) (h:=D 1)<|by rw[Cy];exact AO (by assumption)<|by decide
   rwa[Nz]at this
  cases g:Bx (1<FE x)with
  |true=>
   have e:VY (U c.1) x=el:=by unfold VY;rw[g]
   rw[e];exact As [.b J] [Bx (1<FE x)=J,(IJ c.1).length<=AY] P.O ⋯ ⟨g,DT [_,_,_] [.l A9<|.n 90,.e BQ<|.n 16777216,.e B5 A9] B5 BQ [1,-1,1] B L N lk,AI⟩
  |false=>
   have e:VY (U c.1) x=De AQ (D 1) el:=by unfold VY;rw[g]
   rw[e];exact As [.b AB,.t<|AL<|AZ<|De AQ (D 1) el] [Fm T (n+1) (AL<|AZ el) AQ (D 1)<|AL<|AZ<|De AQ (D 1) el,Bx (1<FE x)=AB,(IJ c.1).length<=AY] P.O ⋯ ⟨sl,g,DT [_,_,_] [.l A9<|.n 90,.e BQ<|.n 16777216,.e B5 A9] B5 BQ [1,-1,1] B L N lk,AI⟩
 refine A7 4 KB ⋯ s4 ?_;show Ge T (n+1) GW _ _ _<|F6 s {f4 with Dl:=VX<|c.1++[VY (U c.1) x],changes:=ZP (c.2++[chE c x])};rw[a1,a4];refine Cq (s1:=BA 5 KB) (r:=[]) ⋯ ?_<|Ea B
 let f5:LF:= {f4 with Dl:=BP AQ (JW<|IJ c.1++[AL<|AZ<|VY (U c.1) x])}
 have a3:(AZ c.2).length=U c.2:=Cy _;cases g:FE x==1 with
 |true=>
  have e:chE c x=c.2.getD (U c.1-1) 0:=by unfold chE;rw[g]
  rw[e];have gc:CC T (n+1) (AL<|AZ c.2) (AM<|(U c.1:Aa)-1) (AM<|c.2.getD (U c.1-1) 0):=by
   have:=Nx (T:=T) (n:=n+1) (l:=c.2) (i:=U c.1-1) (v:=c.2.getD (U c.1-1) 0) (by have:=FN (WT<|Dz (by decide) h2) h1;rw[AR this,Al,AR this];rfl)<|DT [_,_] [.e A9 BQ,.l A9<|.n 90] BQ (.n 1000) [-1,1] B h1 L
   rwa[show((U c.1-1:Aj):Aa)=(U c.1:Aa)-1 from(SM<|T9<|AO (by decide) h2).symm]at this
  exact As [.bw,.b J,.t<|AM<|c.2.getD (U c.1-1) 0] [CC T (n+1) (AL<|AZ c.2) (AM<|(U c.1:Aa)-1)<|AM<|c.2.getD (U c.1-1) 0,(FE x==1)=J,(AZ c.2).length<=AY] P.O ⋯ ⟨gc,g,DT [_,_,_,_] [.e A9 BQ,.l A9<|.n 90,.e B5<|.n 16777216,.e Jj BQ] Jj B5 [-1,1,-1,1] B h1 L N a3,AI⟩
 |false=>
  have e:chE c x=Dj (EE<|EE x) (U c.1):=by unfold chE;rw[g]
  rw[e];exact As [.bw,.b AB,.t<|AM<|Dj (EE<|EE x)<|U c.1] [CP T (n+1) (Ah<|AH 1215) [AM<|EE<|EE x,AM (U c.1:Aa)]<|AM<|Dj (EE<|EE x)<|U c.1,Bf T<|Ah<|AH 1215,(FE x==1)=AB,(AZ c.2).length<=AY] P.O ⋯ ⟨Np P.toHN n _ _,B6 P.toHN 14 1215 1214 (A6 72) (S "_law_turns") AN ⋯ ⋯ ⋯ B B,g,DT [_,_,_,_] [.e A9 BQ,.l A9<|.n 90,.e B5<|.n 16777216,.e Jj BQ] Jj B5 [-1,1,-1,1] B h1 L N a3,AI⟩
noncomputable def sbE(e:A2):Expr:=if h:e.ctorIdx=21 then Dv (motive_1:= λ_=>A2) e h λe _ _=>e else e
noncomputable def sbI(e:A2):Expr:=if h:e.ctorIdx=21 then Dv (motive_1:= λ_=>A2) e h λ_ i _=>i else e
noncomputable def sbP(e:A2):Pos:=if h:e.ctorIdx=21 then Dv (motive_1:= λ_=>LH) e h λ_ _ p=>p else BN
theorem hU(O:Cr T){st:Ct}(d:st=Fg [H9 (Bu x p) (sbI (O7 st)) (sbP (O7 st))] (Hz st) (Rv st))(g:C9 x=J)(e:CY x pv=D (BP f (nD ks ds)))(h:oV T k G pv (Hz st) vs)
  (a:UO (HC (Hz st) (D (H9 (Bu x p) (sbI (O7 st)) (sbP (O7 st)))) (Rv st).line (Px G.names))=D AB)(i:Gm (vE T k 20 G pv (sbI (O7 st)) as)=D (AJ kb,cs))(j:ER cs)(hz:U ks<=AY):Fn T k G pv st Aq (D3 x (BP f (nD (kb::ks) (AL vs::ds))) pv):= λenv K=>by
 rw[d];exact U7 O K.kind g (FF▸e) (K7 O h env K) ((Io O K 20).1 _ _ _ _ _ (HM i) j) hz ⟨B,B⟩<|K.zJ a
structure Lo where
 number:PV:=Af
 k:PV:=Af
 rest:PV:=Af
 kind:PV:=Af
 pick:PV:=Af
 Gy:PV:=Af
noncomputable def lf2(s:I Aa)(c:Kc)(o:Lo):LF:= {lf1 s with Dl:=VX c.1,changes:=ZP c.2,number:=o.number,k:=o.k,rest:=o.rest,kind:=o.kind,pick:=o.pick,Gy:=o.Gy}
theorem yH(P:Bw T)(n:Aj)(s:I Aa):∀l c o,U c.1=U c.2->3<=U c.1->U c.1+U l<=90->∃o',KN T (n+1) GW (Kk KF) KB (F6 s (lf2 s c o)) (AZ l) Aq (F6 s (lf2 s (l.foldl HT c) o')):=by
 intro l;induction l with
 |nil=>
  exactλc o _ _ _=>⟨o,.done⟩
 |cons x l h=>
  exactλc o g q d=>by rw[Ac]at d;have i:=yG P n s (lf2 s c {o with number:=mw (AM x)}) c x g q (DT [_,_] [.l (.a A9<|.a BQ DB)<|.n 90] A9 (.n 90) [1] B d) B B B;refine Dx (h (HT c x) {number:=mw<|AM x,k:=mw<|AM (U c.1:Aa),rest:=mw<|AM<|EE<|EE x,kind:=mw<|AM<|FE x,pick:=mw<|AM<|FE<|EE x,Gy:=mw (AL<|AZ<|Oi (U c.1)<|FE<|EE x)} (by unfold HT;simp only[Ad,Ac,BL];exact Yb [_,_] [.e A9 BQ] (.a A9<|.a Mr DB) (.a BQ<|.a Mr DB) [1] [-1] B B g) (by unfold HT;simp only[Ad];exact IQ<|by assumption)<|by unfold HT;simp only[Ad,Ac,BL];exact DT [_,_] [.l (.a A9<|.a BQ DB)<|.n 90] (.a (.a A9<|.a Mr DB) BQ) (.n 90) [1] B d) λo' j=>?_;exact⟨o',.step (Ec:=F6 s<|lf2 s c {o with number:=mw (AM x)}) ⋯ i j⟩
noncomputable def WF:Stmt:=BA 13 LW
noncomputable def WB:I Stmt:=DR WF
noncomputable def eF:Stmt:=BA 1 WB
noncomputable def eB:I Stmt:=DR eF
noncomputable def hV:Expr:=Hz<|BA 3 WB
structure Wc where
 whole:I Aa
 fk:Rows
 JO:I Rows
noncomputable def pJ(w:I Aa)(i:Aa):Int:=w.getD (Bp i) 0
noncomputable def LX(w:I Aa):I Aa->Aa->Aa
 |[],m=>m
 |e::l,m=>LX w l (BG m (pJ w e))
theorem sN:LX w [] m=(m):=B
theorem sO:LX w (e::l) m=(LX w l (BG m (pJ w e))):=B
noncomputable def Ik(Dl:I (I Aa))(k:Aj):I Int:=Dl.getD k []
noncomputable def RL(Dl:I (I Aa))(c:Wc)(k:Aj):Wc:=⟨c.whole++[LX c.whole (Ik Dl k)<|1*2^k],EZ k::c.fk,(Ik Dl k).map EZ::c.JO⟩
noncomputable def foO(c:Wc):PV:=BP AQ<|nD c.fk<|LV c.JO
theorem aN(P:Bw T)(n:Aj)(s:I Aa)(f:LF)(w:I Aa)(hw:f.whole=ZP w)(hl:U w<=900):∀(l:I Aa) m el,(∀e∈l,0<=e/\e<U w)->∃a1,KN T (n+1) GW (Kk eF) eB (F6 s {f with mask:=mw (AM m),JE:=el}) (AZ l) Aq (F6 s {f with mask:=mw (AM (LX w l m)),JE:=a1})
 |[],m,el,_=>⟨el,.done⟩
 |e::l,m,el,h=>by
  obtain⟨GQ,N,q,Aw,rows,u,Dl,a,IY,d,k,rest,L,C,Gy,a4,R1,mask,JE,G,M8,a3,i,a2,y,Ll,Q,Co,BH,r,Mb,QR,LY,N3,z,j,left,a0,some,v⟩:=f
  dsimp only at hw
  subst hw;refine Dx (aN P n s ⟨GQ,N,q,Aw,rows,u,Dl,a,IY,d,k,rest,L,C,Gy,ZP w,R1,mask,JE,G,M8,a3,i,a2,y,Ll,Q,Co,BH,r,Mb,QR,LY,N3,z,j,left,a0,some,v⟩ w B hl l (BG m<|pJ w e) (mw<|AM e) λx hx=>h x<|Cb _ hx) λa1 hr=>?_;have he:=h e<|B0 _;have g:CC T (n+1) (AL<|AZ w) (AM e) (AM<|pJ w e):=Er he.1 (by unfold AZ pJ;have:=UA he;rw[Bv,AR this,Al,AR this];rfl)<|by rw[Cy,Ak];exact AO (by assumption)<|by decide
  refine⟨a1,.step (Ec:=F6 s ⟨GQ,N,q,Aw,rows,u,Dl,a,IY,d,k,rest,L,C,Gy,ZP w,R1,mw<|AM m,mw<|AM e,G,M8,a3,i,a2,y,Ll,Q,Co,BH,r,Mb,QR,LY,N3,z,j,left,a0,some,v⟩) ⋯ ?_ hr⟩;exact Ee [.bw,.t<|AM<|pJ w e] [CC T (n+1) (AL<|AZ w) (AM e)<|AM<|pJ w e] P.O ⋯ ⟨g,AI⟩
theorem sP(P:Bw T)(n:Aj)(pv:BD):∀l,(∀i∈l,0<=i/\i<=122)->EO T (n+1) (EY GW (Bd hV)) (DA GW pv (Bd hV).names) (PY hV) (FT hV) (FY hV) (AZ l) (AV (l.map EZ)):=by
 intro l;induction l with
 |nil=>
  exactλ_=>Mi
 |cons i l a=>
  exactλh=>HL (tv:=[(S "elder",mw<|AM i)]) ⋯ (E5 ⋯) (EC [.t<|AJ<|EZ i] [CP T (n+1) (Ah<|AH 1248) [AM i]<|AJ<|EZ i,Bf T<|Ah<|AH 1248] P.O ⋯ ⟨XA P.toHN n i (h i<|B0 _).1 (h i<|B0 _).2,B6 P.toHN 24 1248 1247 (A6 77) (S "_law_name") AN ⋯ ⋯ ⋯ B B,AI⟩)<|a λj d=>h j<|Cb _ d
def pK(Dl:I (I Aa)):Prop:= ∀k,k<U Dl->∀e∈Ik Dl k,0<=e/\e<(k:Aa)
theorem ABz{k:Aj}(h:k<U Dl)(hz:U Dl<=1000):CC T n (AL (IJ Dl)) (AM (k:Aa)) (AL (AZ (Ik Dl k))):=Er (by exact Av _) (by rw[Fj];unfold IJ Ik;rw[Bv,AR h,Al,AR h];rfl)<|by unfold IJ;rw[Ai,Ak];exact AO (by assumption)<|by decide
theorem mF(P:Bw T)(n:Aj)(s:I Aa)(f:LF)(Dl:I (I Aa))(c:Wc)(j:Aj)(hf:f.Dl=mw (AL (IJ Dl)))(hw:f.whole=ZP c.whole)(hd:f.R1=foO c)(hk:f.k=mw (AM (j:Aa)))(h1:U c.whole=j)(h2:U c.fk<=900)(C:j<U Dl)(h4:U Dl<=100)(ok:pK Dl)(h5:(Ik Dl j).length<=900):
  ∃a,Ge T (n+1) GW (F6 s f) WB Aq (F6 s {f with mask:=mw (AM (LX c.whole (Ik Dl j) (1*2^j))),JE:=a,whole:=ZP (RL Dl c j).whole,R1:=foO (RL Dl c j)}):=by
 have a3:=ok j C;refine Dx (aN P n s f c.whole hw (DT [_,_,_] [.e A9 BQ,.t BQ B5,.l B5<|.n 100] A9 (.n 900) [1,1,1] B h1 C h4) (Ik Dl j) (1*2^j) f.JE λe he=>by have:=a3 e he;exact⟨this.1,h1▸this.2⟩) λa hr=>?_;obtain⟨GQ,a4,u,Aw,rows,y,b0,d,IY,g,k,rest,a2,a0,Gy,whole,R1,mask,JE,a1,M8,a9,h,a8,G,Ll,a5,Co,BH,v,Mb,QR,LY,N3,L,q,left,a6,some,z⟩:=f
 dsimp only at hf hw hd hk hr
 subst hf hw hd hk;have sz:=Ak;refine⟨a,?_⟩;have gk:=ABz (T:=T) (n:=n+1) C<|by exact AO (by assumption)<|by decide
 let V:PV->PV->PV->PV->BD:= λma el wh fo=>F6 s ⟨GQ,a4,u,Aw,rows,y,mw<|AL<|IJ Dl,d,IY,g,mw<|AM (j:Aa),rest,a2,a0,Gy,wh,fo,ma,el,a1,M8,a9,h,a8,G,Ll,a5,Co,BH,v,Mb,QR,LY,N3,L,q,left,a6,some,z⟩
 refine A7 0 WB (BE:=V (mw<|AM<|1*2^j) JE (ZP c.whole)<|foO c) ⋯ (As [] [VO (j:Aa)=J] P.O ⋯ ⟨by simp[VO];exact nP (c:=1000000) C h4<|by decide,AI⟩) ?_;refine Cq (s1:=eF) (r:=WB.drop 2) ⋯ (JL [.t<|AL<|AZ<|Ik Dl j] (AZ<|Ik Dl j) [CC T (n+1) (AL<|IJ Dl) (AM (j:Aa))<|AL<|AZ<|Ik Dl j] P.O ⋯ ⋯ ⋯ ⋯ ⟨gk,AI⟩ hr) ?_
 let N:=LX c.whole (Ik Dl j)<|1*2^j
 have Q:ZP (c.whole++[N])=BP AQ (JW<|AZ c.whole++[AM N]):=by unfold ZP AZ;rw[Cv];rfl
 refine A7 2 WB (BE:=V (mw<|AM N) a (BP AQ<|JW<|AZ c.whole++[AM N])<|foO c) ⋯ (As [] [(AZ c.whole).length<=AY] P.O ⋯ ⟨by rw[Cy];exact DT [_,_,_,_] [.e A9 BQ,.t BQ B5,.l B5<|.n 100,.e Jj<|.n 16777216] A9 Jj [1,1,1,-1] B h1 C h4 sz,AI⟩) ?_;show Ge T (n+1) GW _ _ _<|V (mw<|AM N) a (ZP<|c.whole++[N])<|foO<|RL Dl c j;rw[Q];refine Cq (s1:=BA 3 WB) (r:=[]) ⋯ ?_<|Ea B;exact hU (x:=S "folk") (p:=Hc<|sbE<|O7<|BA 3 WB) (f:=AQ) (ks:=c.fk) (ds:=LV c.JO) (vs:=AV<|(Ik Dl j).map EZ) (kb:=EZ (j:Aa)) (as:=[.t<|AJ<|EZ (j:Aa)]) (cs:=[CP T (n+1) (Ah<|AH 1248) [AM (j:Aa)]<|AJ<|EZ (j:Aa),Bf T<|Ah<|AH 1248]) P.O ⋯ ⋯ ⋯ (D7 [.t<|AL<|AZ<|Ik Dl j] (AZ<|Ik Dl j) [CC T (n+1) (AL<|IJ Dl) (AM (j:Aa))<|AL<|AZ<|Ik Dl j] P.O ⋯ ⋯ ⋯ ⋯ ⟨gk,AI⟩ (by rw[Cy];exact AO (by assumption)<|by decide) (sP P n _ (Ik Dl j) λi hi=>by have:=a3 i hi;exact nQ 122 this<|AO (C7 C)<|AO h4<|by decide)) ⋯ ⋯ ⟨XA P.toHN n (j:Aa) (by exact Av _)<|nP (c:=122) C h4<|by decide,B6 P.toHN 24 1248 1247 (A6 77) (S "_law_name") AN ⋯ ⋯ ⋯ B B,AI⟩<|by exact AO (by assumption)<|by decide
structure Lw where
 k:PV
 mask:PV
 JE:PV
noncomputable def lf3(s:I Aa)(Dl:I (I Aa))(a:I Aa)(o:Lo)(c:Wc)(w:Lw):LF:= {lf2 s (Dl,a) o with Dl:=mw<|AL<|IJ Dl,whole:=ZP c.whole,R1:=foO c,k:=w.k,mask:=w.mask,JE:=w.JE}
theorem mG(P:Bw T)(n:Aj)(s:I Aa)(Dl:I (I Aa))(d:I Aa)(o:Lo)(q:U Dl<=100)(u:pK Dl)(z:∀j,(Ik Dl j).length<=900):∀m j c w,j+m=U Dl->U c.whole=j->U c.fk<=j->
  ∃g,KN T (n+1) GW (Kk WF) WB (F6 s (lf3 s Dl d o c w)) (Dd (j:Aa) m) Aq (F6 s (lf3 s Dl d o ((HY j m).foldl (RL Dl) c) g)):=by
 intro m;induction m with
 |zero=>
  exactλj c w _ _ _=>⟨w,.done⟩
 |succ m v=>
  exactλj c w h r C=>by refine Dx (mF P n s (lf3 s Dl d o c {w with k:=mw (AM (j:Aa))}) Dl c j B B B B r (DT [_,_,_,_] [.l A9<|.n 100,.e (.a BQ<|.a B5 DB) A9,.l Jj BQ] Jj (.n 900) [1,1,1] B q h C) (Pj [_,_,_] [.e (.a A9<|.a BQ DB) B5] A9 B5 [1] B h) q u<|z j) λi x=>?_;refine Dx (v (j+1) (RL Dl c j) ⟨mw<|AM (j:Aa),mw<|AM<|LX c.whole (Ik Dl j)<|1*2^j,i⟩ (Yb [_,_,_] [.e (.a A9<|.a BQ DB) B5] (.a (.a A9 DB) BQ) B5 [1] [-1] B B h) (by unfold RL;simp only[Ad,Ac,BL];exact Yb [_,_] [.e A9 BQ] (.a A9<|.a Mr DB) (.a BQ DB) [1] [-1] B B r)<|by unfold RL;simp only[Ac];exact Dk<|by assumption) λg y=>?_;refine⟨g,?_⟩;skip;exact .step (Ec:=F6 s<|lf3 s Dl d o c {w with k:=mw (AM (j:Aa))}) ⋯ x y
noncomputable def PA(s:I Aa):I Int:=De (D 1) AQ<|CF s
noncomputable def Ul(s:I Aa):Kc:=(PA s).foldl HT (Q1<|D9<|CF s,TN (D9<|CF s) (CF s).sum)
noncomputable def mH(s:I Aa):Wc:=(HY 0 (Ul s).1.length).foldl (RL (Ul s).1) ⟨[],[],[]⟩
noncomputable def Ks(l:Aa):I (I Aa):=[[l,l-1],[l-1,l],[l-1,l-2],[l,l-1,l-2],[l-2,l,l-1],[l-1,l-2,l]]
noncomputable def aO(s:I Aa):Int:=((Ul s).1.length:Aa)-1
noncomputable def yI(s:I Aa):I Int:=(Ks<|aO s).getD ((CF s).sum.fmod 6).toNat []
noncomputable def Hf(s:I Aa):I Int:=match It (D9<|CF s)with
 |true=>De AQ (D 2)<|yI s
 |false=>yI s
noncomputable def WW(s:I Aa):Wd:=⟨Jw (D9<|CF s) (CF s).sum,HS<|D9<|CF s,(Ul s).2,(mH s).fk,(mH s).JO,(mH s).whole,QL<|CF s,(CF s).sum⟩
noncomputable def TQ(s:I Aa):I UInt8:=HJ (WW s)<|G1 (WW s)<|Hf s
noncomputable def lf4(s:I Aa)(o:Lo)(w:Lw):LF:= {lf1 s with Dl:=mw<|AL<|IJ (Ul s).1,changes:=mw<|AL<|AZ (Ul s).2,number:=o.number,k:=w.k,rest:=o.rest,kind:=o.kind,pick:=o.pick,Gy:=o.Gy,whole:=mw<|AL<|AZ (mH s).whole,R1:=mw<|EL (mH s).fk<|LV (mH s).JO,mask:=w.mask,JE:=w.JE,last:=mw<|AM<|aO s,M8:=mw<|AL<|IJ<|Ks<|aO s,ids:=mw<|AL<|AZ<|Hf s,merged:=mw (AJ<|TQ s)}
structure ADF(s:I Aa):Prop where
 len:U s<=63
 Dl:pK (Ul s).1
 mq:∀j,(Ik (Ul s).1 j).length<=900
 kl:(Ul s).1.length<=90
 good:Ny (WW s) 5 (Hf s)=J
 wok:WOk (WW s)
theorem CP.le(h:CP T n c ds d)(u:n<=m):CP T m c ds d:= λA X s f vs Q E a i x tf j K=>h A X s f vs Q E (a.mono u) i x tf j K
theorem aP(l:Aa)(i:Aj):((Ks l).getD i []).length<=3:=by unfold Ks;rcases i with _|_|_|_|_|_|i<;>simp
theorem yJ(P:Bw T)(K:DG T env GW)(b2:T.gp=ID)(n:Aj)(s:I Aa)(L:ADF s)(hM:MOk T (WW s)):∃o w,∀EA fl,TP T (n+12) A env (F6 s (lf4 s o w)) (LW.drop 20) fl EA->TP T (n+12) A env (F6 s {}) LW fl EA:=by
 have sz:=Ak
 let ns:=CF s
 let d:=D9 ns
 have b0:U ns<=4:=by
  show(CF s).length<=4;unfold CF De;rw[GK];have:(D (4:Aa)).elim (U s) (MF<|U s)<=4:=by show MF (U s) ((4:Aj):Aa)<=4;rw[Kg];exact MD ..
  exact AAH this
 have a9:(PA s).length<=4:=by unfold PA De;rw[GK,Eg];show min _ _<=4;have:=b0;exact Vn this
 have hk0:(Q1 d).length=(TN d ns.sum).length/\3<=(Q1 d).length/\(Q1 d).length<=5:=by unfold Q1 TN;cases It d<;>simp
 obtain⟨o,b1⟩:=yH P (n+11) s (PA s) (Q1 d,TN d ns.sum) {} hk0.1 hk0.2.1<|AO (Nat.add_le_add hk0.2.2 a9)<|by decide
 have a1:KN T (n+12) GW (Kk KF) KB (F6 s<|lf1 s) (AZ<|PA s) Aq (F6 s<|lf2 s (Ul s) o):=b1;obtain⟨w,a0⟩:=mG P (n+11) s (Ul s).1 (Ul s).2 o (by have:=L.kl;exact DT [_] [.l A9<|.n 90] A9 (.n 100) [1] B this) L.Dl L.mq (Ul s).1.length 0 ⟨[],[],[]⟩ ⟨o.k,Af,Af⟩ (Yb [_] [] (.a Mr A9) A9 [] [] B B) B<|D1 _;have z:=L.kl;refine(NJ o w λEA fl y=>sM P K (n+11) s L.len EA fl ?_);have a4:Fm T (n+12) (AL<|AZ ns) (D 1) AQ (AL<|AZ<|PA s):=by
  have:=Gw (T:=T) (n:=n+12) P.O (ds:=AZ ns) (l:=D 1) (h:=AQ)<|by rw[Cy];exact AO (by assumption)<|by decide
  rwa[Nz]at this
 refine N0 K (s1:=KF) (r:=LW.drop 12) ⋯ (JL [.t<|AL<|AZ<|PA s] (AZ<|PA s) [Fm T (n+12) (AL<|AZ ns) (D 1) AQ<|AL<|AZ<|PA s] P.O ⋯ ⋯ ⋯ ⋯ ⟨a4,AI⟩ a1) ?_;refine Vz (x:=S "kin") P.O ?_;generalize q:Ul s=kc at*;obtain⟨Dl,u⟩:=kc
 dsimp only at a0 z
 have lk:(IJ Dl).length=U Dl:=Ai ..
 let g0:LF:= {lf2 s (Dl,u) o with Dl:=mw (AL<|IJ Dl)}
 rw[show Yc (S "kin") (F6 s<|lf2 s (Dl,u) o)=F6 s g0 by kernel_rfl!];refine D5 12 LW K (BE:=F6 s<|lf3 s Dl u o ⟨[],[],[]⟩ ⟨o.k,Af,Af⟩) ⋯ (As [] [] P.O ⋯ AI) ?_;have ln:CP T (n+12) (Ah<|AS "len") [AL<|IJ Dl] (AM (U Dl:Aa)):=lk▸FR (DT [_,_,_] [.e A9<|.n 16777216,.l BQ<|.n 90,.e B5 BQ] B5 A9 [-1,1,1] B sz z lk);refine N0 K (s1:=WF) (r:=LW.drop 14) ⋯ (JL [.t<|AM (U Dl:Aa)] (Dd 0<|U Dl) [CP T (n+12) (Ah<|AS "len") [AL<|IJ Dl]<|AM (U Dl:Aa),Bf T<|Ah<|AS "len",-(2^62)<=(U Dl:Aa)/\(U Dl:Aa)<2^62] P.O ⋯ ⋯ ⋯ ⋯ ⟨ln,A3,⟨WR _,WS z<|by decide⟩,AI⟩ a0) ?_;have a8:(HY 0<|U Dl).foldl (RL Dl) ⟨[],[],[]⟩=mH s:=by unfold mH;rw[q]
 rw[a8];generalize v:mH s=wc at*;obtain⟨whole,Q,JO⟩:=wc;refine Vz (x:=S "changes") P.O<|Vz (x:=S "whole") P.O<|Vz (x:=S "folk") P.O ?_
 let g1:LF:= {lf1 s with Dl:=mw<|AL<|IJ Dl,changes:=mw<|AL<|AZ u,number:=o.number,k:=w.k,rest:=o.rest,kind:=o.kind,pick:=o.pick,Gy:=o.Gy,whole:=mw<|AL<|AZ whole,R1:=mw<|EL Q<|LV JO,mask:=w.mask,JE:=w.JE}
 rw[show Yc (S "folk") (Yc (S "whole")<|Yc (S "changes")<|F6 s<|lf3 s Dl u o ⟨whole,Q,JO⟩ w)=F6 s g1 by kernel_rfl!]
 let i:Int:=(U Dl:Aa)-1
 refine D5 14 LW K (BE:=F6 s {g1 with last:=mw (AM i)}) ⋯ (As [.t<|AM (U Dl:Aa)] [CP T (n+12) (Ah<|AS "len") [AL<|IJ Dl]<|AM (U Dl:Aa),Bf T<|Ah<|AS "len"] P.O ⋯ ⟨ln,A3,AI⟩) ?_;refine D5 15 LW K (BE:=F6 s {g1 with last:=mw<|AM i,M8:=mw (AL<|IJ<|Ks i)}) ⋯ (As [] [] P.O ⋯ AI) ?_
 let ia:I Int:=(Ks i).getD (ns.sum.fmod 6).toNat []
 have h6:0<=ns.sum.fmod 6/\ns.sum.fmod 6<6:=⟨Br _<|by decide,DC _<|by decide⟩;have a2:=RC (c:=6) h6.1 h6.2;have gi:CC T (n+12) (AL<|IJ<|Ks i) (AM<|ns.sum.fmod 6) (AL<|AZ ia):=Er h6.1 (by unfold IJ;rw[Bv,AR a2];show D (AL<|AZ<|(Ks i)[(ns.sum.fmod 6).toNat])=D (AL<|AZ<|(Ks i).getD (ns.sum.fmod 6).toNat []);rw[Al,AR a2];rfl)<|by unfold IJ;rw[Ai,Ak];show 6<=_;exact BM _ _
 have C:U ia<=3:=aP i _
 let N:LF:= {g1 with last:=mw<|AM i,M8:=mw (AL<|IJ<|Ks i)}
 refine D5 16 LW K (BE:=F6 s {N with ids:=mw (AL<|AZ ia)}) ⋯ (As [.t<|AL<|AZ ia] [CC T (n+12) (AL<|IJ<|Ks i) (AM<|ns.sum.fmod 6)<|AL<|AZ ia] P.O ⋯ ⟨gi,AI⟩) ?_;have j:yI s=ia:=by unfold yI aO;rw[q]
 generalize g:Hf s=ids at*;have a5:Fn T (n+12) GW (F6 s {N with ids:=mw (AL<|AZ ia)}) (BA 17 LW) Aq (F6 s {N with ids:=mw (AL<|AZ ids)}):=by
  have e0:ids=match It d with|true=>De AQ (D 2) ia|false=>ia:=by rw[<-g];unfold Hf;rw[j]
  cases hc:It d with
  |true=>
   have e:ids=De AQ (D 2) ia:=by rw[e0,hc]
   rw[e];have sl:Fm T (n+12) (AL<|AZ ia) AQ (D 2) (AL<|AZ<|De AQ (D 2) ia):=by
    have:=Gw (T:=T) (n:=n+12) P.O (ds:=AZ ia) (l:=AQ) (h:=D 2)<|by rw[Cy];exact AO C<|Ak▸(by decide:3<=16777216)
    rwa[Nz]at this
   exact As [.b J,.t<|AL<|AZ<|De AQ (D 2) ia] [Fm T (n+12) (AL<|AZ ia) AQ (D 2)<|AL<|AZ<|De AQ (D 2) ia,It d=J] P.O ⋯ ⟨sl,hc,AI⟩
  |false=>
   have e:ids=ia:=by rw[e0,hc]
   rw[e];exact As [.b AB] [It d=AB] P.O ⋯ ⟨hc,AI⟩
 refine D5 17 LW K ⋯ a5 ?_;have a3:U ids<=3:=by
  rw[<-g];unfold Hf;rw[j]
  split
  ·unfold De;rw[GK,Eg];exact AO (PD ..)<|AO (LJ ..) C
  ·exact C
 have fa:=gx P b2 (WW s) L.wok hM 5 (Hf s) L.good<|by rw[g];exact DT [_] [.l A9<|.n 3] A9 (.n 900) [1] B a3
 rw[g]at fa;have b3:WW s=⟨Jw d ns.sum,HS d,u,Q,JO,whole,QL ns,ns.sum⟩:=by unfold WW;rw[q,v]
 let G:=HJ (WW s)<|G1 (WW s) ids
 have b4:CP T (n+12) (Ah<|AH 1272) [FI [AL<|AV<|Jw d ns.sum,AM<|HS d,AL<|AZ u,EL Q<|LV JO,AL<|AZ whole,AM<|QL ns,AM ns.sum],AL<|AZ ids] (AJ G):=by
  have:=fa.le (m:=n+12)<|by exact BM _ _
  rw[show Xw (WW s)=FI [AL<|AV<|Jw d ns.sum,AM<|HS d,AL<|AZ u,EL Q<|LV JO,AL<|AZ whole,AM<|QL ns,AM ns.sum] by rw[b3];rfl]at this;exact this
 have a6:=B6 P.toHN 32 1272 1271 (A6 81) (S "_law_fold") AN ⋯ ⋯ ⋯ B B;refine D5 18 LW K (BE:=F6 s {N with ids:=mw<|AL<|AZ ids,merged:=mw (AJ G)}) ⋯ (As [.t<|AJ G] [CP T (n+12) (Ah<|AH 1272) [FI [AL<|AV<|Jw d ns.sum,AM<|HS d,AL<|AZ u,EL Q<|LV JO,AL<|AZ whole,AM<|QL ns,AM ns.sum],AL<|AZ ids]<|AJ G,Bf T<|Ah<|AH 1272] P.O ⋯ ⟨b4,a6,AI⟩) ?_;refine D5 19 LW K (BE:=F6 s {N with ids:=mw<|AL<|AZ ids,merged:=mw (AJ G)}) ⋯ (As [.b AB] [AB=AB] P.O ⋯ ⟨B,AI⟩) ?_;have b5:lf4 s o w= {N with ids:=mw<|AL<|AZ ids,merged:=mw (AJ G)} :=by unfold lf4 TQ aO;rw[q,v,g]
 rw[<-b5];exact y
theorem pL(P:Bw T)(hC:J4 (KT T) C)(hi:Hq (KT T) (AH C) "__init__" =D (D (AH g)))(ht:WJ (KT T) (AH g)=D (Ae "function"))(a1:gR T n C g ds o'):CP T (n+1) (Ah (AH C)) ds (nj o'):=by
 intro A X s fv vs Q E a i L tf ta K;obtain rfl:=tf.inv;refine F9 ?_;obtain⟨hh,gg,d,t,os⟩:=s;have KI:=J3 P i;refine make_core (makes_of KI hC.makes) (Yr KI hi) (λj=>bind_fn KI j ht) (Ax B) ?_
 let h3:=(hh.push emptyDict).push<|AFM C<|AK hh.objs
 have u:∀b o,AA hh b=D o->AA h3 b=D o:= λb o e=>AX _<|AX _ e;have I3:Cm T ⟨h3,gg,d,t,os⟩:=i.keeps P.O u;have x:AA h3 (AK hh.objs+1)=D (AFM C<|AK hh.objs):=by heap_get
 have v:AA h3 (AK hh.objs)=D emptyDict:=AX _<|A1 _ B;have n0:∀b,AK hh.objs<=b->AA hh b=none:= λb hb=>by
  cases e:AA hh b with
  |none=>rfl
  |some o=>exact Ay (BS e)<|G6.mpr hb
 let F:I Addr:=[AK hh.objs+1,AK hh.objs]
 have z:∀b∈F,AA hh b=none:= λb hb=>by
  rcases DO hb with rfl|hb
  ·exact n0 _<|Ej _
  ·rw[Cx hb];exact n0 _<|BO _
 have x3:Hs T (Jn X F) h3:=⟨λa ha=>Ax<|L.tab a ha,λa ha=>by
  rcases ha with ha|ha
  ·exact(L.ext i<|C1.of_keeps u).kind a ha
  ·refine BC ⟨(Du i<|z a ha).1,?_⟩;rcases DO ha with rfl|hb
   ·exact(CB _ x<|Ax<|K3 B)
   ·rw[Cx hb];exact(CB _ v<|Ax<|K3 B)⟩
 have a0:Up hh X h3 (Jn X F):= λa o e nx=>⟨u a o e,λq=>q.elim nx λq=>by exact EN<|(z a q).symm.trans e⟩;have w3:Ei T (Jn X F) h3 F (DP C [] []):=⟨AK hh.objs+1,AK hh.objs,[],B,WE _,⟨[],0,#[],x,v,B,QV⟩,E4⟩;refine a1 _ (Jn X F) ⟨h3,gg,d,t,os⟩ _ _ vs _ (Le.make a) I3 x3 w3 (λb hb=>BC hb) (ta.up P.O a0) λG s' r nG I' w'=>?_;have l:∀b∈F++G,AA hh b=none:= λb hb=>by
  rcases IF hb with hb|hb
  ·exact z b hb
  ·cases e:AA hh b with
   |none=>rfl
   |some o=>have:=nG b hb;exact Tt<|(u b o e).symm.trans this
 have N:Up s'.heap (Jn (Jn X F) G) s'.heap (Jn X<|F++G):=Up.less λb hb=>hb.elim (λq=>Ax<|Ax q) λq=>(IF q).elim (λq=>Ax<|BC q) BC;have wF:=w'.up P.O N λ_ _ _ h=>h;refine⟨B,K _ s' (λb o nt e=>r b o nt (λq=>by exact EN<|(z b q).symm.trans e)<|u b o e) I'<|wF.tree P.O (λb hb=>Ax hb) λb hb q=>?_⟩;have y:=hb;rcases L.kind b q with h|⟨_,o,ho,_⟩
 ·refine Ap (i.tab b h) λa2 e _=>?_;have:=l b y;skip;exact EN<|this.symm.trans e
 ·have:=l b y;skip;exact EN<|this.symm.trans ho
theorem AB0(P:Bw T)(n:Aj)(d:DV):CP T (n+2) (Ah (AH 1198)) [d] (YT 1198 rT [d,EL [] []]):=
 pL P (o':=DP 1198 rT [d,EL [] []]) (ot (λa=>K9<|AA T.H1 a) (λa=>Vs<|AA T.H1 a) λa=>Vt<|AA T.H1 a) (g:=1160) ⋯ ⋯ ((xG P n d).zH P.O)
theorem mI(P:Bw T)(n:Aj)(d c:DV):CP T (n+2) (Ah (AH 1087)) [d,c] (Oc d c):=
 pL P (o':=DP 1087 mgN [d,c,EL [] []]) (Vv (λa=>K9<|AA T.H1 a) (λa=>Vs<|AA T.H1 a) λa=>Vt<|AA T.H1 a) (g:=1048) ⋯ ⋯ ((gV P n d c).zH P.O)
theorem yK(P:Bw T):Bf T (Ah (AH 1198)):=Xd P ⋯
theorem hW(P:Bw T):Bf T (Ah (AH 1087)):=Xd P ⋯
noncomputable def Fp(rows:Rows)(a:Aa):AW Aa->DV
 |none=>BK
 |some m=>BR (CJ (Cn rows m) a)
def inR(rows:Rows)(m:Aa):Prop:=0<=m/\m<2^U rows
def V0(T:Th)(rows:Rows):Prop:= ∀n d a b o t,(∀m,b=D m->inR rows m)->(∀m,o=D m->inR rows m)->(∀m,t=D m->inR rows m)->
 CP T (n+5) (Ah<|AH 1034) [Fp rows a b,Fp rows a o,Fp rows a t,EG 0 [BK,AM d]] (Bi<|Kn rows b o t)
noncomputable def AEh:Stmt:=BA 21 LW
noncomputable def AJH:I Stmt:=DR AEh
noncomputable def V1:Expr:=Hz<|BA 23 LW
noncomputable def V3:Expr:=Hz<|BA 25 LW
noncomputable def V4:Expr:=Hz<|BA 26 LW
noncomputable def ZQ(s:I Aa):I Int:=De AQ (D<|(Hf s).length-1)<|Hf s
noncomputable def ZR(s:I Aa):Int:=LX (mH s).whole (ZQ s) 0
noncomputable def ZS(s:I Aa):Int:=(Hf s).getD ((Hf s).length-1) 0
noncomputable def J7(s:I Aa):Int:=pJ (mH s).whole<|ZS s
noncomputable def Dn(s:I Aa):Int:=Mk (WW s)<|Ag (ZR s)<|J7 s
noncomputable def DM(s:I Aa):Int:=Mk (WW s)<|ZR s
noncomputable def Dp(s:I Aa):Int:=Mk (WW s)<|J7 s
noncomputable def Ca(s:I Aa):Rows:=Jw (D9<|CF s) (CF s).sum
noncomputable def LC(s:I Aa):Int:=(CF s).sum
noncomputable def Eu(s:I Aa)(m:Aa):DV:=BR<|CJ (Cn (Ca s) m)<|LC s
noncomputable def Mt(s:I Aa):I BB×Bool:=Kn (Ca s) (D<|Dn s) (D<|DM s)<|D<|Dp s
noncomputable def VZ(s:I Aa):DV:=EG 0 [BK,AM<|(QL (CF s)+1).fmod 3]
structure mJ(s:I Aa):Prop extends ADF s where
 ne:Hf s≠ []
 inw:∀i∈Hf s,SE (WW s) i=J
 inr:∀m,inR (Ca s) (Mk (WW s) m)
noncomputable def yL(s:I Aa)(o:Lo)(w:Lw)(k:PV):LF:= {lf4 s o w with k:=k,met:=mw<|AM<|ZR s,fresh:=mw<|AM<|J7 s,Ll:=mw<|AL<|AZ [Dn s,DM s,Dp s],base:=mw<|AM<|Dn s,Co:=mw<|AM<|DM s,BH:=mw<|AM<|Dp s,texts:=mw<|AL<|AV<|[Dn s,DM s,Dp s].map<|Cn<|Ca s,Mb:=mw<|AL<|[Dn s,DM s,Dp s].map<|Eu s,QR:=mw<|Bi<|Mt s,LY:=mw (Oc (YT 1198 rT [Rw,EL [] []])<|VZ s)}
theorem iA(P:Bw T)(n:Aj)(s:I Aa)(f:LF)(w:I Aa)(hw:f.whole=mw (AL (AZ w)))(hl:U w<=900):∀(l:I Aa) m k,(∀e∈l,0<=e/\e<U w)->∃k',KN T (n+1) GW (Kk AEh) AJH (F6 s {f with met:=mw (AM m),k:=k}) (AZ l) Aq (F6 s {f with met:=mw (AM (LX w l m)),k:=k'})
 |[],m,k,_=>⟨k,.done⟩
 |e::l,m,k,h=>by
  obtain⟨GQ,Q,q,Aw,rows,u,Dl,a,IY,d,k0,rest,N,C,Gy,a3,R1,G,JE,L,M8,a2,i,met,y,Ll,a0,Co,BH,r,Mb,QR,LY,N3,z,j,left,a1,some,v⟩:=f
  dsimp only at hw
  subst hw;refine Dx (iA P n s ⟨GQ,Q,q,Aw,rows,u,Dl,a,IY,d,k0,rest,N,C,Gy,mw<|AL<|AZ w,R1,G,JE,L,M8,a2,i,met,y,Ll,a0,Co,BH,r,Mb,QR,LY,N3,z,j,left,a1,some,v⟩ w B hl l (BG m<|pJ w e) (mw<|AM e) λx hx=>h x<|Cb _ hx) λk' hr=>?_;have he:=h e<|B0 _;have g:CC T (n+1) (AL<|AZ w) (AM e) (AM<|pJ w e):=Er he.1 (by unfold AZ pJ;have:=UA he;rw[Bv,AR this,Al,AR this];rfl)<|by rw[Cy,Ak];exact AO (by assumption)<|by decide
  refine⟨k',.step (Ec:=F6 s ⟨GQ,Q,q,Aw,rows,u,Dl,a,IY,d,mw<|AM e,rest,N,C,Gy,mw<|AL<|AZ w,R1,G,JE,L,M8,a2,i,mw<|AM m,y,Ll,a0,Co,BH,r,Mb,QR,LY,N3,z,j,left,a1,some,v⟩) ⋯ ?_ hr⟩;exact Ee [.t<|AM<|pJ w e] [CC T (n+1) (AL<|AZ w) (AM e)<|AM<|pJ w e] P.O ⋯ ⟨g,AI⟩
theorem mK(P:Bw T)(n:Aj)(st:Aa)(ch:I Aa)(d:U ch<=1000):∀l,EO T (n+1) (EY GW (Bd V1)) [(S "changes",mw (AL (AZ ch))),(S "start",mw (AM st))] (PY V1) (FT V1) (FY V1) (AZ l) (AZ (l.map (Ip st ch))):=by
 intro l;induction l with
 |nil=>
  exact Mi
 |cons i l a=>
  exact HL (tv:=[(S "within",mw<|AM i)]) ⋯ (E5 ⋯) (EC [.t<|AM<|Ip st ch i] [CP T (n+1) (Ah<|AH 1222) [AM st,AL<|AZ ch,AM i]<|AM<|Ip st ch i,Bf T<|Ah<|AH 1222] P.O ⋯ ⟨Qe P.toHN n st i ch<|by rw[Ak];exact AO (by assumption)<|by decide,B6 P.toHN 16 1222 1221 (A6 73) (S "_law_state") AN ⋯ ⋯ ⋯ B B,AI⟩) a
theorem mM(P:Bw T)(n:Aj)(rows:Rows)(e:U rows<=90)(d:U rows.flatten<=100000):∀l,EO T (n+1) (EY GW (Bd V3)) [(S "rows",mw (AL (AV rows)))] (PY V3) (FT V3) (FY V3) (AZ l) (AV (l.map (Cn rows))):=by
 intro l;induction l with
 |nil=>
  exact Mi
 |cons i l a=>
  exact HL (tv:=[(S "side",mw<|AM i)]) ⋯ (E5 ⋯) (EC [.t<|AJ<|Cn rows i] [CP T (n+1) (Ah<|AH 1227) [AL<|AV rows,AM i]<|AJ<|Cn rows i,Bf T<|Ah<|AH 1227] P.O ⋯ ⟨QA P.toHN n rows i (by exact AO (by assumption)<|by decide)<|by rw[Ak];exact AO (by assumption)<|by decide,B6 P.toHN 18 1227 1226 (A6 74) (S "_law_text") AN ⋯ ⋯ ⋯ B B,AI⟩) a
theorem iB(P:Bw T)(n:Aj)(a:Aa):∀l,(∀b∈l,U b<=AY)->EO T (n+4) (EY GW (Bd V4)) [(S "total",mw (AM a))] (PY V4) (FT V4) (FY V4) (AV l) (l.map λb=>BR (CJ b a)):=by
 intro l;induction l with
 |nil=>
  exactλ_=>Mi
 |cons b l d=>
  exactλh=>HL (tv:=[(S "text",mw<|AJ b)]) ⋯ (E5 ⋯) (EC [.t<|BR<|CJ b a] [CP T (n+4) (Ah<|AH 1241) [AJ b,AM a]<|BR<|CJ b a,Bf T<|Ah<|AH 1241] P.O ⋯ ⟨M5 P n b a<|h b<|B0 _,B6 P.toHN 22 1241 1240 (A6 76) (S "_law_blob") AN ⋯ ⋯ ⋯ B B,AI⟩)<|d λj e=>h j<|Cb _ e
theorem yM(x:I BB×Ba):Lu 5 (Bi x) (Bi x)=D true:=by skip;show D ((x.1==x.1&&(x.2==x.2&&J))&&J)=D J;rw[Cz,Cz];rfl
theorem TR(x:I BB×Ba):Cg T n H8 (Bi x) (Bi x) false:=Nh (r:=J)<|yM x
theorem AJI(h:SE (WW s) i=J):0<=i/\i<(mH s).whole.length:=by unfold SE at h;rw[A4,CX,CX]at h;exact h
theorem cU{l:I Aa}{i:Aj}(h:l[i]? =D m)(hz:U l<=1000):CC T n (AL (l.map (Eu s))) (AM (i:Aa)) (Eu s m):=Er (by exact Av _) (by rw[Fj,Bv,h];rfl)<|by rw[Ai,Ak];exact AO (by assumption)<|by decide
theorem AB1(s:I Aa):(Hf s).length<=3:=by
 unfold Hf;have:=aP (aO s) ((CF s).sum.fmod 6).toNat
 split
 ·unfold De;rw[GK,Eg];unfold yI;exact Vn this
 ·exact this
theorem AB2(P:Bw T)(K:DG T env GW)(n:Aj)(s:I Aa)(L:mJ s)(hM:V0 T (Ca s))(o:Lo)(w:Lw):∃k,∀EA fl,TP T (n+12) A env (F6 s (yL s o w k)) (LW.drop 30) fl EA->TP T (n+12) A env (F6 s (lf4 s o w)) (LW.drop 20) fl EA:=by
 have N:=Ak;have ok:=L.wok;have a1:=ok.rows;have y:=ok.flat;have b5:=ok.chg;have a9:=ok.whole;have b4:=AB1 s;have b2:=L.ne;obtain⟨k',b3⟩:=iA P (n+11) s (lf4 s o w) (mH s).whole B (DT [_] [.l A9<|.n 100] A9 (.n 900) [1] B a9) (ZQ s) 0 w.k (λe he=>by
  have:e∈Hf s:=by unfold ZQ De at he;exact nK<|List.mem_of_mem_take he
  exact AJI<|L.inw e this)
 refine⟨k',λEA fl z=>?_⟩
 let ids:=Hf s
 have u:=b4;have v:1<=U ids:=by
  cases h:Hf s with
  |nil=>exact Ay h b2
  |cons _ _=>show 1<=(Hf s).length;rw[h];simp
 have ln:CP T (n+12) (Ah<|AS "len") [AL<|AZ ids] (AM (U ids:Aa)):=Cy ids▸FR (by rw[Cy];exact AO u<|Ak▸(by decide:3<=16777216))
 let f0:=lf4 s o w
 refine D5 20 LW K (BE:=F6 s {f0 with met:=mw<|AM 0,k:=w.k}) ⋯ (As [] [] P.O ⋯ AI) ?_;have a4:Fm T (n+12) (AL<|AZ ids) AQ (D<|(U ids:Aa)-1) (AL<|AZ<|ZQ s):=by
  have:=Gw (T:=T) (n:=n+12) P.O (ds:=AZ ids) (l:=AQ) (h:=D<|(U ids:Aa)-1)<|by rw[Cy];exact AO u<|Ak▸(by decide:3<=16777216)
  rwa[Nz]at this
 let f1:LF:= {f0 with met:=mw<|AM<|ZR s,k:=k'}
 refine N0 K (s1:=AEh) (r:=LW.drop 22) (BE:=F6 s f1) ⋯ (JL [.t<|AM (U ids:Aa),.t<|AL<|AZ<|ZQ s] (AZ<|ZQ s) [CP T (n+12) (Ah<|AS "len") [AL<|AZ ids]<|AM (U ids:Aa),Bf T<|Ah<|AS "len",Fm T (n+12) (AL<|AZ ids) AQ (D<|(U ids:Aa)-1)<|AL<|AZ<|ZQ s] P.O ⋯ ⋯ ⋯ ⋯ ⟨ln,A3,a4,AI⟩ b3) ?_;have x:ids[U ids-1]? =D (ZS s):=by
  show(Hf s)[(Hf s).length-1]? =D ((Hf s).getD ((Hf s).length-1) 0);have:(Hf s).length-1<(Hf s).length:=by have:=v;exact WT this
  rw[AR this,Al,AR this];rfl
 have gi:CC T (n+12) (AL<|AZ ids) (AM<|(U ids:Aa)-1) (AM<|ZS s):=by
  have:=Nx (T:=T) (n:=n+12) x<|AO u<|by decide
  rwa[show((U ids-1:Aj):Aa)=(U ids:Aa)-1 from(SM<|T9 v).symm]at this
 have gw:CC T (n+12) (AL<|AZ (mH s).whole) (AM<|ZS s) (AM<|J7 s):=Uj (W:=WW s) ok<|L.inw _<|BJ x;refine D5 22 LW K (BE:=F6 s {f1 with fresh:=mw (AM<|J7 s)}) ⋯ (As [.t<|AM (U ids:Aa),.t<|AM<|ZS s,.t<|AM<|J7 s] [CP T (n+12) (Ah<|AS "len") [AL<|AZ ids]<|AM (U ids:Aa),Bf T<|Ah<|AS "len",CC T (n+12) (AL<|AZ ids) (AM<|(U ids:Aa)-1)<|AM<|ZS s,CC T (n+12) (AL<|AZ (mH s).whole) (AM<|ZS s)<|AM<|J7 s] P.O ⋯ ⟨ln,A3,gi,gw,AI⟩) ?_
 let ms:I Int:=[Ag (ZR s)<|J7 s,ZR s,J7 s]
 let g:I Int:=[Dn s,DM s,Dp s]
 let f2:LF:= {f1 with fresh:=mw (AM<|J7 s)}
 refine D5 23 LW K (BE:=F6 s {f2 with Ll:=mw (AL<|AZ g)}) ⋯ (GJ P.O (vs:=AZ g) ⋯ ⋯ (D7 [] (AZ ms) [] P.O ⋯ ⋯ ⋯ ⋯ AI (by rw[Cy];exact DT [_] [.e A9<|.n 16777216] (.n 3) A9 [-1] B N)<|mK P (n+11) (HS<|D9<|CF s) (Ul s).2 (DT [_] [.l A9<|.n 100] A9 (.n 1000) [1] B b5) ms) ⋯) ?_
 let f3:LF:= {f2 with Ll:=mw<|AL<|AZ g,base:=mw<|AM<|Dn s,Co:=mw<|AM<|DM s,BH:=mw (AM<|Dp s)}
 refine D5 24 LW K (BE:=F6 s f3) ⋯ (As [] [] P.O ⋯ AI) ?_
 let G:Rows:=g.map<|Cn<|Ca s
 refine D5 25 LW K (BE:=F6 s {f3 with texts:=mw (AL<|AV G)}) ⋯ (GJ P.O (vs:=AV G) ⋯ ⋯ (D7 [] (AZ g) [] P.O ⋯ ⋯ ⋯ ⋯ AI (by rw[Cy];exact DT [_] [.e A9<|.n 16777216] (.n 3) A9 [-1] B N)<|mM P (n+11) (Ca s) a1 y g) ⋯) ?_;have a3:∀m,(Cn (Ca s) m).length<=100000:= λm=>AO (Nq _ _ 0) y
 let f4:LF:= {f3 with texts:=mw<|AL<|AV G,Mb:=mw (AL<|g.map<|Eu s)}
 refine D5 26 LW K (BE:=F6 s f4) ⋯ (GJ P.O (vs:=g.map<|Eu s) ⋯ ⋯ (D7 [] (AV G) [] P.O ⋯ ⋯ ⋯ ⋯ AI (by rw[CN];exact DT [_] [.e A9<|.n 16777216] (.n 3) A9 [-1] B N) (iB P (n+8) (LC s) G (λb hb=>by
  (refine Ap (JY hb) λm _ b6=>?_;subst b6)
  have:=a3 m;exact DT [_,_] [.e A9<|.n 16777216,.l BQ<|.n 100000] BQ A9 [-1,1] B N this))) ⋯) ?_
 have a0:=B6 P.toHN 30 1267 1266 (A6 80) (S "_law_due") AN ⋯ ⋯ ⋯ B B;have a8:=B6 P.toHN 28 1262 1261 (A6 79) (S "_law_differ") AN ⋯ ⋯ ⋯ B B;have a2:∀a b c,CP T (n+12) (Ah<|AH 1267) [AL<|AV<|Ca s,AM a,AM b,AM c] (Bi<|Kn (Ca s) (D a) (D b)<|D c):= λa b c=>cF P.toHN (n+10) (Ca s) (D a) (D b) (D c) a1 ok.row<|DT [_,_] [.e A9<|.n 16777216,.l BQ<|.n 100000] BQ A9 [-1,1] B N y;refine D5 27 LW K (BE:=F6 s {f4 with QR:=mw (Bi<|Mt s)}) ⋯ (As [.t<|Bi<|Mt s] [CP T (n+12) (Ah<|AH 1267) [AL<|AV<|Ca s,AM<|Dn s,AM<|DM s,AM<|Dp s]<|Bi<|Mt s,Bf T<|Ah<|AH 1267] P.O ⋯ ⟨a2 _ _ _,a0,AI⟩) ?_
 let j:DV:=YT 1198 rT [Rw,EL [] []]
 let Q:=Oc j<|VZ s
 refine D5 28 LW K (BE:=F6 s<|yL s o w k') ⋯ (As [.t j,.t<|VZ s,.t Q] [CP T (n+12) (Ah<|AH 1198) [Rw] j,Bf T<|Ah<|AH 1198,CP T (n+12) (Ah<|AH 1262) [AM<|(QL (CF s)+1).fmod 3,BK]<|VZ s,Bf T<|Ah<|AH 1262,CP T (n+12) (Ah<|AH 1087) [j,VZ s] Q,Bf T<|Ah<|AH 1087] P.O ⋯ ⟨AB0 P (n+10) Rw,yK P,MU P.toRq (n+11) _ BK,a8,mI P (n+10) j<|VZ s,hW P,AI⟩) ?_;have gb:∀(i:Aj) m,g[i]? =D m->CC T (n+12) (AL<|g.map<|Eu s) (AM (i:Aa)) (Eu s m):= λi m h=>cU h<|by exact BM _ _
 let d:=Kn (Ca s) (D<|Dn s) (D<|Dp s)<|D<|DM s
 have inr:=L.inr;have a5:CP T (n+11) (Ah<|AH 1034) [Eu s<|Dn s,Eu s<|Dp s,Eu s<|DM s,VZ s] (Bi d):=hM (n+6) _ (LC s) (D<|Dn s) (D<|Dp s) (D<|DM s) (λm h=>by obtain rfl:=AE h;exact inr _) (λm h=>by obtain rfl:=AE h;exact inr _) λm h=>by obtain rfl:=AE h;exact inr _
 have C:=Vv (λa=>K9<|AA T.H1 a) (λa=>Vs<|AA T.H1 a) λa=>Vt<|AA T.H1 a;have gm:H7 T (n+12) Q (S "merge_blobs") (AH 1056):=aE P C ⋯ ⋯ ⋯;have a6:Bf T (Ah<|AH 1056):=by refine Hr (Zu P.toHN (a:=1056) (c:=1055) (st:=Bl 62 2) (q:=S "Merger.merge_blobs") (dflt:=AH 1049) (ct:=AN) (Cd:=[]) (fs:= #[]) (BJ (i:=47) ⋯)<|DI.ok B) λdc pm ob b1 b0=>?_;exact bS b1 b0 λq=>DI.ok (a:=1056) B<|(P.tab _).mp q
 refine D5 29 LW K (BE:=F6 s<|yL s o w k') ⋯ (As [.t<|Eu s<|Dn s,.t<|Eu s<|Dp s,.t<|Eu s<|DM s,.m (AH 1056)<|Bi d,.t<|Bi d,.b AB,.b AB] [CC T (n+12) (AL<|g.map<|Eu s) (AM 0)<|Eu s<|Dn s,CC T (n+12) (AL<|g.map<|Eu s) (AM 2)<|Eu s<|Dp s,CC T (n+12) (AL<|g.map<|Eu s) (AM 1)<|Eu s<|DM s,H7 T (n+12) Q (S "merge_blobs")<|AH 1056,Bf T<|Ah<|AH 1056,CP T (n+12) (Ah<|AH 1056) [Q,Eu s<|Dn s,Eu s<|Dp s,Eu s<|DM s]<|Bi d,
   CP T (n+12) (Ah<|AH 1267) [AL<|AV<|Ca s,AM<|Dn s,AM<|Dp s,AM<|DM s] (Bi d),Bf T<|Ah<|AH 1267,Cg T (n+12) H8 (Bi d) (Bi d) AB,AB=AB] P.O ⋯
  ⟨gb 0 _ B,gb 2 _ B,gb 1 _ B,gm,a6,VW P (n+11) j (VZ s) _ _ _ _ B a5,a2 _ _ _,a0,TR d,B,AI⟩) z
noncomputable def pM:Expr:=Hz<|BA 35 LW
noncomputable def cV:Expr:=Hz<|BA 36 LW
noncomputable def rtE(e:Ct):Expr:=if h:e.ctorIdx=3 then dY (motive_2:= λ_=>A2) e h λa _=>(match a with|some e=>e|_=>XC)else XC
noncomputable def AJJ(e:A2):Expr:=if h:e.ctorIdx=15 then Lp (motive_1:= λ_=>A2) e h λ_ _ a _=>(match a with|r::_=>r|_=>e)else e
noncomputable def mN:Expr:=AEa<|rtE<|BA 38 LW
noncomputable def sQ:Expr:=AJJ<|rtE<|BA 38 LW
noncomputable def YB(s:I Aa):Int:=(LC s).fmod 8
noncomputable def aQ(s:I Aa):Int:=((LC s).fdiv 8).fmod 4
noncomputable def Um(s:I Aa):Aj->Aa
 |0=>Dn s
 |1=>DM s
 |_=>Dp s
noncomputable def Eb(s:I Aa)(j:Aj):AW Int:=match Ag ((YB s).fdiv<|2^j) 1==1 with
 |true=>AQ
 |false=>match aQ s==(j:Aa)with
  |true=>D 0
  |false=>D<|Ag (Um s j) 511
theorem sR(P:Bw T)(n:Aj)(s:I Aa):∀(m j:Aj),j+m<=3->EO T (n+1) (EY GW (Bd pM)) [(S "bare",mw (AM (aQ s))),(S "left",mw (AM (YB s))),(S "sides",mw (AL (AZ [Dn s,DM s,Dp s])))] (PY pM) (FT pM) (FY pM) (Dd (j:Aa) m) ((HY j m).map λj=>Gp (Eb s j)):=by
 intro m;induction m with
 |zero=>
  exactλj _=>Mi
 |succ m r=>
  exactλj h=>by
   have u:=r (j+1)<|DT [_,_] [.l (.a A9<|.a BQ DB)<|.n 3] (.a (.a A9 DB) BQ) (.n 3) [1] B h;show EO T (n+1) _ _ _ _ _ (AM (j:Aa)::Dd ((j:Aa)+1) m)<|Gp (Eb s j)::_;have q:KL (j:Aa)=true:=CI<|by exact Av _
   refine HL (tv:=[(S "j",mw<|AM (j:Aa))]) ⋯ (E5 ⋯) ?_ u;cases d:Ag ((YB s).fdiv<|2^j) 1==1 with
   |true=>
    have e:Eb s j=none:=by unfold Eb;rw[d]
    rw[e];exact EC [.b J] [KL (j:Aa)=J,(Ag ((YB s).fdiv<|2^j) 1==1)=J] P.O ⋯ ⟨q,d,AI⟩
   |false=>
    cases i:aQ s==(j:Aa)with
    |true=>
     have e:Eb s j=D 0:=by unfold Eb;rw[d,i]
     rw[e];exact EC [.b AB,.b J] [KL (j:Aa)=J,(aQ s==(j:Aa))=J,(Ag ((YB s).fdiv<|2^j) 1==1)=AB] P.O ⋯ ⟨q,i,d,AI⟩
    |false=>
     have e:Eb s j=D (Ag (Um s j) 511):=by unfold Eb;rw[d,i]
     rw[e];have g:CC T (n+1) (AL<|AZ [Dn s,DM s,Dp s]) (AM (j:Aa)) (AM<|Um s j):=Nx (by have:=Pj [_,_] [.l (.a A9<|.a BQ DB)<|.n 3] A9 (.n 3) [1] B h;rcases j with _|_|_|j<;>first|rfl|exact AFy<|lnF [_] [.t (.a (.a (.a A9 DB) DB) DB)<|.n 3] [1] B this)<|by exact BM _ _
     exact EC [.b AB,.b AB,.t<|AM<|Um s j] [KL (j:Aa)=J,CC T (n+1) (AL<|AZ [Dn s,DM s,Dp s]) (AM (j:Aa))<|AM<|Um s j,(aQ s==(j:Aa))=AB,(Ag ((YB s).fdiv<|2^j) 1==1)=AB] P.O ⋯ ⟨q,g,i,d,AI⟩
theorem Rz(P:Bw T)(n:Aj)(a:Aa)(rows:Rows)(e:U rows<=90)(d:U rows.flatten<=100000):∀(l:I (AW Aa)),EO T (n+4) (EY GW (Bd cV)) [(S "head",mw (AM a)),(S "rows",mw (AL (AV rows)))] (PY cV) (FT cV) (FY cV) (l.map Gp) (l.map (Fp rows a))
 |[] =>Mi
 |none::l=>HL (tv:=[(S "side",mw BK)]) ⋯ (E5 ⋯) (EC [.b J] [J=J] P.O ⋯ ⟨B,AI⟩) (Rz P n a rows e d l)
 |some i::l=>HL (tv:=[(S "side",mw (AM i))]) ⋯ (E5 ⋯) (EC [.b AB,.t (AJ (Cn rows i)),.t (BR (CJ (Cn rows i) a))] [CP T (n+4) (Ah (AH 1227)) [AL (AV rows),AM i] (AJ (Cn rows i)),Bf T (Ah (AH 1227)),CP T (n+4) (Ah (AH 1241)) [AJ (Cn rows i),AM a] (BR (CJ (Cn rows i) a)),Bf T (Ah (AH 1241)),AB=AB] P.O ⋯
  ⟨QA P.toHN (n+3) rows i (by exact AO (by assumption) (by decide)) (by rw[Ak];exact AO (by assumption) (by decide)),B6 P.toHN 18 1227 1226 (A6 74) (S "_law_text") AN ⋯ ⋯ ⋯ B B,M5 P n _ a (by have:(Cn rows i).length<=U rows.flatten:=Nq _ rows 0;rw[Ak];exact DT [_,_] [.l A9 (.n 100000),.l BQ A9] BQ (.n 16777216) [1,1] B d this),B6 P.toHN 22 1241 1240 (A6 76) (S "_law_blob") AN ⋯ ⋯ ⋯ B B,B,AI⟩) (Rz P n a rows e d l)
theorem yN(P:Bw T)(n:Aj)(s:I Aa)(pv:BD):∀(l:I Aa),EO T (n+2) (EY GW (Bd mN)) (DA GW pv (Bd mN).names) (PY mN) (FT mN) (FY mN) (l.map (Eu s)) (l.map λm=>AL (AV (CJ (Cn (Ca s) m) (LC s)))):=by
 intro l;induction l with
 |nil=>
  exact Mi
 |cons m l a=>
  exact HL (tv:=[(S "blob",mw<|Eu s m)]) ⋯ (E5 ⋯) (EC [.t<|AL<|AV<|CJ (Cn (Ca s) m)<|LC s] [Ey T (n+2) (Eu s m) (S "chunked")<|AL<|AV<|CJ (Cn (Ca s) m)<|LC s] P.O ⋯ ⟨cH P n _ _ _,AI⟩) a
theorem yO(P:Bw T)(n:Aj)(a:Aa):∀l,(∀b∈l,U b<=AY)->EO T (n+1) (EY GW (Bd sQ)) [(S "total",mw (AM a))] (PY sQ) (FT sQ) (FY sQ) (AV l) (l.map λb=>AL (AV (CJ b a))):=by
 intro l;induction l with
 |nil=>
  exactλ_=>Mi
 |cons b l d=>
  exactλh=>HL (tv:=[(S "text",mw<|AJ b)]) ⋯ (E5 ⋯) (EC [.t<|AL<|OS b a] [CP T (n+1) (Ah<|AH 1234) [AJ b,AM a]<|AL<|OS b a,Bf T<|Ah<|AH 1234] P.O ⋯ ⟨XB P.toHN n b a<|h b<|B0 _,B6 P.toHN 20 1234 1233 (A6 75) (S "_law_pieces") AN ⋯ ⋯ ⋯ B B,AI⟩)<|d λj e=>h j<|Cb _ e
noncomputable def HU(s:I Aa):Bool:=match DM s==Dp s with
 |true=>J
 |false=>match Dn s==DM s with
  |true=>J
  |false=>Dn s==Dp s
noncomputable def M6(s:I Aa):DV:=match HU s with|true=>Bi (Mt s)|false=>BK
noncomputable def TS(s:I Aa):Int:=Mk (WW s)<|G1 (WW s)<|Hf s
noncomputable def aR(s:I Aa):Bool:=Ag (B1 (Dn s)<|DM s) (B1 (Dn s)<|Dp s)==0
noncomputable def Un(s:I Aa)(m:Aa):I UInt8:=Cn (Ca s) m
noncomputable def M7(s:I Aa):I (AW Aa):=[Eb s 0,Eb s 1,Eb s 2]
structure cW(s:I Aa):Prop extends mJ s where
 join:(Mt s).2=AB->aR s=J->Kn (Ca s) (D (Dp s)) (D (TS s)) (D (Dn s))=(Un s (DM s),AB)
 low:∀m,inR (Ca s) (Ag (Mk (WW s) m) 511)
theorem Uo(L:cW s)(j:Aj):∀m,Eb s j=D m->inR (Ca s) m:= λm h=>by
 have z:inR (Ca s) 0:=⟨pz _,by exact Ra<|by decide⟩;unfold Eb at h
 split at h
 ·exact EN h
 ·split at h
  ·obtain rfl:=AE h;exact z
  ·obtain rfl:=AE h;unfold Um
   split
   ·exact L.low _
   ·exact L.low _
   ·exact L.low _
theorem sS(h:∀d∈l,g d d=D J):ML g l l=D true:=by
 induction l with
 |nil=>rfl
 |cons a r e=>
  show(g a a).bind (λx=>(ML g r r).bind λy=>D<|x&&y)=_;rw[h a<|B0 _,e λd i=>h d<|Cb _ i];rfl
theorem AEi(f:Aa->I BB×I BB)(l:I Aa):ML (Lu 4) (l.map λm=>AL (AV [(f m).1,(f m).2])) (l.map λm=>AL (AV [(f m).1,(f m).2]))=D true:=sS λd a=>by refine Ap (JY a) λm _ e=>?_;rw[<-e];show D (((f m).1==(f m).1)&&(((f m).2==(f m).2)&&J))=D J;rw[Cz,Cz];rfl
theorem AB3(P:Bw T)(n:Aj)(s:I Aa)(L:cW s)(hM:V0 T (Ca s))(o:Lo)(w:Lw)(k:PV):∃EA,Ge T (n+12) GW (F6 s {yL s o w k with N3:=mw (M6 s)}) (LW.drop 31) (JF (BZ J)) EA:=by
 have v:=Ak;have ok:=L.wok;have a0:=ok.rows;have a1:=ok.flat;have inr:=L.inr
 let f0:LF:= {yL s o w k with N3:=mw (M6 s)}
 let z:LF:= {f0 with alike:=mw (BZ<|HU s)}
 let a:I Int:=[Dn s,DM s,Dp s]
 have a8:Fn T (n+12) GW (F6 s f0) (BA 31 LW) Aq (F6 s z):=by
  cases y:DM s==Dp s with
  |true=>
   have e:HU s=true:=by unfold HU;rw[y]
   show Fn T (n+12) GW _ _ _<|F6 s {f0 with alike:=mw (BZ<|HU s)};rw[e];exact As [.b J] [(DM s==Dp s)=J] P.O ⋯ ⟨y,AI⟩
  |false=>
   cases h2:Dn s==DM s with
   |true=>
    have e:HU s=true:=by unfold HU;rw[y,h2]
    show Fn T (n+12) GW _ _ _<|F6 s {f0 with alike:=mw (BZ<|HU s)};rw[e];exact As [.b AB,.b J] [(Dn s==DM s)=J,(DM s==Dp s)=AB] P.O ⋯ ⟨h2,y,AI⟩
   |false=>
    have e:HU s=(Dn s==Dp s):=by unfold HU;rw[y,h2]
    show Fn T (n+12) GW _ _ _<|F6 s {f0 with alike:=mw (BZ<|HU s)};rw[e];exact As [.b AB,.b AB] [(Dn s==DM s)=AB,(DM s==Dp s)=AB] P.O ⋯ ⟨h2,y,AI⟩
 have a6:Fn T (n+12) GW (F6 s z) (BA 32 LW) Aq (F6 s z):=by
  cases ha:HU s with
  |true=>
   have e:M6 s=Bi (Mt s):=by unfold M6;rw[ha]
   show Fn T (n+12) GW (F6 s {yL s o w k with N3:=mw<|M6 s,alike:=mw (BZ<|HU s)}) _ _<|F6 s {yL s o w k with N3:=mw<|M6 s,alike:=mw (BZ<|HU s)};rw[e,ha];exact As [.b J,.b AB,.b AB] [J=J,Cg T (n+12) H8 (Bi<|Mt s) (Bi<|Mt s) AB,AB=AB] P.O ⋯ ⟨B,TR _,B,AI⟩
  |false=>
   have e:M6 s=BK:=by unfold M6;rw[ha]
   show Fn T (n+12) GW (F6 s {yL s o w k with N3:=mw<|M6 s,alike:=mw (BZ<|HU s)}) _ _<|F6 s {yL s o w k with N3:=mw<|M6 s,alike:=mw (BZ<|HU s)};rw[e,ha];exact As [.b AB,.b AB] [AB=AB,AB=AB] P.O ⋯ ⟨B,B,AI⟩
 have d:CC T (n+12) (Bi<|Mt s) (AM 1) (BZ (Mt s).2):=GP 1 B<|by simp
 have Q:=B6 P.toHN 28 1262 1261 (A6 79) (S "_law_differ") AN ⋯ ⋯ ⋯ B B;have b1:=B6 P.toHN 30 1267 1266 (A6 80) (S "_law_due") AN ⋯ ⋯ ⋯ B B;have N:=B6 P.toHN 6 1034 1033 (A6 60) (S "merge_blobs") AN ⋯ ⋯ ⋯ B B;have b0:=B6 P.toHN 22 1241 1240 (A6 76) (S "_law_blob") AN ⋯ ⋯ ⋯ B B;have gb:∀(i:Aj) m,a[i]? =D m->CC T (n+12) (AL<|a.map<|Eu s) (AM (i:Aa)) (Eu s m):= λi m h=>cU h<|by show 3<=1000;exact BM _ _
 have G:∀m,(Cn (Ca s) m).length<=100000:= λm=>AO (Nq _ _ 0) a1;have u:∃jo,Fn T (n+12) GW (F6 s z) (BA 33 LW) Aq (F6 s {z with joined:=jo}):=by
  cases hd:(Mt s).2 with
  |true=>
   rw[hd]at d;exact⟨Af,As [.t<|BZ J,.b AB,.b AB] [CC T (n+12) (Bi<|Mt s) (AM 1)<|BZ J,(!J)=AB,AB=AB] P.O ⋯ ⟨d,B,B,AI⟩⟩
  |false=>
   rw[hd]at d;cases hf:aR s with
   |false=>exact⟨Af,As [.t<|BZ AB,.b J,.b AB] [CC T (n+12) (Bi<|Mt s) (AM 1)<|BZ AB,(!AB)=J,aR s=AB] P.O ⋯ ⟨d,B,hf,AI⟩⟩
   |true=>
    have hj:=L.join hd hf
    let jb:DV:=BR<|CJ (TQ s)<|LC s
    have b2:TQ s=Un s (TS s):=B;have a9:CP T (n+12) (Ah<|AH 1034) [Eu s<|Dp s,jb,Eu s<|Dn s,VZ s] (Bi (Un s<|DM s,AB)):=by
     have:=hM (n+7) ((QL (CF s)+1).fmod 3) (LC s) (D<|Dp s) (D<|TS s) (D<|Dn s) (λm h=>by obtain rfl:=AE h;exact inr _) (λm h=>by obtain rfl:=AE h;exact inr _) λm h=>by obtain rfl:=AE h;exact inr _
     rw[hj]at this;exact this
    have gt:CC T (n+12) (AL<|AV<|a.map<|Cn<|Ca s) (AM 1) (AJ<|Un s<|DM s):=Er (by exact Av _) B<|by rw[CN];show 3<=_;exact BM _ _
    refine⟨mw jb,Ub (m:=20) (as:=[.t<|BZ AB,.b J]) (cs:=[CC T (n+12) (Bi<|Mt s) (AM 1)<|BZ AB,(!AB)=J]) (c:=aR s) (bit:=J) P.O ⋯ ⋯ ⟨d,B,AI⟩ hf (λ_=>?_) ADk⟩;exact Ee [.t jb,.t<|Eu s<|Dp s,.t<|Eu s<|Dn s,.t<|VZ s,.t<|Bi (Un s<|DM s,AB),.t<|AJ<|Un s<|DM s,.b AB,.b AB] [CP T (n+12) (Ah<|AH 1241) [AJ<|TQ s,AM<|LC s] jb,Bf T<|Ah<|AH 1241,CC T (n+12) (AL<|a.map<|Eu s) (AM 2)<|Eu s<|Dp s,CC T (n+12) (AL<|a.map<|Eu s) (AM 0)<|Eu s<|Dn s,CP T (n+12) (Ah<|AH 1262) [AM<|(QL (CF s)+1).fmod 3,BK]<|VZ s,Bf T<|Ah<|AH 1262,
     CP T (n+12) (Ah<|AH 1034) [Eu s<|Dp s,jb,Eu s<|Dn s,VZ s] (Bi (Un s<|DM s,AB)),Bf T<|Ah<|AH 1034,CC T (n+12) (AL<|AV<|a.map<|Cn<|Ca s) (AM 1)<|AJ<|Un s<|DM s,Cg T (n+12) H8 (Bi (Un s<|DM s,AB)) (FI [AJ<|Un s<|DM s,BZ AB]) AB,AB=AB] P.O ⋯
     ⟨M5 P (n+8) _ _<|by rw[b2];have:=G<|TS s;show(Cn (Ca s)<|TS s).length<=_;exact AO (by assumption)<|by decide,b0,gb 2 _ B,gb 0 _ B,MU P.toRq (n+11) _ BK,Q,a9,N,gt,TR (Un s<|DM s,AB),B,AI⟩
 refine Dx u λjo u=>?_
 let f2:LF:= {z with joined:=jo}
 let f3:LF:= {f2 with left:=mw<|AM<|YB s,bare:=mw (AM<|aQ s)}
 have a5:Fn T (n+12) GW (F6 s f2) (BA 34 LW) Aq (F6 s f3):=As [] [] P.O ⋯ AI;have b6:(HY 0 3).map (λj=>Gp<|Eb s j)=(M7 s).map Gp:=B
 let f4:LF:= {f3 with some:=mw (AL<|(M7 s).map Gp)}
 have a4:Fn T (n+12) GW (F6 s f3) (BA 35 LW) Aq (F6 s f4):=GJ P.O (vs:=(M7 s).map Gp) ⋯ ⋯ (D7 [] (Dd 0 3) [-(2^62)<=(3:Aa)/\(3:Aa)<2^62] P.O ⋯ ⋯ ⋯ ⋯ ⟨⟨by exact Av _,by exact Av _⟩,AI⟩ (by rw[Js,v];exact BM _ _)<|sR P (n+11) s 3 0<|by exact BO _) ⋯
 let C:I DV:=(M7 s).map<|Fp (Ca s)<|D9<|CF s
 let l:LF:= {f4 with parts:=mw (AL C)}
 have a3:Fn T (n+12) GW (F6 s f4) (BA 36 LW) Aq (F6 s l):=GJ P.O (vs:=C) ⋯ ⋯ (D7 [] ((M7 s).map Gp) [] P.O ⋯ ⋯ ⋯ ⋯ AI (by rw[Ai,v];show 3<=_;exact BM _ _)<|Rz P (n+8) (D9<|CF s) (Ca s) a0 a1<|M7 s) ⋯
 let q:=Kn (Ca s) (Eb s 0) (Eb s 1)<|Eb s 2
 let g:DV:=EG 0 [BK,AM<|(QL (CF s)+2).fmod 3]
 have gp:∀(i:Aj) x,(M7 s)[i]? =D x->CC T (n+12) (AL C) (AM (i:Aa)) (Fp (Ca s) (D9<|CF s) x):= λi x h=>Er (by exact Av _) (by rw[Fj];show((M7 s).map _)[i]? =_;rw[Bv,h];rfl)<|by show((M7 s).map _).length<=_;rw[Ai,v];show 3<=_;exact BM _ _
 have gs:∀(i:Aj) x,(M7 s)[i]? =D x->CC T (n+12) (AL<|(M7 s).map Gp) (AM (i:Aa)) (Gp x):= λi x h=>Er (by exact Av _) (by rw[Fj,Bv,h];rfl)<|by rw[Ai,v];show 3<=_;exact BM _ _
 have mz:CP T (n+12) (Ah<|AH 1034) [Fp (Ca s) (D9<|CF s)<|Eb s 0,Fp (Ca s) (D9<|CF s)<|Eb s 1,Fp (Ca s) (D9<|CF s)<|Eb s 2,g] (Bi q):=hM (n+7) _ _ _ _ _ (Uo L 0) (Uo L 1)<|Uo L 2;have a2:Fn T (n+12) GW (F6 s l) (BA 37 LW) Aq (F6 s l):=
  As [.t<|Fp (Ca s) (D9<|CF s)<|Eb s 0,.t<|Fp (Ca s) (D9<|CF s)<|Eb s 1,.t<|Fp (Ca s) (D9<|CF s)<|Eb s 2,.t g,.t<|Bi q,.t<|Gp<|Eb s 0,.t<|Gp<|Eb s 1,.t<|Gp<|Eb s 2,.t<|Bi q,.b AB,.b AB] [CC T (n+12) (AL C) (AM 0)<|Fp (Ca s) (D9<|CF s)<|Eb s 0,CC T (n+12) (AL C) (AM 1)<|Fp (Ca s) (D9<|CF s)<|Eb s 1,CC T (n+12) (AL C) (AM 2)<|Fp (Ca s) (D9<|CF s)<|Eb s 2,CP T (n+12) (Ah<|AH 1262) [AM<|(QL (CF s)+2).fmod 3,BK] g,Bf T<|Ah<|AH 1262,
    CP T (n+12) (Ah<|AH 1034) [Fp (Ca s) (D9<|CF s)<|Eb s 0,Fp (Ca s) (D9<|CF s)<|Eb s 1,Fp (Ca s) (D9<|CF s)<|Eb s 2,g] (Bi q),Bf T<|Ah<|AH 1034,
    CC T (n+12) (AL<|(M7 s).map Gp) (AM 0) (Gp<|Eb s 0),CC T (n+12) (AL<|(M7 s).map Gp) (AM 1)<|Gp<|Eb s 1,CC T (n+12) (AL<|(M7 s).map Gp) (AM 2)<|Gp<|Eb s 2,CP T (n+12) (Ah<|AH 1267) [AL<|AV<|Ca s,Gp<|Eb s 0,Gp<|Eb s 1,Gp<|Eb s 2]<|Bi q,Bf T<|Ah<|AH 1267,Cg T (n+12) H8 (Bi q) (Bi q) AB,AB=AB] P.O ⋯
   ⟨gp 0 _ B,gp 1 _ B,gp 2 _ B,MU P.toRq (n+11) _ BK,Q,mz,N,gs 0 _ B,gs 1 _ B,gs 2 _ B,cF P.toHN (n+10) (Ca s) (Eb s 0) (Eb s 1) (Eb s 2) a0 ok.row<|by exact AO (by assumption)<|by decide,b1,TR q,B,AI⟩
 let pcs:I DV:=a.map λm=>AL<|AV<|CJ (Cn (Ca s) m)<|LC s
 have b4:Ms T (n+12) GW (F6 s l) mN (AL pcs):=K7 P.O<|D7 [] (a.map<|Eu s) [] P.O ⋯ ⋯ ⋯ ⋯ AI (by rw[Ai,v];show 3<=_;exact BM _ _)<|yN P (n+10) s _ a;have b3:Ms T (n+12) GW (F6 s l) sQ (AL pcs):=K7 P.O (D7 [] (AV<|a.map<|Cn<|Ca s) [] P.O ⋯ ⋯ ⋯ ⋯ AI (by rw[CN,v];show 3<=_;exact BM _ _) (yO P (n+11) (LC s) (a.map<|Cn<|Ca s) (λb hb=>by
  (refine Ap (JY hb) λm _ b5=>?_;subst b5)
  have:=G m;exact AO (by assumption)<|by decide)))
 have ec:Cg T (n+12) To (AL pcs) (AL pcs) true:=Ng (by show(match U pcs==U pcs with|true=>ML (Lu 4) pcs pcs|false=>D AB)=D J;rw[Cz];exact AEi (λm=>(De AQ (D<|Lf (Cn (Ca s) m)<|LC s)<|Cn (Ca s) m,De (D<|Lf (Cn (Ca s) m)<|LC s) AQ<|Cn (Ca s) m)) a)
 refine⟨F6 s l,?_⟩;refine A7 31 LW ⋯ a8<|A7 32 LW ⋯ a6<|A7 33 LW ⋯ u<|A7 34 LW ⋯ a5<|A7 35 LW ⋯ a4<|A7 36 LW ⋯ a3<|A7 37 LW ⋯ a2 ?_;exact K8 (s1:=BA 38 LW) (r:=[]) ⋯<|As [.t<|AL pcs,.t<|AL pcs,.b J] [Ms T (n+12) GW (F6 s l) mN<|AL pcs,Ms T (n+12) GW (F6 s l) sQ<|AL pcs,Cg T (n+12) To (AL pcs) (AL pcs) J] P.O ⋯ ⟨b4,b3,ec,AI⟩
noncomputable def mO:I Str:=[S "other",S "",S "A",S "sam"]
noncomputable def ZT(s:I Aa):Str:=mO.getD ((LC s).fmod 4).toNat<|S "other"
theorem AEj:∀k∈mO,UZ k=AB/\Jm k (S "conflict")=AB/\EV (jV k).length 1000=true:=by intro k a;simp only[mO,CV,Au,JQ]at a;rcases a with rfl|rfl|rfl|rfl<;>exact⟨by kernel_rfl!,by kernel_rfl!,by kernel_rfl!⟩
theorem yQ(s:I Aa):ZT s∈mO:=by
 have d:(LC s).fmod 4<4:=DC _<|by decide
 have e:0<=(LC s).fmod 4:=Br _<|by decide
 have a:((LC s).fmod 4).toNat<U mO:=by exact RC (c:=4) e d
 unfold ZT;rw[Al,AR a];exact Ox a
noncomputable def AHJ:I Str:=[S "numbers",S "head",S "total",S "manner",S "rows",S "start",S "kin",S "changes",S "crossed",S "number",S "k",S "rest",S "kind",S "pick",S "elders",S "whole",S "folk",S "mask",S "elder",S "last",S "plans",S "ids",S "merged",S "met",S "fresh",S "sides",S "base",S "ours",S "theirs",S "texts",S "blobs",S "due",S "merger",S "told",S "alike",S "joined",S "left",S "bare",S "some",S "parts"]
def pN(T:Th)(rows:Rows):Prop:= ∀n a b o t Cd,inR rows b->inR rows o->inR rows t->(o=t\/b=o\/b=t)->
 CP T (n+5) (Ah<|AH 1034) [Fp rows a<|D b,Fp rows a<|D o,Fp rows a<|D t,Cd] (Bi<|Kn rows (D b) (D o)<|D t)
def ADG(T:Th)(rows:Rows):Prop:= ∀n a d b o t k,Odd k->inR rows b->inR rows o->inR rows t->o≠t->b≠o->b≠t->
 Qo T (n+5) 1034 [Fp rows a<|D b,Fp rows a<|D o,Fp rows a<|D t,EG 0 [Fu k,AM d]]
noncomputable def hsB:Vk->I Ct|.ExceptHandler _ _ b _=>b
noncomputable def hsT:Vk->A2|.ExceptHandler (D t) _ _ _=>t|_=>XC
noncomputable def hsP:Vk->LH|.ExceptHandler _ _ _ p=>p
noncomputable def trS:Stmt:=BA 30 LW
noncomputable def AHK:Stmt:=BA 0<|trB trS
theorem yR(P:Bw T)(a3:T.gp=ID)(s:I Aa)(L:cW s)(hM:V0 T (Ca s))(hF:MOk T (WW s))(hA:pN T (Ca s))(hO:ADG T (Ca s)){st:Bq}(a:Le 13 A)(a4:A.frames=D [])(d:Cm T st)(x:Hs T X st.heap)(tv:Tr T st.heap X (AL (AZ s)) v)
  (KR:∀s',C1 T st.heap s'.heap->Cm T s'->R (zr (N8 (FH J))) s'):Mf (M T) A (qB (AH 1277) ⟨[v],[]⟩) R st:=by
 refine E0 (CS P.toHN 34 1277 1276 (A6 82) (S "law") AN ⋯ ⋯ ⋯ B B) λdc pm F=>?_;have g:=Fd F;refine Ap g.obj λob o1 o2=>?_;have a6:st.heap.CodeRec (GX (LP (A6 82) (S "law") [] AN (AH 1276) AN) dc pm).code (GX (LP (A6 82) (S "law") [] AN (AH 1276) AN) dc pm).qualname:=by refine EX g.code λc oc fs t e1 e2 e3=>?_;exact⟨c,oc,fs,t,e1,d.ext _ _ (g.Te c e1) e2,e3⟩
 refine Dt (fd:=GX (LP (A6 82) (S "law") [] AN (AH 1276) AN) dc pm) (body:=LW) a.room (d.ext _ _ g.tab o1) o2 ⋯ ⋯ ⋯ a6 ?_;rw[show CG (GX (LP (A6 82) (S "law") [] AN (AH 1276) AN) dc pm) ⟨[v],[]⟩=Ce [(S "script",v)] by kernel_rfl!];refine AP ?_;refine IV (fd:=GX (LP (A6 82) (S "law") [] AN (AH 1276) AN) dc pm) (n:=12) (ps:=[S "script"]) (locs:=AHJ) (ES:=[]) (cs:=[]) (xs:=[]) (ws:=[]) (f:=1277) P.O a d x (Cw tv E4) E4 QV IL PE B B B B (by decide+kernel) ⋯ (tZ ⋯) λN r a8 a2 j=>?_;refine⟨(d.lim P.O).keeps a2,Jh ?_⟩;have q:DG T (DS (GX (LP (A6 82) (S "law") [] AN (AH 1276) AN) dc pm) (AK st.heap.objs) 1277) GW:=JC (ES:=[]) (cs:=[]) ⋯ B B B B<|B9 P.toHN;have hL:(DS (GX (LP (A6 82) (S "law") [] AN (AH 1276) AN) dc pm) (AK st.heap.objs) 1277).frame=D (AK st.heap.objs):=B;have hLo:(DS (GX (LP (A6 82) (S "law") [] AN (AH 1276) AN) dc pm) (AK st.heap.objs) 1277).locals=AK st.heap.objs:=B;generalize DS (GX (LP (A6 82) (S "law") [] AN (AH 1276) AN) dc pm) (AK st.heap.objs) 1277=env at j q hL hLo⊢;have G:(A.deeper env).frames=D [env] :=by show A.frames.map (env:: ·)=_;rw[a4];rfl
 have S0:=j;refine E0 (yJ P q (A:=A.deeper env) a3 0 s L.toADF hF) λo w hf=>?_;refine Dx (AB2 P q (A:=A.deeper env) 0 s L.tomJ hM o w) λk hm=>?_;refine Dx (AB3 P 0 s L hM o w k) λEA he=>?_;have inr:=L.inr;have z:TP T (0+12) (A.deeper env) env (F6 s<|yL s o w k) (LW.drop 30) (JF<|BZ J) EA:=by
  have hd:LW.drop 30=trS::LW.drop 31:=by kernel_rfl!
  let ks:DV:=AL<|mO.map Fu
  let u:I Int:=[Dn s,DM s,Dp s]
  have gb:∀(i:Aj) m,u[i]? =D m->CC T (0+12) (AL<|u.map<|Eu s) (AM (i:Aa)) (Eu s m):= λi m h=>cU h<|by exact BM _ _
  have h2:(LC s).fmod 4<4:=DC _<|by decide
  have h1:0<=(LC s).fmod 4:=Br _<|by decide
  have gk:CC T (0+12) ks (AM<|(LC s).fmod 4) (Fu<|ZT s):=Er h1 (by
   have hl:((LC s).fmod 4).toNat<U mO:=by exact RC (c:=4) h1 h2
   unfold ZT;rw[Bv,AR hl,Al,AR hl];rfl)<|by rw[Ai,Ak];exact BM _ _
  have a0:=B6 P.toHN 28 1262 1261 (A6 79) (S "_law_differ") AN ⋯ ⋯ ⋯ B B;have C:=B6 P.toHN 6 1034 1033 (A6 60) (S "merge_blobs") AN ⋯ ⋯ ⋯ B B
  let Cd:DV:=EG 0 [Fu<|ZT s,AM<|QL<|CF s]
  let as:I Ja:=[.t<|Eu s<|Dn s,.t<|Eu s<|DM s,.t<|Eu s<|Dp s,.t<|Fu<|ZT s,.t Cd]
  let cs:I Prop:=[CC T (0+12) (AL<|u.map<|Eu s) (AM 0)<|Eu s<|Dn s,CC T (0+12) (AL<|u.map<|Eu s) (AM 1)<|Eu s<|DM s,CC T (0+12) (AL<|u.map<|Eu s) (AM 2)<|Eu s<|Dp s,CC T (0+12) ks (AM<|(LC s).fmod 4)<|Fu<|ZT s,CP T (0+12) (Ah<|AH 1262) [AM<|QL<|CF s,Fu<|ZT s] Cd,Bf T<|Ah<|AH 1262]
  have hcs:ER cs:=⟨gb 0 _ B,gb 1 _ B,gb 2 _ B,gk,MU P.toRq 11 _<|Fu<|ZT s,a0,AI⟩;cases l:HU s with
  |true=>
   have e:M6 s=Bi (Mt s):=by unfold M6;rw[l]
   rw[e]at he;have a1:DM s=Dp s\/Dn s=DM s\/Dn s=Dp s:=by
    unfold HU at l
    split at l
    ·rename_i h;exact Ax<|by simpa using h
    ·split at l
     ·rename_i h;exact BC<|Ax<|by simpa using h
     ·exact BC<|BC<|by simpa using l
   have mg:=hA 7 (LC s) (Dn s) (DM s) (Dp s) Cd (inr _) (inr _) (inr _) a1;refine N0 q (BE:=F6 s {yL s o w k with N3:=mw (Bi<|Mt s)}) hd (TG ⋯ nofun (Ee (as++[.t<|Bi<|Mt s]) (cs++[CP T (0+12) (Ah<|AH 1034) [Eu s<|Dn s,Eu s<|DM s,Eu s<|Dp s,Cd]<|Bi<|Mt s,Bf T<|Ah<|AH 1034]) P.O ⋯ ⟨hcs.1,hcs.2.1,hcs.2.2.1,hcs.2.2.2.1,hcs.2.2.2.2.1,hcs.2.2.2.2.2.1,mg,C,AI⟩))<|he.toA q nofun
  |false=>
   have e:M6 s=BK:=by unfold M6;rw[l]
   rw[e]at he;have hne:DM s≠Dp s/\Dn s≠DM s/\Dn s≠Dp s:=by
    unfold HU at l
    split at l
    ·exact nY l
    ·rename_i h
     split at l
     ·exact nY l
     ·rename_i h'
      exact⟨by simpa using h,by simpa using h',by simpa using l⟩
   refine NZ (AEj _<|yQ s) λk1 k2 k3=>?_;have rs:Qo T (0+12) 1034 [Eu s<|Dn s,Eu s<|DM s,Eu s<|Dp s,Cd] :=(hO 7 (LC s) (QL<|CF s) (Dn s) (DM s) (Dp s) (ZT s) ⟨k1,k2,Be k3⟩ (inr _) (inr _) (inr _) hne.1 hne.2.1 hne.2.2);intro X2 Z2 a9 s2 Q E S2 KQ;rw[hd];refine DQ<|mD P (y:=S "told") (x:=S "merge_blobs_merge") (st:=trS) (b0:=AHK) (h0:=BA 0<|hsB<|trH trS) (tp:=trP trS) (np:=Hc<|hsT<|trH trS) (yp:=Hc<|O7<|BA 0<|hsB<|trH trS) (hp:=hsP<|trH trS) (es:=HP<|Hz AHK) (ds:=[Eu s<|Dn s,Eu s<|DM s,Eu s<|Dp s,Cd]) (f:=1034) (as:=as) (cs:=cs) ⋯ ⋯ ⋯ B q S2 G (hL.trans<|BI D hLo.symm) ⋯ ⋯ ⋯ ⋯ ⋯ ⋯ hcs C rs λs3 S3=>?_;exact he.toA q nofun X2 Z2 a9 s3 Q E S3 KQ
 refine hf EA _ (hm EA _ z) N _ _ r _ _ S0 λf X' Ez s' hu a5 S'=>?_;cases a5 with
 |ret tr=>
  obtain rfl:=tr.inv;exact KR s' (λb ob nt e=>S'.wr.keep b ob e nt) S'.inv
end
theorem Fz(text:I BB)(num:Aa):(CJ text num).flatten=text:=by
 unfold CJ;have d:0<=Lf text num:=by unfold Lf;exact Br _<|qK<|Av _
 obtain⟨k,a⟩:∃k:Aj,Lf text num=(k:Aa):=⟨(Lf text num).toNat,Pk d⟩;rw[a,Qr,Uv];simp
theorem JN(h:inR R m):∃k:Aj,m=(k:Aa)/\k<2^U R:=by
 refine F3 h λa d=>?_;refine(CB (Bp m) (Pk a) ?_);have:((Bp m:Aj):Aa)<((2^U R:Aj):Aa):=by rw[Yw];simpa [Mc a]using d
 exact Kd.mp this
theorem sa(K:Aj->Ba):∀r z,(Fq K r z).length<=U r+1:=by
 intro r;induction r with
 |nil=>
  exactλz=>BO _
 |cons j r a=>
  exactλz=>by
   unfold Fq;cases K j with
   |true=>have:=a [];simp only[Ac];exact Dk<|by assumption
   |false=>have:=a<|z++[j];simp only[Ac];exact IQ<|by assumption
theorem iH(K:Aj->Ba):∀r z,∀q∈Fq K r z,U q.1<=U z+U r:=by
 intro r;induction r with
 |nil=>
  exactλz q hq=>by rw[Cx hq];exact BO _
 |cons j r d=>
  exactλz q hq=>by
   unfold Fq at hq;cases e:K j with
   |true=>
    rw[e]at hq;rcases DO hq with rfl|hq
    ·exact Ci _ _
    ·have:=d [] q hq;simp only[BL,Ac]at*;exact DT [_,_,_] [.l A9<|.a Mr BQ] A9 (.a B5<|.a BQ DB) [1] B this
   |false=>
    rw[e]at hq;have:=d (z++[j]) q hq;simp only[Ad,Ac,BL]at*;exact DT [_,_,_] [.l A9<|.a (.a BQ<|.a Mr DB) B5] A9 (.a BQ<|.a B5 DB) [1] B this
theorem mU(p:Aj->Ba)(z:I Aj):(pk R p z).length<=U z:=by unfold pk E7;rw[Ai];exact QY _ _
theorem yc(x y z:Rows)(k:Aj)(d:U y<=k)(hz:U z<=k):(Q3 x y z).length<=2*k+3:=by
 unfold Q3
 split
 ·exact DT [_,_] [.l A9 BQ] A9 (.a (.m 2 BQ)<|.n 3) [1] B d
 ·split
  ·exact DT [_,_] [.l A9 BQ] A9 (.a (.m 2 BQ)<|.n 3) [1] B hz
  ·split
   ·exact DT [_,_] [.l A9 BQ] A9 (.a (.m 2 BQ)<|.n 3) [1] B d
   ·simp only[Ad,jX];exact DT [_,_,_] [.l A9 BQ,.l B5 BQ] (.a (.a (.a (.a DB A9) DB) B5) DB) (.a (.m 2 BQ)<|.n 3) [1,1] B d hz
theorem yd(b o t:Aj)(k:Aj):∀qs,(∀q∈qs,U q.1<=k)->(J8 R b o t qs).length<=(2*k+4)*U qs:=by
 intro qs;induction qs with
 |nil=>
  exactλ_=>D1 _
 |cons q qs d=>
  exactλh=>by
   have e:=d λr g=>h r<|Cb _ g;have j:=yc (pk R (AG b) q.1) (pk R (AG o) q.1) (pk R (AG t) q.1) k (AO (mU _ _)<|h q<|B0 _)<|AO (mU _ _)<|h q<|B0 _;have i:(YC R q.2).length<=1:=by unfold YC;split<;>simp
   rw[QM];rw[Ad,Ad,Ac,Nat.mul_succ];exact DT [_,_,_,_,_] [.l A9 BQ,.l B5<|.a (.m 2 Jj)<|.n 3,.l df DB] (.a (.a B5 df) A9) (.a BQ<|.a (.m 2 Jj)<|.n 4) [1,1,1] B e j i
theorem mV(b o t:Aj):(J8 R b o t (E3 R b o t)).length<=(2*U R+4)*(U R+1):=by
 have e:=yd (R:=R) b o t (U R) (E3 R b o t) λq a=>by have:=iH (keepB b o t) _ [] q a;simpa using this
 have d:(E3 R b o t).length<=U R+1:=by have:=sa (keepB b o t) (DL<|U R) [];rw[uR]at this;exact this
 exact AO e<|Me _ d
theorem mW(G:Fs R)(x y z:Rows)(e:∀r∈y,r∈R)(hz:∀r∈z,r∈R):∀r∈Q3 x y z,U r<=100:=by
 have a:∀r∈y,U r<=100:= λr hr=>G.short r<|e r hr;have d:∀r∈z,U r<=100:= λr hr=>G.short r<|hz r hr;unfold Q3
 split
 ·exact a
 ·split
  ·exact d
  ·split
   ·exact a
   ·intro r hr;simp only[L5,Tn]at hr;rcases hr with(((rfl|hr)|rfl)|hr)|rfl
    ·decide
    ·exact a r hr
    ·decide
    ·exact d r hr
    ·decide
theorem mX(G:Fs R)(b o t:Aj):∀a,(∀q∈a,aS R q.1/\ ∀j,q.2=D j->j<U R)->∀r∈J8 R b o t a,U r<=100:=by
 intro a;induction a with
 |nil=>
  exactλ_ r hr=>Ay hr Au
 |cons q a g=>
  exactλh r hr=>by
   rw[QM]at hr;rcases IF hr with hr|hr
   ·rcases IF hr with hr|hr
    ·exact mW G _ _ _ (mT (h q<|B0 _).1) (mT (h q<|B0 _).1) r hr
    ·cases d:q.2 with
     |none=>rw[d]at hr;exact Ay hr Au
     |some j=>
      rw[d]at hr;have e:=(h q<|B0 _).2 j d;refine G.short r ?_;rw[Cx hr,Al,AR e];exact Ox e
   ·exact g (λr hr=>h r<|Cb _ hr) r hr
theorem YJ:∀(rs:Rows),(∀r∈rs,U r<=100)->U rs.flatten<=100*U rs:=by
 intro rs;induction rs with
 |nil=>
  exactλ_=>BO _
 |cons r rs d=>
  exactλh=>by have:=d λq e=>h q<|Cb _ e;have:=h r<|B0 _;rw[EI,Ad,Ac];exact DT [_,_,_] [.l A9<|.m 100 BQ,.l B5<|.n 100] (.a B5 A9) (.m 100<|.a BQ DB) [1,1] B (by assumption) this
theorem AEk(G:Fs R)(b o t:Aj):(J8 R b o t (E3 R b o t)).length<=100000/\(J8 R b o t (E3 R b o t)).flatten.length<=sizeLine:=by
 have h:=mV (R:=R) b o t;have g:=YJ _<|mX G b o t _<|N2 b o t;have d:=Nat.mul_le_mul (by have:=G.mq;exact DT [_] [.l A9<|.n 90] (.a (.m 2 A9)<|.n 4) (.n 184) [2] B this)<|by have:=G.mq;exact Dk<|by assumption
 have hs:=Ak;exact⟨DT [_,_,_,_] [.l A9 BQ,.l B5<|.m 100 A9,.l BQ<|.m 184<|.n 91,.e Jj<|.n 16777216] A9 (.n 100000) [1,0,1,0] B h g d hs,DT [_,_,_,_] [.l A9 BQ,.l B5<|.m 100 A9,.l BQ<|.m 184<|.n 91,.e Jj<|.n 16777216] B5 Jj [100,1,100,-1] B h g d hs⟩
theorem cZ(a:R.Nodup)(b o t:Aj)(p:Aj->Ba)(hp:∀j,keepB b o t j=J->p j=J):(Fo (pk R p (SD R)) (pk R (keepB b o t) (SD R))).length=(pk R (keepB b o t) (SD R)).length+1:=by have e:=BI U<|YD R (keepB b o t) (SD R) [];rw[V5 a b o t p hp,Ai];unfold Gb at e;rw[Ad,Ai,Ai]at e;exact e.symm
theorem cb(h:keepB b o t j=J):AG b j=J/\AG o j=J/\AG t j=true:=by unfold keepB at h;simp only[A4]at h;exact⟨h.1.1,h.1.2,h.2⟩
noncomputable abbrev iI(R:Rows)(a:Aa)(b o t:Aj):I Vr:=L0 a AQ (D8 b 0 R) (D8 o 0 R)<|D8 t 0 R
theorem se(m:Aj):(D8 m 0 R).length<=U R:=by rw[HB];exact AO (mU _ _)<|by rw[uR];exact BO _
theorem pQ(P:Bw T)(n:Aj)(G:Fs R)(d:Aa)(a:AW Bt)(b o t:Aj):CP T (n+4) (EG 0 [Lz a,AM d]) [AL (AV (D8 b 0 R)),AL (AV (D8 o 0 R)),AL (AV (D8 t 0 R))] (FU (L0 d a (D8 b 0 R) (D8 o 0 R) (D8 t 0 R))):=by
 have g:=G.mq;have l:∀m:Aj,(D8 m 0 R).length<=900:= λm=>AO (se m)<|by exact AO (by assumption)<|by decide
 have e:MW (D8 b 0 R) (D8 o 0 R) (D8 t 0 R)=pk R (keepB b o t) (SD R):=by rw[HB,HB,HB];exact pO G.nd b o t TV
 refine lE P.toRq (n+2) d a _ _ _ (l b) (l o) (l t) ?_ ?_ ?_ <;>rw[e,HB]
 ·exact cZ G.nd b o t _ λj h=>(cb h).1
 ·exact cZ G.nd b o t _ λj h=>(cb h).2.1
 ·exact cZ G.nd b o t _ λj h=>(cb h).2.2
theorem ye(G:Fs R)(a:Aa)(b o t:Aj):(∀q∈iI R a b o t,lF q)/\(By (iI R a b o t)).length<=100000/\(By (iI R a b o t)).flatten.length<=sizeLine:=by
 refine⟨λq d=>?_,?_⟩
 ·unfold iI L0 at d;rw[Fi]at d;exact gE a _ _ _ _ q d
 ·unfold iI;rw[R0 G.nd a b o t];exact AEk G b o t
theorem TY(G:Fs R)(a:Aa)(b o t:Aj)(c:Ba):Jc R b o t (U R+1) 0 [] [] c=((By (iI R a b o t)).flatten,c||NR b o t (E3 R b o t)):=by rw[QP G.nd,<-R0 G.nd a b o t]
theorem AB8(G:Fs R)(a:Aa)(b o t:Aj):Gf LA (By (iI R a b o t)).flatten=NR b o t (E3 R b o t):=by
 unfold iI;rw[R0 G.nd a b o t];have h:=sZ G.nd b o t _<|N2 b o t;cases d:NR b o t (E3 R b o t)with
 |true=>exact iF<|h.2 d
 |false=>exact mS _ λr e=>G.run r<|h.1 d r e
theorem Oj(G:Fs R)(m:Aj):CU (Cn R m)=D8 m 0 R:=QO<|G.good.sub<|N1 m R 0
theorem iJ(G:Fs R)(m:Aa):(Cn R m).length<=sizeLine:=by have h:=YJ (D8 m 0 R) λr a=>G.short r<|(N1 m R 0).subset a;have g:=(N1 m R 0).length_le;have d:=G.mq;have hs:=Ak;unfold Cn;exact DT [_,_,_,_] [.l A9<|.m 100 BQ,.l BQ B5,.l B5<|.n 90,.e Jj<|.n 16777216] A9 Jj [1,100,100,-1] B h g d hs
theorem sf:D8 (0:Aa) 0 R=[] :=by have:=HB R 0;rw[show((0:Aj):Aa)=0 from B]at this;rw[this];unfold pk E7;rw[SA,List.filter_eq_nil_iff];intro j _;rw[WN];simp
theorem iK(P:Bw T)(G:Fs R):V0 T R:= λn j q b o t hb ho ht=>by
 have x:∀m,(CJ (Cn R m) q).flatten=Cn R m:= λm=>Fz _ q;have d:∀m,(CJ (Cn R m) q).flatten.length<=sizeLine:= λm=>by rw[x];exact iJ G m
 have kc:Bf T (EG 0 [BK,AM j]):=MT P.toRq;have a:∀ {k l:Aj},k<2^U R->l<2^U R->((CJ (Cn R k) q).flatten==(CJ (Cn R l) q).flatten)=(k==l):= λhk hl=>by rw[x,x,aU G,aV hk hl]
 have ii:∀ {k l:Aj},((k:Aa)==(l:Aa))=(k==l):= λ {k l} =>by rw[Ck,Bh,Bh];exact G7
 have u:∀m:Aj,Gh (SD R) (AG m) (AG m)=true:= λm=>DZ.mpr λ_ _=>B;have e0:∀ {k l:Aj},(k==l)=J->Gh (SD R) (AG k) (AG l)=true:= λh=>by rw[Bh.mp h];exact u _
 have Q:∀ {b o t:AW Aa} {r:I BB×Ba},LZ R b o t=D r->Kn R b o t=r:= λh=>by unfold Kn;rw[h]
 have O:∀ {b o t:AW Aa},LZ R b o t=AQ->Kn R b o t=Hb R b o t:= λh=>by unfold Kn;rw[h]
 have ga:∀b o t:Aj,CP T (n+4) (EG 0 [BK,AM j]) [AL<|AV<|CU (CJ (Cn R b) q).flatten,AL<|AV<|CU (CJ (Cn R o) q).flatten,AL<|AV<|CU (CJ (Cn R t) q).flatten] (FU<|iI R j b o t):= λb o t=>by rw[x,x,x,Oj G,Oj G,Oj G];exact pQ P n G j AQ b o t
 have z:AV (CU (CJ (Cn R (0:Aj)) q).flatten)=[] :=by rw[x,Oj G];show AV (D8 (0:Aa) 0 R)=[];rw[sf];rfl
 have a0:∀b o t,J0 (D (b:Aa)) (D (o:Aa)) (D (t:Aa))=false:= λb o t=>by show(match !((o:Aa)==(t:Aa))with|true=>AB|false=>AB)=AB;cases !((o:Aa)==(t:Aa))<;>rfl
 have y:= λb o t=>ye G j b o t;cases o with
 |none=>
  cases t with
  |none=>
   cases b with
   |none=>exact gG P n AQ _
   |some b=>exact gG P n (D _) _
  |some t=>
   (refine Ap (JN<|ht t B) λt i C=>?_;subst i)
   cases b with
   |none=>have:=rN P n _ (EG 0 [BK,AM j])<|d t;rw[x]at this;exact this
   |some b=>
    (refine Ap (JN<|hb b B) λb i N=>?_;subst i)
    have v:(t==b)=(b==t):=by rw[Ck,Bh,Bh];exact AFK
    cases h:b==t with
    |true=>
     rw[Q (r:=([],AB))<|by unfold LZ NS;simp only[ii];rw[v,h]];exact XY P n _ _ _ (d b) (d t)<|(a N C).trans h
    |false=>
     rw[O<|by unfold LZ NS;simp only[ii];rw[v,h]];have e:Hb R (D (b:Aa)) AQ (D (t:Aa))=((By<|iI R j b 0 t).flatten,J):=TY G j b 0 t J;rw[e];have g:=ga b 0 t;rw[z]at g;exact lO P n _ _ _ _ kc g (y b 0 t).1 (y b 0 t).2.1 (y b 0 t).2.2 (d b) (d t)<|(a N C).trans h
 |some o=>
  (refine Ap (JN<|ho o B) λo i L=>?_;subst i)
  cases t with
  |none=>
   cases b with
   |none=>have:=rO P n _ (EG 0 [BK,AM j])<|d o;rw[x]at this;exact this
   |some b=>
    (refine Ap (JN<|hb b B) λb i N=>?_;subst i)
    have v:(o==b)=(b==o):=by rw[Ck,Bh,Bh];exact AFK
    cases h:b==o with
    |true=>
     rw[Q (r:=([],AB))<|by unfold LZ NS;simp only[ii];rw[v,h]];exact Ue P n _ _ _ (d b) (d o)<|(a N L).trans h
    |false=>
     rw[O<|by unfold LZ NS;simp only[ii];rw[v,h]];have e:Hb R (D (b:Aa)) (D (o:Aa)) AQ=((By<|iI R j b o 0).flatten,J):=TY G j b o 0 J;rw[e];have g:=ga b o 0;rw[z]at g;exact cI P n _ _ _ _ kc g (y b o 0).1 (y b o 0).2.1 (y b o 0).2.2 (d b) (d o)<|(a N L).trans h
  |some t=>
   (refine Ap (JN<|ht t B) λt i C=>?_;subst i)
   rw[O (b:=b) (o:=D (o:Aa)) (t:=D (t:Aa)) B];cases b with
   |none=>
    cases h:o==t with
    |true=>
     have e:Hb R AQ (D (o:Aa)) (D (t:Aa))=(Cn R o,AB):=by
      have c0:J0 AQ (D (o:Aa)) (D (t:Aa))=false:=by show(match !((o:Aa)==(t:Aa))with|true=>J|false=>AB)=AB;rw[ii,h];rfl
      unfold Hb;rw[c0];exact YI G.nd 0 o t o AB<|Ax ⟨e0 h,u o⟩
     rw[e];have:=XX P n _ _ (EG 0 [BK,AM j]) (d o) (d t)<|(a L C).trans h;rw[x]at this;exact this
    |false=>
     have e:Hb R AQ (D (o:Aa)) (D (t:Aa))=((By<|iI R j 0 o t).flatten,J):=by
      have c0:J0 AQ (D (o:Aa)) (D (t:Aa))=true:=by show(match !((o:Aa)==(t:Aa))with|true=>J|false=>AB)=J;rw[ii,h];rfl
      unfold Hb;rw[c0];exact TY G j 0 o t J
     rw[e];have g:=ga 0 o t;rw[z]at g;exact lN P n _ _ _ _ kc g (y 0 o t).1 (y 0 o t).2.1 (y 0 o t).2.2 (d o) (d t)<|(a L C).trans h
   |some b=>
    (refine Ap (JN<|hb b B) λb i N=>?_;subst i)
    have fl:∀m:Aj,(Gh (SD R) (AG o) (AG t)=J/\Gh (SD R) (AG o) (AG m)=J)\/(Gh (SD R) (AG b) (AG o)=J/\Gh (SD R) (AG t) (AG m)=J)\/(Gh (SD R) (AG b) (AG t)=J/\Gh (SD R) (AG o) (AG m)=J)->Hb R (D (b:Aa)) (D (o:Aa)) (D (t:Aa))=(Cn R m,AB):= λm h=>by unfold Hb;rw[a0];exact YI G.nd b o t m AB h
    cases h:o==t with
    |true=>
     rw[fl o<|Ax ⟨e0 h,u o⟩];have:=gC P n _ _ _ (EG 0 [BK,AM j]) (d b) (d o) (d t)<|(a L C).trans h;rw[x]at this;exact this
    |false=>
     cases h2:b==o with
     |true=>
      rw[fl t<|BC<|Ax ⟨e0 h2,u t⟩];have:=gF P n _ _ _ (EG 0 [BK,AM j]) (d b) (d o) (d t) ((a L C).trans h)<|(a N L).trans h2;rw[x t]at this;exact this
     |false=>
      cases h3:b==t with
      |true=>
       rw[fl o<|BC<|BC ⟨e0 h3,u o⟩];have:=XW P n _ _ _ (EG 0 [BK,AM j]) (d b) (d o) (d t) ((a L C).trans h) ((a N L).trans h2)<|(a N C).trans h3;rw[x o]at this;exact this
      |false=>
       have e:Hb R (D (b:Aa)) (D (o:Aa)) (D (t:Aa))=((By<|iI R j b o t).flatten,Gf LA (By<|iI R j b o t).flatten):=by unfold Hb;rw[a0,AB8 G j b o t];exact TY G j b o t AB
       rw[e];exact lM P n _ _ _ _ _ kc (ga b o t) (y b o t).1 (y b o t).2.1 (y b o t).2.2 (d b) (d o) (d t) ((a L C).trans h) ((a N L).trans h2)<|(a N C).trans h3
noncomputable def yf(r:I BB):Bool:=r.getLast?==D 10&&(match r.dropLast.getLast?==D 13 with|true=>r.dropLast.dropLast|false=>r.dropLast).all (λc=>c !=10&&c !=13)
theorem iL{c:BB}(h:(r.getLast?==D c)=J):r=r.dropLast++[c] :=by refine Dx (List.getLast?_eq_some_iff.mp<|Bh.mp h) λy e=>?_;rw[e,List.dropLast_concat]
theorem yg(h:yf r=J):QN r:=by
 unfold yf at h;rw[A4,Cu]at h;refine F3 h λe a=>?_;have e1:=iL e;cases d:r.dropLast.getLast?==D 13 with
 |true=>
  rw[d]at a;have e2:=iL d;exact⟨r.dropLast.dropLast,[13,10],by rw[e1,e2];simp,BC B,a⟩
 |false=>
  rw[d]at a;exact⟨r.dropLast,[10],e1,Ax B,a⟩
theorem iM(h:QN r)(hs:Gf LA r=AB):iE r:=by
 (refine Bk h λx e a d _=>?_;subst a)
 rcases d with rfl|rfl
 ·exact⟨hs,x,10,B,by decide⟩
 ·exact⟨hs,x++[13],10,by simp,by decide⟩
noncomputable def AEl(i:Aj):I UInt8:=GA.getD (i%16) []
noncomputable def TZ(i:Aj):Rows:=(DL 8).map λk=>AEl<|i+k
noncomputable def AEm(r:I BB):Bool:=yf r&& !Gf LA r&&Bx (U r<=100)&& !(r.head?==D 37)
noncomputable def yh:Rows->Ba
 |[] =>J
 |r::a=> !a.contains r&&yh a
theorem AB9:yh (r::a)=(!a.contains r&&yh a):=B
theorem ACA:∀ {rs:Rows},yh rs=J->rs.Nodup:=by
 intro rs;induction rs with
 |nil=>
  exactλ_=>ACl
 |cons r rs a=>
  exactλh=>by rw[AB9]at h;rw[A4]at h;exact Cj.mpr ⟨λd=>by have:=h.1;simp[d]at this,a h.2⟩
noncomputable def AHL:Bool:=(DL 16).all λi=>yh (TZ i)&&(TZ i).all AEm
theorem sg:AHL=true:=by decide+kernel
theorem yi(i:Aj)(a:i<16):(TZ i).Nodup/\ ∀r∈TZ i,AEm r=true:=by have h:=sg;unfold AHL at h;rw[Cu]at h;have:=h i<|U0 a;rw[A4,Cu]at this;exact⟨ACA this.1,this.2⟩
theorem AEn(a:Aa)(k:Aj):QB a k=AEl (((a.fdiv 4).fmod 16).toNat+k):=by
 unfold QB AEl Zw
 congr 1
 have h:0<=(a.fdiv 4).fmod 16:=Br _<|by decide
 have g:(a.fdiv 4).fmod 16=a.fdiv 4%16:=bE _<|by decide
 have d:(a.fdiv 4+(k:Aa)).fmod 16=(a.fdiv 4+k)%16:=bE _<|by decide
 have e:(a.fdiv 4+(k:Aa))%16=(((((a.fdiv 4).fmod 16).toNat+k)%16:Aj):Aa):=by rw[Int.natCast_emod,Int.natCast_add,Mc h,g];exact(Int.emod_add_emod ..).symm
 exact BI Bp<|d.trans e
theorem iN(a:Aa):∀m j,CK a j m=(HY j m).map λk=>QB a k:=by
 intro m;induction m with
 |zero=>
  exactλj=>B
 |succ m d=>
  exactλj=>by rw[U9,d<|j+1,Ov,B4]
theorem mY(a:Aa):CK a 0 8=TZ ((a.fdiv 4).fmod 16).toNat:=by rw[iN,<-RB];unfold TZ;exact qG λk _=>AEn a k
theorem pR(a:Aa):QN (Iq a)/\(Iq a).length=6/\(Iq a).head?=D 37:=by
 have z:=Sr<|O4 a 4 0;have r:∀x∈Ht (Cp a 0 4),x≠10/\x≠13:= λx e=>by
  (refine Ap (JY e) λy _ d=>?_;subst d)
  unfold XD;cases G:y==10 with
  |true=>exact⟨(by decide:(32:Int)≠10),(by decide:(32:Int)≠13)⟩
  |false=>cases C:y==13 with
   |true=>exact⟨(by decide:(32:Int)≠10),(by decide:(32:Int)≠13)⟩
   |false=>exact⟨by simpa using G,by simpa using C⟩
 have u:(IU<|Ht<|Cp a 0 4).length=4:=by unfold IU Ht;rw[Ai,Ai,NO]
 refine⟨⟨[37] ++IU (Ht<|Cp a 0 4),[10],B,Ax B,λc v=>?_⟩,by unfold Iq;rw[Ad,Ad,u];rfl,B⟩;rcases IF v with h|h
 ·rw[Cx h];decide
 ·(refine Ap (JY h) λx e d=>?_;subst d)
  refine F3 (z x e) λi L=>?_;refine F3 (r x e) λl j=>?_;have g:∀k,k<256->k≠10->k≠13->(k.toUInt8 !=10&&k.toUInt8 !=13)=true:=by decide
  exact g (Bp x) (RC (c:=256) i L) (λq=>l<|(Pk i).trans<|BI (λn:Aj=>(n:Aa)) q) λq=>j<|(Pk i).trans<|BI (λn:Aj=>(n:Aa)) q
theorem ACB(a:Aa):Gf LA (Iq a)=false:=by rw[KW];intro h;obtain⟨i,e,t,d⟩:=JT.mp h;have:=BI U d;rw[Ad,Eg,(pR a).2.1]at this;exact Ay (AO (Ci ..)<|AO (B8 this)<|LJ ..)<|by decide
theorem mZ(d total:Aa):∃a b,Ih d total=a++[Iq total] ++b/\a++b=TZ ((d.fdiv 4).fmod 16).toNat:=by
 have g:0<=Ig total:=Br _<|by decide
 obtain⟨k,e⟩:∃k:Aj,Ig total=(k:Aa):=⟨(Ig total).toNat,Pk g⟩;unfold Ih;rw[e,Qr,Uv,mY];exact(RD _ _ B<|List.take_append_drop _ _)
theorem iO(g d:Aa):(Ih g d).Nodup/\(Ih g d).length=9/\ ∀r∈Ih g d,QN r/\Gf LA r=AB/\U r<=100:=by
 refine I9 (mZ g d) λa b e e2=>?_;have x:((g.fdiv 4).fmod 16).toNat<16:=RC (c:=16) (Br _<|by decide)<|DC _<|by decide
 refine F3 (yi _ x) λu q=>?_;have i:(TZ ((g.fdiv 4).fmod 16).toNat).length=8:=by unfold TZ;simp
 rw[<-e2]at u q i;have j:∀r∈a++b,QN r/\Gf LA r=AB/\U r<=100/\r.head?≠D 37:= λr j=>by
  have:=q r j;unfold AEm at this;simp only[A4,CR,CX]at this
  (refine F3 this λl y=>?_;obtain⟨⟨G,C⟩,z⟩:=l)
  exact⟨yg G,C,z,by simpa using y⟩
 have hm:=pR d;have v:Iq d∉a++b:= λh=>(j _ h).2.2.2 hm.2.2;rw[e];refine⟨?_,by rw[Ad]at i;simp only[Ad,jX];exact Yb [_,_] [.e (.a A9 BQ)<|.n 8] (.a (.a A9 DB) BQ) (.n 9) [1] [-1] B B i,λr h=>?_⟩
 ·have p:(a++[Iq d] ++b).Perm (Iq d::(a++b)):=by rw[DN];exact List.perm_middle
  exact p.nodup_iff.mpr<|Cj.mpr ⟨v,u⟩
 ·have:r=Iq d\/r∈a++b:=by
   simp only[L5,Tn]at h⊢;rcases h with(h|h)|h
   ·exact BC<|Ax h
   ·exact Ax h
   ·exact BC<|BC h
  rcases this with rfl|h
  ·exact⟨hm.1,ACB d,by rw[hm.2.1];decide⟩
  ·exact⟨(j r h).1,(j r h).2.1,(j r h).2.2.1⟩
theorem ACC:iE Jv:=⟨by decide,[101,110],100,B,by decide⟩
theorem cg: ¬QN Jv:= λ⟨x,e,h,a,_⟩=>by have:=BI List.getLast? h;rcases a with rfl|rfl<;>simp[Jv]at this
theorem Qp(d a:Aa):Fs (Jw d a):=by
 refine NZ (iO d a) λi j g=>?_;unfold Jw;cases d.fmod 2==1 with
 |false=>exact⟨i,⟨Ih d a,[],by simp,λr h=>(g r h).1,Ax B⟩,λr h=>iM (g r h).1 (g r h).2.1,by exact DT [_] [.e A9<|.n 9] A9 (.n 90) [1] B j,λr h=>(g r h).2.2⟩
 |true=>
  refine⟨?_,⟨Ih d a,[Jv],B,λr h=>(g r h).1,BC B⟩,λr h=>?_,by rw[Ad,j];decide,λr h=>?_⟩
  ·refine EH.mpr ⟨i,by simp,λr h q l e=>?_⟩;rw[Cx l]at e;exact cg<|e▸(g r h).1
  ·rcases IF h with h|h
   ·exact iM (g r h).1 (g r h).2.1
   ·rw[Cx h];exact ACC
  ·rcases IF h with h|h
   ·exact(g r h).2.2
   ·rw[Cx h];decide
theorem sh(a d:Aa):(Jw a d).length=match a.fmod 2==1 with|true=>10|false=>9:=by
 have e:=(iO a d).2.1;unfold Jw;cases a.fmod 2==1
 ·exact e
 ·show(Ih a d++[Jv]).length=10;rw[Ad,e];rfl
theorem J9(G:Fs R)(a:Aa){k l:Aj}(e:k<2^U R)(d:l<2^U R):((CJ (Cn R k) a).flatten==(CJ (Cn R l) a).flatten)=(k==l):=by rw[Fz,Fz,aU G,aV e d]
theorem pS(G:Fs R)(a m:Aa):(CJ (Cn R m) a).flatten.length<=sizeLine:=by rw[Fz];exact iJ G m
theorem Uq(G:Fs R)(b o t m:Aj)(h:(o=t/\o=m)\/(b=o/\t=m)\/(b=t/\o=m)):Kn R (D (b:Aa)) (D (o:Aa)) (D (t:Aa))=(Cn R m,AB):=by
 have d:J0 (D (b:Aa)) (D (o:Aa)) (D (t:Aa))=false:=by show(match !((o:Aa)==(t:Aa))with|true=>AB|false=>AB)=AB;cases !((o:Aa)==(t:Aa))<;>rfl
 have a:∀ {k l:Aj},k=l->Gh (SD R) (AG k) (AG l)=true:= λe=>by rw[e];exact DZ.mpr λ_ _=>B
 show Hb R (D (b:Aa)) (D (o:Aa)) (D (t:Aa))=_;unfold Hb;rw[d];exact YI G.nd b o t m AB<|h.imp (λh=>⟨a h.1,a h.2⟩) λh=>h.imp (λh=>⟨a h.1,a h.2⟩) λh=>⟨a h.1,a h.2⟩
theorem yj(P:Bw T)(G:Fs R):pN T R:= λn a b o t Cd v u r x=>by
 (refine Ap (JN v) λb d l=>?_;subst d)
 (refine Ap (JN u) λo d g=>?_;subst d)
 (refine Ap (JN r) λt d j=>?_;subst d)
 have s:=pS G a;cases h:o==t with
 |true=>
  rw[Uq G b o t o<|Ax ⟨Bh.mp h,B⟩];have:=gC P n _ _ _ Cd (s b) (s o) (s t)<|(J9 G a g j).trans h;rw[Fz]at this;exact this
 |false=>
  cases i:b==o with
  |true=>
   rw[Uq G b o t t<|BC<|Ax ⟨Bh.mp i,B⟩];have:=gF P n _ _ _ Cd (s b) (s o) (s t) ((J9 G a g j).trans h)<|(J9 G a l g).trans i;rw[Fz<|Cn R t]at this;exact this
  |false=>
   have q:(b==t)=true:=by
    rcases x with e|e|e
    ·rw[G7.mp e]at h;simp at h
    ·rw[G7.mp e]at i;simp at i
    ·rw[G7.mp e];simp
   rw[Uq G b o t o<|BC<|BC ⟨Bh.mp q,B⟩];have:=XW P n _ _ _ Cd (s b) (s o) (s t) ((J9 G a g j).trans h) ((J9 G a l g).trans i)<|(J9 G a l j).trans q;rw[Fz<|Cn R o]at this;exact this
theorem yk(P:Bw T)(G:Fs R):ADG T R:= λn d i b o t k v N L C z y x=>by
 (refine Ap (JN N) λb a u=>?_;subst a)
 (refine Ap (JN L) λo a r=>?_;subst a)
 (refine Ap (JN C) λt a q=>?_;subst a)
 have s:=pS G d;have j:∀ {k l:Aj},(k:Aa)≠l->(k==l)=false:= λh=>by rw[KW];exactλe=>h<|by rw[Bh.mp e]
 have g:=pQ P n G i (D k) b o t;have e:FU (L0 i (D k) (D8 b 0 R) (D8 o 0 R)<|D8 t 0 R)=AL ((iI R i b o t).map gD++[Oh k]):=by unfold iI L0 FU;rw[Fi,Cv];rfl
 rw[e]at g;exact sJ P n _ _ _ _ (iI R i b o t) k v (MT P.toRq) (by rw[Fz,Fz,Fz,Oj G,Oj G,Oj G];exact g) (ye G i b o t).1 (ye G i b o t).2.1 (s b) (s o) (s t) ((J9 G d r q).trans<|j z) ((J9 G d u r).trans<|j y)<|(J9 G d u q).trans<|j x
theorem YK(x:Aa):(∃k:Aj,x=(k:Aa))\/ ∃k:Aj,x=A5 (k:Aa):=by
 rcases Int.lt_or_le x 0 with h|h
 ·exact BC ⟨(-x-1).toNat,by rw[Mc<|Int.le_sub_one_of_lt<|Int.neg_pos_of_neg h];exact(QT x).symm⟩
 ·exact Ax ⟨Bp x,Pk h⟩
theorem Om(k j:Aj):Bo (A5 (k:Aa)) j= !AG k j:=by
 rw[<-Ed k j];unfold Bo;rw[bitAnd_m1,bitAnd_m1];have hp:(0:Aa)<2^j:=Ra<|by decide
 rw[Im _<|I5 hp,Im _<|I5 hp];have e:A5 (k:Aa)/2^j= -((k:Aa)/2^j)-1:=by
  unfold A5;have g:=Int.mul_ediv_add_emod (k:Aa)<|2^j;have d:=Int.emod_nonneg (k:Aa)<|jM hp;have a:=Int.emod_lt_of_pos (k:Aa) hp;generalize(k:Aa)/2^j=q at*;generalize(k:Aa)%2^j=r at*;generalize(2:Aa)^j=w at*;have e1: -(k:Aa)-1=(w-r-1)+w*(-q-1):=by rw[Int.mul_sub,Int.mul_neg,RP];omega
  rw[e1,Int.add_mul_ediv_left _ _<|jM hp,Int.ediv_eq_zero_of_lt (by omega)<|by omega];omega
 rw[e];generalize(k:Aa)/2^j=q;rw[Ck];simp only[Bh,CR,ACe];rw[show-q-1= -(q+1)from(Int.neg_add ..).symm,Int.neg_emod_two,Int.add_emod];rcases Int.emod_two_eq q with h|h<;>rw[h] <;>decide
theorem YP(x:Aa)(j:Aj):Bo (A5 x) j= !Bo x j:=by
 rcases YK x with⟨k,rfl⟩|⟨k,rfl⟩
 ·rw[Om,Ed]
 ·rw[QT,Om,Ed,Bool.not_not]
theorem pn(k l j:Aj):(k-(k&&&l)).testBit j=(AG k j&& !AG l j):=by
 have h:=VF k k (k&&&l)<|BO _;have e1:k&&&(k&&&l)=k&&&l:=by rw[<-Nat.and_assoc,Nat.and_self]
 have e2:k|||(k&&&l)=k:=qS λi=>by rw[Rc,H6];cases AG k i<;>simp
 rw[e1,e2]at h;have:k-(k&&&l)=k^^^(k&&&l):=Nat.sub_eq_of_eq_add h.symm;rw[this,Fk,H6];cases AG k j<;>cases AG l j<;>rfl
theorem pY(k l:Aj):Ag (k:Aa) (A5 (l:Aa))=((k-(k&&&l):Aj):Aa):=by
 have d:Bx (0<=(k:Aa))=true:=CI<|by exact Av _
 have a:Bx (0<=A5 (l:Aa))=false:=Bc<|by unfold A5;exact jc
 show(match Bx (0<=(k:Aa)),Bx (0<=A5 (l:Aa))with
  |true,J=>_
  |true,AB=>(k:Aa)-(((k:Aa).toNat&&&(A5<|A5 (l:Aa)).toNat:Aj):Aa)
  |false,J=>_
  |false,AB=>_)=_
 rw[d,a]
 dsimp only
 rw[QT];have:k&&&l<=k:=Nat.and_le_left;rw[Fj,Fj,Int.ofNat_sub this]
theorem pg(x y:Aa)(j:Aj):Bo (Ag x y) j=(Bo x j&&Bo y j):=by
 rcases YK x with⟨k,rfl⟩|⟨k,rfl⟩<;>rcases YK y with⟨l,rfl⟩|⟨l,rfl⟩
 ·rw[Oo,Ed,Ed,Ed,H6]
 ·rw[pY,Ed,Ed,Om,pn]
 ·rw[bitAnd_comm,pY,Ed,Ed,Om,pn,Bool.and_comm]
 ·have h:∀n:Aj,Bx (0<=A5 (n:Aa))=false:= λn=>Bc (by unfold A5;exact jc);have e:Ag (A5 (k:Aa)) (A5 (l:Aa))=A5 ((k|||l:Aj):Aa):=by
   show(match Bx (0<=A5 (k:Aa)),Bx (0<=A5 (l:Aa))with
    |true,J=>_
    |true,AB=>_
    |false,J=>_
    |false,AB=>A5 ((A5<|A5 (k:Aa)).toNat|||(A5<|A5 (l:Aa)).toNat:Aj))=_
   rw[h,h]
   dsimp only
   rw[QT,QT];rfl
  rw[e,Om,Om,Om,Rc];cases AG k j<;>cases AG l j<;>rfl
theorem dA(x y:Aa)(j:Aj):Bo (BG x y) j=(Bo x j||Bo y j):=by show Bo (A5<|Ag (A5 x)<|A5 y) j=_;rw[YP,pg,YP,YP];cases Bo x j<;>cases Bo y j<;>rfl
def AEo(b o t u:Aj):Prop:= ∀i,(AG b i=J->AG o i=J/\AG t i=J)/\AG u i=(AG o i||AG t i)
theorem si:AEo 0 0 0 0:=by intro i;simp
theorem yl(cs:I Aa)(a:∀c∈cs,0<=c)(j:Aj):∃k:Aj,cs.getD j 0=(k:Aa):=by
 rw[Al];cases h:cs[j]?with
 |none=>exact⟨0,B⟩
 |some c=>exact⟨Bp c,by have:=a c<|BJ h;exact Pk this⟩
theorem sq:∀m f b o t u c:Ba,((b=J->o=J/\t=J)/\u=(o||t))->((bif m&&f then b||c else b)=J->(bif m then o||c else o)=J/\(bif f then t||c else t)=J)/\(bif m||f then u||c else u)=((bif m then o||c else o)||(bif f then t||c else t)):=by decide
theorem ym(cs:I Aa)(r:∀c∈cs,0<=c)(m f:Aa):∀(n j:Aj) (b o t u:Aj),AEo b o t u->∃l o' g u':Aj,NN (Ag m f) cs j n b=l/\NN m cs j n o=o'/\NN f cs j n t=g/\NN (BG m f) cs j n u=u'/\AEo l o' g u':=by
 intro n;induction n with
 |zero=>exactλj b o t u h=>(WY b o t u B B B B h)
 |succ n q=>
  intro j b o t u h;refine Dx (yl cs r j) λc e=>?_;have a:∀(w:Aa) (x:Aj),NN w cs j (n+1) (x:Aa)=NN w cs (j+1) n ((bif Bo w j then x|||c else x:Aj):Aa):= λw x=>by
   show NN w cs (j+1) n (match Bo w j with|true=>BG (x:Aa) (cs.getD j 0)|false=>(x:Aa))=_;cases Bo w j with
   |false=>rfl
   |true=>rw[e];exact BI (NN w cs (j+1) n)<|mP x c
  have d:∀(w:Ba) (x i:Aj),(bif w then x|||c else x:Aj).testBit i=bif w then AG x i||AG c i else AG x i:= λw x i=>by
   cases w with
   |false=>rfl
   |true=>exact Rc x c i
  rw[a,a,a,a,pg,dA];refine q (j+1) _ _ _ _ λi=>?_;rw[d,d,d,d];exact sq _ _ _ _ _ _ _<|h i
theorem aW(G:Fs R)(b o t u:Aj)(h:∀j∈SD R,(AG b j=AG o j->AG u j=AG t j)/\(AG b j=AG t j->AG u j=AG o j)/\(AG o j=AG t j->AG u j=AG o j))(r:NR b o t (E3 R b o t)=AB):(J8 R b o t (E3 R b o t)).flatten=Cn R u:=by
 have g:=G.nd;have L:∀j∈SD R,keepB b o t j=J->AG u j=true:= λj a N=>by refine NZ (cb N) λO v k3=>?_;rw[(h j a).2.2<|v.trans k3.symm];exact v
 rw[aT b o t (AG u) _ λq x=>?_]
 ·show(TX R (AG u)<|Fq (keepB b o t) (DL<|U R) []).flatten=_;rw[YH (keepB b o t) (AG u) _ [] L];unfold Cn;rw[HB];rfl
 ·have hz:=(N2 b o t q x).1;have d:∀j∈q.1,j∈SD R:= λj a=>U0<|hz j a;have l:LD b o t q.1=true:=by unfold NR at r;rw[Uz]at r;simpa using r q x
  have i:∀ {p:Aj->Ba},(∀j∈q.1,p j=AG u j)->pk R p q.1=pk R (AG u) q.1:= λe=>Bh.mp<|(cX g hz).mpr e;unfold Q3;rw[H3 g hz,H3 g hz,H3 g hz];unfold LD at l;cases C:Gh q.1 (AG o) (AG t)with
  |true=>exact i λj a=>((h j<|d j a).2.2<|(DZ.mp C) j a).symm
  |false=>
   cases z:Gh q.1 (AG b) (AG o)with
   |true=>exact i λj a=>((h j<|d j a).1<|(DZ.mp z) j a).symm
   |false=>
    cases y:Gh q.1 (AG b) (AG t)with
    |true=>exact i λj a=>((h j<|d j a).2.1<|(DZ.mp y) j a).symm
    |false=>rw[C,z,y]at l;exact Pm l
theorem yn:∀s b o t u,((b=J->o=J/\t=J)/\u=(o||t))->((s^^b)=(s^^o)->(s^^u)=(s^^t))/\((s^^b)=(s^^t)->(s^^u)=(s^^o))/\((s^^o)=(s^^t)->(s^^u)=(s^^o)):=by decide
theorem pT(G:Fs R)(st:Aa)(cs:I Aa)(h0:0<=st)(a:∀c∈cs,0<=c)(m f:Aa):∃b o t u:Aj,Ip st cs (Ag m f)=b/\Ip st cs m=o/\Ip st cs f=t/\Ip st cs (BG m f)=u/\
  ∀j,(AG b j=AG o j->AG u j=AG t j)/\(AG b j=AG t j->AG u j=AG o j)/\(AG o j=AG t j->AG u j=AG o j):=by
 obtain⟨s,rfl⟩:∃s:Aj,st=(s:Aa):=⟨Bp st,Pk h0⟩;refine Gv (ym cs a m f (U cs) 0 0 0 0 0 si) λb o t u e1 e2 e3 e4 h=>?_;refine(WY (s^^^b) (s^^^o) (s^^^t) (s^^^u) ?_ ?_ ?_ ?_ λj=>?_)
 ·unfold Ip;rw[show(0:Aa)=((0:Aj):Aa)from B,e1,M9]
 ·unfold Ip;rw[show(0:Aa)=((0:Aj):Aa)from B,e2,M9]
 ·unfold Ip;rw[show(0:Aa)=((0:Aj):Aa)from B,e3,M9]
 ·unfold Ip;rw[show(0:Aa)=((0:Aj):Aa)from B,e4,M9]
 ·rw[Fk,Fk,Fk,Fk];exact yn _ _ _ _ _<|h j
theorem YQ(b o t:Aj):Kn R (D (b:Aa)) (D (o:Aa)) (D (t:Aa))=Jc R b o t (U R+1) 0 [] [] false:=by
 have a:J0 (D (b:Aa)) (D (o:Aa)) (D (t:Aa))=false:=by show(match !((o:Aa)==(t:Aa))with|true=>AB|false=>AB)=AB;cases !((o:Aa)==(t:Aa))<;>rfl
 show Hb R (D (b:Aa)) (D (o:Aa)) (D (t:Aa))=_;unfold Hb;rw[a];rfl
theorem yo(G:Fs W.rows)(h0:0<=W.start)(e:∀c∈W.changes,0<=c)(m f:Aa):cS W m f=TK W m f:=by
 refine Gv (pT G W.start W.changes h0 e m f) λb o t u e1 e2 e3 e4 h=>?_;have d:cS W m f=((J8 W.rows b o t<|E3 W.rows b o t).flatten,NR b o t<|E3 W.rows b o t):=by unfold cS Mk;rw[e1,e2,e3,YQ,QP G.nd,OC]
 unfold TK;cases a:NR b o t (E3 W.rows b o t)with
 |true=>rw[d,a]
 |false=>
  rw[d,a];show _=(HJ W<|BG m f,AB);unfold HJ Mk;rw[e4,aW G b o t u (λj _=>h j) a]
theorem AEp(P:Bw T)(G:Fs W.rows)(h0:0<=W.start)(d:∀c∈W.changes,0<=c)(a:∀m,inR W.rows (Mk W m)):MOk T W:= λn m f=>by
 have:=iK P G n W.Aw W.total (D<|Mk W<|Ag m f) (D<|Mk W m) (D<|Mk W f) (λx h=>by obtain rfl:=AE h;exact a _) (λx h=>by obtain rfl:=AE h;exact a _) λx h=>by obtain rfl:=AE h;exact a _
 have e:Kn W.rows (D<|Mk W<|Ag m f) (D<|Mk W m) (D<|Mk W f)=TK W m f:=yo G h0 d m f;rw[e]at this;exact this
noncomputable def IX(k:Aa)(a:Ba)(p:Aa):I Int:=match a with
 |true=>Oi k p
 |false=>De AQ (D 1)<|Oi k p
noncomputable def aX(k:Aa):I (I Aa):=([J,AB].flatMap λc=>[(0:Aa),1,2,3].map λp=>IX k c p).eraseDups
noncomputable def Mu(a:Ba):I (I Aa):=match a with
 |true=>[[],[0],[0],[1,2],[2,1]]
 |false=>[[],[0],[0]]
noncomputable def wcC(Dl:I (I Aa)):Wc:=(HY 0<|U Dl).foldl (RL Dl) ⟨[],[],[]⟩
noncomputable def wdC(Dl:I (I Aa))(w:Wc):Wd:=⟨[],0,[],w.fk,w.JO,w.whole,0,0⟩
noncomputable def md(Dl:I (I Aa))(a:Ba)(p:Aj):I Int:=match a with
 |true=>De AQ (D 2)<|(Ks<|(U Dl:Aa)-1).getD p []
 |false=>(Ks<|(U Dl:Aa)-1).getD p []
noncomputable def yq(Dl:I (I Aa)):Bool:=(DL<|U Dl).all λk=>(Ik Dl k).all λe=>Bx (0<=e)&&Bx (e<(k:Aa))
noncomputable def okC(Dl:I (I Aa))(a:Ba):Bool:=
 let w:=wcC Dl
 let W:=wdC Dl w
 yq Dl&&EV (U Dl) 90&&EV (U w.whole) 100&&Dl.all (λl=>EV (U l) 900)&&(DL 6).all λp=> !(md Dl a p).isEmpty&&((md Dl a p).all (SE W)&&Ny W 5 (md Dl a p))
noncomputable def IK(a:Ba):Aj->I (I Aa)->Ba
 |0,Dl=>okC Dl a
 |n+1,Dl=>okC Dl a&&(aX (U Dl)).all λl=>IK a n (Dl++[l])
theorem Tb:IK a (n+1) Dl=(okC Dl a&&(aX (U Dl)).all λl=>IK a n (Dl++[l])):=B
theorem su:∀ {l:I (I Aa)},a∈l->a∈l.eraseDups:= λh=>by rw[tX];exact h
theorem ACE(k x:Aa):VY k x∈aX k:=by
 unfold aX;refine su<|List.mem_flatMap.mpr<|CB (Bx<|1<FE x) ?_<|iW.mpr ⟨FE<|EE x,?_,?_⟩
 ·cases Bx (1<FE x)<;>simp
 ·have e:=Br (EE x) (b:=4) (by decide);have d:=DC (EE x) (b:=4)<|by decide
  have a:FE (EE x)=0\/FE (EE x)=1\/FE (EE x)=2\/FE (EE x)=3:=by unfold FE;omega
  rcases a with h|h|h|h<;>rw[h] <;>simp
 ·unfold VY IX;rfl
theorem pU(a:Ba):∀(xs:I Aa) n st,IK a n st.1=J->U xs<=n->okC (xs.foldl HT st).1 a=J
 |[],0,st,h,_=>h
 |[],n+1,st,h,_=>by rw[Tb]at h;rw[A4]at h;exact h.1
 |x::xs,0,st,_,d=>by simp at d
 |x::xs,n+1,st,h,d=>by rw[Tb]at h;rw[A4,Cu]at h;exact pU a xs n (HT st x) (h.2 _ (ACE _ x)) (by simpa using d)
structure Iu(W V:Wd):Prop where
 fk:W.fk=V.fk
 JO:W.JO=V.JO
 whole:W.whole=V.whole
theorem Iu.SE(h:Iu W V)(i:Aa):SE W i=SE V i:=by unfold Mine.SE;rw[h.whole]
theorem Iu.KD(h:Iu W V)(i:Aa):KD W i=KD V i:=by unfold Mine.KD;rw[h.whole]
theorem Iu.PQ(h:Iu W V):∀l m,G1.PQ W m l=G1.PQ V m l:=by
 intro l;induction l with
 |nil=>
  exactλ_=>B
 |cons i r j=>
  exactλm=>by unfold G1.PQ;rw[h.KD,j]
theorem Iu.G1(h:Iu W V):∀l,G1 W l=G1 V l
 |[] =>B
 |[i] =>h.KD i
 |i::j::r=>by show G1.PQ W (Mine.KD W i) (j::r)=G1.PQ V (Mine.KD V i) (j::r);rw[h.KD,h.PQ]
theorem Iu.bases(h:Iu W V)(bs:I Aa):TL W bs=TL V bs:=by
 have e1:=uC h.SE;have e2:Kr W=Kr V:=by funext k l;unfold Kr;rw[show Mine.KD W=Mine.KD V from uC h.KD]
 unfold TL;rw[e1,e2]
theorem Iu.plc(h:Iu W V)(rec:I Aa->Ba):∀rest i m,TM W rec m i rest=TM V rec m i rest:=by
 intro rest;induction rest with
 |nil=>
  exactλ_ _=>B
 |cons j rest u=>
  exactλi m=>by
   unfold TM;rw[h.fk,h.JO];cases gq V.fk V.JO (EZ j) (i.map EZ)with
   |none=>rfl
   |some r=>
    dsimp only
    rw[h.SE,h.bases,h.G1,h.KD,u]
theorem Iu.good(h:Iu W V):∀f j,Ny W f j=Ny V f j
 |0,_=>B
 |_+1,[] =>B
 |f+1,i::rest=>by unfold Ny;rw[h.SE,h.KD,h.plc,show Ny W f=Ny V f from uC (Iu.good h f)]
def Qq(n:Aj)(x:Aa):Prop:= ∃k:Aj,x=(k:Aa)/\k<2^n
theorem Qq.or{n:Aj}{x y:Aa}(h:Qq n x)(g:Qq n y):Qq n (BG x y):=by
 (refine Ap h λk i u=>?_;subst i)
 (refine Ap g λl i j=>?_;subst i)
 exact⟨k|||l,mP k l,Nat.or_lt_two_pow u j⟩
theorem Qq.xor{n:Aj}{x y:Aa}(h:Qq n x)(g:Qq n y):Qq n (B1 x y):=by
 (refine Ap h λk i u=>?_;subst i)
 (refine Ap g λl i j=>?_;subst i)
 exact⟨k^^^l,M9 k l,Nat.xor_lt_two_pow u j⟩
theorem Qq.of{n:Aj}{x:Aa}(h0:0<=x)(h:x<(2^n:Aj)):Qq n x:=⟨Bp x,Pk h0,RC h0 h⟩
theorem Qq.le{n m:Aj}{x:Aa}(h:Qq n x)(i:n<=m):Qq m x:=(by refine Ap h λk e l=>?_;exact⟨k,e,Dz l<|Rf (by exact Ej _) i⟩)
theorem Qq.inR{R:Rows}{x:Aa}(h:Qq (U R) x):inR R x:=by
 (refine Ap h λk i j=>?_;subst i)
 refine⟨Av k,?_⟩;have:((k:Aj):Aa)<((2^U R:Aj):Aa):=Kd.mpr j;rw[Yw]at this;exact this
theorem cj(x:Aa):Qq 9 (fI (x.fmod 9)):=by
 have d:=Br x (b:=9)<|by decide
 have a:=DC x (b:=9)<|by decide
 refine⟨2^(x.fmod 9).toNat,by unfold fI;rw[RO,Yw];rfl,Nat.pow_lt_pow_right (by exact BO _)<|RC (c:=9) d a⟩
theorem Ur(f k:Aa):Qq 9 (Dj f k):=by
 unfold Dj;cases(f.fdiv 9).fmod 2==1
 ·exact cj _
 ·exact(cj _).or<|cj _
theorem QQ{n:Aj} :Qq n 0:=⟨0,B,Nat.two_pow_pos n⟩
theorem ACF(w:Aa)(cs:I Aa)(d:∀c∈cs,Qq n c):∀m j t,Qq n t->Qq n (NN w cs j m t):=by
 intro m;induction m with
 |zero=>
  exactλ_ _ h=>h
 |succ m a=>
  exactλj t h=>by
   rw[ABF];refine a (j+1) _ ?_;cases Bo w j with
   |false=>exact h
   |true=>
    refine h.or ?_;rw[Al];cases e:cs[j]?with
    |none=>exact QQ
    |some c=>exact d c<|BJ e
theorem AEq(d:Ba):∀(xs:I Aa) st,(∀c∈st.2,Qq 9 c)->U st.2=U st.1->(∀c∈(xs.foldl HT st).2,Qq 9 c)/\(xs.foldl HT st).2.length=(xs.foldl HT st).1.length:=by
 intro xs;induction xs with
 |nil=>
  exactλst h a=>⟨h,a⟩
 |cons x xs g=>
  exactλst h a=>by
   refine g (HT st x) (λc hc=>?_)<|by unfold HT;simp[a]
   rcases IF hc with hc|hc
   ·exact h c hc
   ·rw[Cx hc];unfold chE;cases FE x==1 with
    |false=>exact Ur _ _
    |true=>
     show Qq 9<|st.2.getD _ 0;rw[Al];cases e:st.2[U st.1-1]?with
     |none=>exact QQ
     |some c=>exact h c<|BJ e
theorem pV(a d:Aa):(∀c∈TN a d,Qq 9 c)/\(TN a d).length=(Q1 a).length:=by
 unfold TN Q1;cases It a with
 |true=>refine⟨λc e=>?_,B⟩;simp only[CV,Au,JQ]at e;rcases e with rfl|rfl|rfl|rfl|rfl<;>first|exact QQ|exact Ur _ _
 |false=>refine⟨λc e=>?_,B⟩;simp only[CV,Au,JQ]at e;rcases e with rfl|rfl|rfl<;>first|exact QQ|exact Ur _ _
theorem V6(s:I Aa):(∀c∈(Ul s).2,Qq 9 c)/\(Ul s).2.length=(Ul s).1.length:=AEq J _ _ (pV _ _).1 (pV _ _).2
theorem aY(s:I Aa):(Ca s).length=match(D9 (CF s)).fmod 2==1 with|true=>10|false=>9:=sh _ _
theorem pW(s:I Aa):9<=(Ca s).length:=by rw[aY];cases(D9<|CF s).fmod 2==1<;>decide
theorem YL(s:I Aa):Qq (Ca s).length (HS (D9 (CF s))):=by
 have a:Qq 9 (B1 365<|((D9<|CF s).fdiv 12).fmod 512):=(Qq.of (x:=365) (by decide)<|by decide).xor<|Qq.of (Br _<|by decide)<|DC _<|by decide
 rw[aY];unfold HS;cases(D9<|CF s).fmod 2==1 with
 |true=>exact(a.le<|by decide).or<|Qq.of (by decide)<|by decide
 |false=>exact a
theorem ADJ(s:I Aa)(m:Aa):Qq (Ca s).length (Mk (WW s) m):=by show Qq _<|Ip (HS<|D9<|CF s) (Ul s).2 m;unfold Ip;exact(YL s).xor<|ACF m _ (λc a=>((V6 s).1 c a).le<|pW s) _ _ _ QQ
theorem AEr(s:I Aa)(m:Aa):inR (Ca s) (Ag (Mk (WW s) m) 511):=by
 have h:=bitAnd_range (Mk (WW s) m) (y:=511)<|by decide
 exact((Qq.of (n:=9) h.1<|Tv h.2<|by decide).le<|pW s).inR
section
set_option backward.match.sparseCases true
set_option tactic.hygienic true
theorem ADK{P:I Aa->Prop}(h0:P (IX k J 0))(r:P (IX k J 1))(q:P (IX k J 2))(j:P (IX k J 3))(i:P (IX k AB 0))(g:P (IX k AB 1))(e:P (IX k AB 2))(d:P (IX k AB 3)):∀l∈aX k,P l:= λl a=>by unfold aX at a;rw[tX]at a;exact(Eh.mpr ⟨h0,Eh.mpr ⟨r,Eh.mpr ⟨q,Eh.mpr ⟨j,Eh.mpr ⟨i,Eh.mpr ⟨g,Eh.mpr ⟨e,Eh.mpr ⟨d,λx h=>Ay h Au⟩⟩⟩⟩⟩⟩⟩⟩:∀l∈[IX k J 0,IX k J 1,IX k J 2,IX k J 3,IX k AB 0,IX k AB 1,IX k AB 2,IX k AB 3],P l) l a
theorem g_t:okC (Mu J) J=true:=by decide+kernel
theorem AJK:IK J 2 (Mu J++[IX 5 J 0])=true:=by decide+kernel
theorem AJL:IK J 2 (Mu J++[IX 5 J 1])=true:=by decide+kernel
theorem AJM:IK J 2 (Mu J++[IX 5 J 2])=true:=by decide+kernel
theorem AJN:IK J 2 (Mu J++[IX 5 J 3])=true:=by decide+kernel
theorem AJO:IK J 2 (Mu J++[IX 5 AB 0])=true:=by decide+kernel
theorem AJP:IK J 2 (Mu J++[IX 5 AB 1])=true:=by decide+kernel
theorem AJQ:IK J 2 (Mu J++[IX 5 AB 2])=true:=by decide+kernel
theorem AJR:IK J 2 (Mu J++[IX 5 AB 3])=true:=by decide+kernel
theorem sv:IK J 3 (Mu J)=true:=by rw[Tb,g_t,dE,Cu];exact ADK AJK AJL AJM AJN AJO AJP AJQ AJR
theorem g_f:okC (Mu AB) AB=true:=by decide+kernel
theorem AJS:IK AB 2 (Mu AB++[IX 3 J 0])=true:=by decide+kernel
theorem AJT:IK AB 2 (Mu AB++[IX 3 J 1])=true:=by decide+kernel
theorem AJU:IK AB 2 (Mu AB++[IX 3 J 2])=true:=by decide+kernel
theorem AJV:IK AB 2 (Mu AB++[IX 3 J 3])=true:=by decide+kernel
theorem AJW:IK AB 2 (Mu AB++[IX 3 AB 0])=true:=by decide+kernel
theorem AJX:IK AB 2 (Mu AB++[IX 3 AB 1])=true:=by decide+kernel
theorem AJY:IK AB 2 (Mu AB++[IX 3 AB 2])=true:=by decide+kernel
theorem AJZ:IK AB 2 (Mu AB++[IX 3 AB 3])=true:=by decide+kernel
theorem mf:IK AB 3 (Mu AB)=true:=by rw[Tb,g_f,dE,Cu];exact ADK AJS AJT AJU AJV AJW AJX AJY AJZ
end
theorem yr(c:Ba):IK c 3 (Mu c)=true:=match c with|true=>sv|false=>mf
theorem sx(s:I Aa):(PA s).length<=3:=by unfold PA CF;have e1:De AQ (D (4:Aa)) s=s.take 4:=Qr 4 s;have e2:De (D (1:Aa)) AQ (s.take 4)=(s.take 4).drop 1:=Uv 1 _;rw[e1,e2,Eg,GK];exact RY<|MD 4 _
theorem AEs(s:I Aa):okC (Ul s).1 (It (D9 (CF s)))=true:=by have e:Q1 (D9<|CF s)=Mu (It<|D9<|CF s):=B;exact pU _ (PA s) 3 (Q1<|D9<|CF s,TN (D9<|CF s) (CF s).sum) (by rw[e];exact yr _)<|sx s
theorem ACG(s:I Aa):Iu (WW s) (wdC (Ul s).1 (wcC (Ul s).1)):=⟨B,B,B⟩
theorem AEt(s:I Aa):Hf s=md (Ul s).1 (It (D9 (CF s))) ((CF s).sum.fmod 6).toNat:=B
structure OkC(Dl:I (I Aa))(cross:Ba):Prop where
 kok:pK Dl
 kl:U Dl<=90
 whole:(wcC Dl).whole.length<=100
 mq:∀l∈Dl,U l<=900
 ids:∀p,p<6->md Dl cross p≠ [] /\(∀i∈md Dl cross p,SE (wdC Dl (wcC Dl)) i=J)/\Ny (wdC Dl (wcC Dl)) 5 (md Dl cross p)=J
theorem AEu(h:okC Dl cross=J):OkC Dl cross:=by
 unfold okC at h
 dsimp only at h
 simp only[A4,Cu]at h
 (refine F3 h λd r=>?_;obtain⟨⟨⟨g,x⟩,v⟩,u⟩:=d)
 refine⟨λk j e q=>?_,Be x,Be v,λl i=>Be<|u l i,λp hp=>?_⟩
 ·unfold yq at g;rw[Cu]at g;have:=g k<|U0 j;rw[Cu]at this;have:=this e q;rw[A4,CX,CX]at this;exact this
 ·refine NZ (r p<|U0 hp) λa b c=>?_;refine⟨λe=>?_,b,c⟩;rw[e]at a;cases a
theorem ACH(s:I Aa):((CF s).sum.fmod 6).toNat<6:=by
 have d:=Br (CF s).sum (b:=6)<|by decide
 have a:=DC (CF s).sum (b:=6)<|by decide
 exact RC (c:=6) d a
theorem tA(R:Rows)(G:Fs R):U R.flatten<=100000:=by have d:=YJ R G.short;have a:=G.mq;exact DT [_,_] [.l A9<|.m 100 BQ,.l BQ<|.n 90] A9 (.n 100000) [1,100] B d a
theorem yt(s:I Aa)(hs:U s<=63):mJ s:=by
 have K:=AEu<|AEs s;have G:Fs (Ca s):=Qp _ _;have A:=ACG s;refine NZ (K.ids _<|ACH s) λg d a=>?_;rw[<-AEt]at g d a;refine{len:=hs,Dl:=K.kok,mq:= λj=>?_,kl:=K.kl,good:=?_,wok:=⟨G.mq,G.short,tA _ G,?_,K.whole⟩,ne:=g,inw:= λi h=>?_,inr:= λm=>(ADJ s m).inR}
 ·unfold Ik;rw[Al];cases e:(Ul s).1[j]?with
  |none=>exact D1 _
  |some l=>exact K.mq l<|BJ e
 ·rw[A.good];exact a
 ·show(Ul s).2.length<=100;rw[(V6 s).2];have:=K.kl;exact AO (by assumption)<|by decide
 ·rw[A.SE];exact d i h
theorem AHN(P:Bw T)(s:I Aa):MOk T (WW s):=by
 refine AEp P (W:=WW s) (Qp _ _) ?_ (λc a=>?_) λm=>(ADJ s m).inR
 ·refine Ap (YL s) λk e _=>?_;show 0<=HS _;rw[e];exact Av k
 ·refine Ap ((V6 s).1 c a) λk e _=>?_;rw[e];exact Av k
theorem tB(h:∀j,Bo w j=Bo v j)(cs:I Aa):∀m j t,NN w cs j m t=NN v cs j m t:=by
 intro m;induction m with
 |zero=>
  exactλ_ _=>B
 |succ m a=>
  exactλj t=>by unfold NN;rw[h j,a<|j+1]
theorem mh(w:I Aa)(j:Aj):∀l m,Bo (LX w l m) j=(Bo m j||l.any λe=>Bo (pJ w e) j):=by
 intro l;induction l with
 |nil=>
  exactλm=>by rw[sN];simp
 |cons e l a=>
  exactλm=>by rw[sO];rw[a,dA,G5,dJ]
theorem yx(W:Wd)(j:Aj):∀l m,Bo (G1.PQ W m l) j=(Bo m j||l.any λe=>Bo (KD W e) j):=by
 intro l;induction l with
 |nil=>
  exactλm=>by unfold G1.PQ;simp
 |cons e l a=>
  exactλm=>by unfold G1.PQ;rw[a,dA,G5,dJ]
theorem tC(W:Wd)(j:Aj)(l:I Aa)(a:l≠ []):Bo (G1 W l) j=l.any λe=>Bo (KD W e) j:=by
 cases l with
 |nil=>exact Ay B a
 |cons i r=>rw[Xz,yx,G5]
theorem tD(s:I Aa)(h:Hf s≠ []):Hf s=ZQ s++[ZS s] :=by
 have a:=List.length_pos_iff.mpr h;have e1:ZQ s=(Hf s).take ((Hf s).length-1):=by unfold ZQ;rw[show((Hf s).length:Aa)-1=(((Hf s).length-1:Aj):Aa)from SM (T9 a),Qr]
 have e2:ZS s=(Hf s).getLast h:=by unfold ZS;rw[List.getLast_eq_getElem,Al,AR<|WT a];rfl
 rw[e1,e2,<-List.dropLast_eq_take];exact(List.dropLast_concat_getLast h).symm
theorem yu(s:I Aa)(h:Hf s≠ [])(j:Aj):Bo (G1 (WW s) (Hf s)) j=Bo (BG (ZR s) (J7 s)) j:=by
 rw[tC _ _ _ h,dA];unfold ZR J7;rw[mh,show Bo (0:Aa) j=AB from(Ed 0 j).trans (WN j),OC]
 conv=>lhs;rw[tD s h]
 rw[zx,G5,List.any_nil,dI];rfl
theorem yv(s:I Aa)(h:Hf s≠ []):TS s=Mk (WW s) (BG (ZR s) (J7 s)):=by unfold TS Mk Ip;rw[tB<|yu s h]
theorem ACI:∀b o t,((b^^o)&&(b^^t))=AB->b=o\/b=t:=by decide
theorem ACJ:∀b o t u,(b=o\/b=t)->((b=o->u=t)/\(b=t->u=o)/\(o=t->u=o))->(t&&u&&b)=(b&&o&&t):=by decide
theorem ACK:∀b o t u:Ba,(b=o\/b=t)->((b=o->u=t)/\(b=t->u=o)/\(o=t->u=o))->(t=u->o=b)/\(t=b->o=u)/\(u=b->o=u):=by decide
theorem ACL(s:I Aa)(h:Hf s≠ [])(N:(Mt s).2=AB)(y:aR s=J):Kn (Ca s) (D (Dp s)) (D (TS s)) (D (Dn s))=(Un s (DM s),AB):=by
 have G:Fs (Ca s):=Qp _ _;have h0:0<=HS (D9<|CF s):=by refine Ap (YL s) λk e _=>?_;rw[e];exact Av k
 have v:∀c∈(Ul s).2,0<=c:= λc v=>by refine Ap ((V6 s).1 c v) λk e _=>?_;rw[e];exact Av k
 refine Gv (pT G (HS<|D9<|CF s) (Ul s).2 h0 v (ZR s)<|J7 s) λb o t u e1 e2 e3 e4 r=>?_;have eB:Dn s=(b:Aa):=e1;have L:DM s=(o:Aa):=e2;have C:Dp s=(t:Aa):=e3;have eM:TS s=(u:Aa):=(yv s h).trans e4;have fl:∀j,AG b j=AG o j\/AG b j=AG t j:= λj=>by unfold aR at y;rw[Bh,eB,L,C,M9,M9,Oo]at y;have z:=G7.mp y;have:=BI (λx:Aj=>AG x j) z;rw[show(((b^^^o)&&&(b^^^t)).testBit j)=_ from H6 ..,Fk,Fk,WN]at this;exact ACI _ _ _ this
 have Q:keepB t u b=keepB b o t:=uC λj=>by unfold keepB;exact ACJ _ _ _ _ (fl j)<|r j
 have O:E3 (Ca s) t u b=E3 (Ca s) b o t:=by unfold E3;rw[Q]
 have i:NR b o t (E3 (Ca s) b o t)=false:=by
  have e:Mt s=((J8 (Ca s) b o t<|E3 (Ca s) b o t).flatten,NR b o t<|E3 (Ca s) b o t):=by unfold Mt;rw[eB,L,C,YQ,QP G.nd,OC]
  rw[e]at N;exact N
 have d:NR t u b (E3 (Ca s) t u b)=false:=by
  rw[O];refine iG _ _ _ _ λq d=>?_;have g:LD b o t q.1=true:=by unfold NR at i;rw[Uz]at i;simpa using i q d
  unfold LD at g⊢;rw[Pg,Pg]at g;rcases g with(l|l)|l
  ·have:=DZ.mpr λj a=>((r j).1<|(DZ.mp l) j a).symm;rw[this];rfl
  ·have:=DZ.mpr λj a=>((DZ.mp l) j a).symm;rw[this,AFU];rfl
  ·have:=DZ.mpr λj a=>by
    have e:=(DZ.mp l) j a;rcases fl j with f|f
    ·exact(f.trans e).symm
    ·exact f.symm
   rw[this,AFU];rfl
 rw[C,eM,eB,YQ,QP G.nd,d,OC];unfold Un;rw[L,aW G t u b o (λj _=>?_) d];exact ACK _ _ _ _ (fl j)<|r j
theorem ACN(s:I Aa)(hs:U s<=63):cW s:= {yt s hs with join:= λd a=>ACL s (yt s hs).ne d a,low:=AEr s}
section
set_option backward.match.sparseCases true
set_option tactic.hygienic true
theorem ACO(P:Bw T)(e:T.gp=ID)(s:I Aa)(hs:U s<=63){st:Bq}(a:Le 13 A)(g:A.frames=D [])(d:Cm T st)(x:Hs T X st.heap)(tv:Tr T st.heap X (AL (AZ s)) v)
  (h:∀s',C1 T st.heap s'.heap->Cm T s'->R (zr (N8 (FH J))) s'):Mf (M T) A (qB (AH 1277) ⟨[v],[]⟩) R st:=
 yR P e s (ACN s hs) (iK P<|Qp _ _) (AHN P s) (yj P<|Qp _ _) (yk P<|Qp _ _) a g d x tv h
end
theorem aZ:∀ {d:I NU} {as:I Aj} {i a:Aj} {o:NU},(a,o)∈Nb i d as->i<=a/\d[a-i]? =D o
 |[],_,_,_,_,h=>by simp[di,iT,Wa]at h
 |_::_,[],_,_,_,h=>by simp[di,iT,Wa]at h
 |p::d,b::as,i,a,o,h=>by
  rw[Wa]at h;have next:∀ {as':I Aj},(a,o)∈Nb (i+1) d as'->i<=a/\(p::d)[a-i]? =D o:= λh=>by obtain⟨g,j⟩:=aZ h;refine⟨DT [_,_] [.l (.a A9 DB) BQ] A9 BQ [1] B g,?_⟩;rw[show a-i=(a-(i+1))+1 from jd g,dZ];exact j
  cases e:C8 b i with
  |true=>
   rw[e]at h;rcases DO h with h|h
   ·obtain⟨rfl,rfl⟩:=FL h;obtain rfl:=DJ e;exact⟨BO _,by rw[AF4];rfl⟩
   ·exact next h
  |false=>rw[e]at h;exact next h
theorem YM:∀ {l:I (Aj×NU)} {q:Aj×NU},q=p\/q∈l->q∈uY p l
 |[],q,h=>by rcases h with h|h<;>simp_all [uY]
 |r::l,q,h=>by
  unfold uY
  split
  ·exact CV.mpr h
  ·rcases h with h|h
   ·exact CV.mpr (BC (YM (Ax h)))
   ·rcases DO h with h|h
    ·exact h▸Hh
    ·exact CV.mpr (BC (YM (BC h)))
theorem aa:∀ {l:I (Aj×NU)},q∈l->q∈dj l
 |p::l,h=>YM ((DO h).imp id aa)
theorem picked{s:Bq}(e:uZ f (Nb 0 s.heap.objs.toList as)=dj l)(h:(a,o)∈l)(q:∀c d g,f ⟨c,d,ACm,g⟩=⟨c,d,ACm,g⟩)(r:o.data≠ACm):∃o',AA s.heap a=D o'/\f o'=o:=by have m:=aa h;rw[<-e]at m;obtain⟨⟨b,o'⟩,j,i⟩:=JY m;obtain⟨rfl,rfl⟩:=FL i;have:=(aZ j).2;rw[jO,Array.getElem?_toList]at this;refine(CB o' ?_ B);unfold AA;rw[this];obtain⟨c,d,u,g⟩:=o';cases u<;>first|rfl|exact Ay (by rw[q]) r
noncomputable def Tc(o:NU):Bool:=match o.data with|.freed=>AB|_=>J
theorem VG(h:Tc o=J):o.data≠ACm:= λe=>by unfold Tc at h;rw[e]at h;cases h
theorem AHP:(K1.all Tc&&UG.all Tc)=true:=by kernel_rfl!
noncomputable abbrev rwX:OpenRow:=Jp.row
noncomputable def thX(w:dB)(s:Bq)(a d:Bt->AW Am):Th:=⟨w,s.heap,s.os,a,d,MZ,QU,Uu,ID⟩
theorem YN:∀ {l:I d} {a:d},l.map f=l.map g->a∈l->f a=g a
 |_::_,_,h,m=>by
  obtain⟨i,e⟩:=HW h;rcases DO m with rfl|m
  ·exact i
  ·exact YN e m
theorem ACQ(G:Ground vq QS [] (XL vq []) w s₀ mg mb s₁.heap)(Y:tJ s₀=tK w)(j:∀b o,AA s₀.heap b=D o->AA s₁.heap b=D o):
  Bw (thX w s₁ mg mb)/\ ∀a,MZ a->AA s₁.heap a=D (T2 #[]):=by
 obtain⟨Y1,Y⟩:=FL Y;obtain⟨Y2,Y⟩:=FL Y;obtain⟨Y3,Y⟩:=FL Y;obtain⟨Y4,Y⟩:=FL Y;obtain⟨Y5,Y⟩:=FL Y;obtain⟨Y6,Y7⟩:=FL Y;have F:=Ew AHP;have Tf:∀a o,(a,o)∈Lb.zip K1->∃o',AA s₁.heap a=D o'/\U4 o'=o:= λa o h=>by obtain⟨o',y,u⟩:=picked Y1 h (λ_ _ _=>B)<|VG<|Kz F.1 _ (Df h).2;exact(CB o' (j _ _ y) u)
 have pX:∀a o,(a,o)∈UE.zip UG->∃o',AA s₁.heap a=D o'/\nW o'=o:= λa o h=>by obtain⟨o',y,u⟩:=picked Y3 h (λ_ _ _=>B)<|VG<|Kz F.2 _ (Df h).2;exact(CB o' (j _ _ y) u)
 have C:∀x v,(x,v)∈Zd->s₀.heap.nsMap Bg x=v:= λx v h=>YN (f:= λp=>s₀.heap.nsMap Bg p.1) (g:=(·.2)) Y2 h;have a1:∀x,s₀.heap.nsMap Bg x=mg x:=by
  obtain⟨o,es,ep,ho,hd,_,hm⟩:=G.T.g;cases e:AA s₀.heap Bg with
  |none=>
   have:=C _ _ Hh;unfold AIJ at this;rw[e]at this;cases this
  |some o'=>
   have:=j _ _ e;rw[ho]at this;cases this;intro x;unfold AIJ;rw[e]
   dsimp only
   rw[hd];exact hm x
 have q:∀i a,(Lb.zip K1)[i]? =D (a,T2 #[])->AA s₁.heap a=D (T2 #[]):= λi a h=>by obtain⟨o',N,L⟩:=Tf _ _<|BJ h;exact L8 L B B▸N
 have r:∀i c a,(Lb.zip K1)[i]? =D (c,⟨Ae "code",AQ,BF<|ED i,#[]⟩)->(ED i)[11]? =D (AH a)->zm s₁.heap a:= λi c a h u=>by obtain⟨o',N,L⟩:=Tf _ _<|BJ h;exact⟨c,_,ED i,L8 L B B▸N,B,B,u⟩
 have tabs:∀a,MZ a->AA s₁.heap a=D (T2 #[]):= λa z=>by
  rcases z with rfl|rfl|rfl
  ·exact q 36 _ ⋯
  ·exact q 37 _ ⋯
  ·exact q 38 _ ⋯
 have hc:∀a,MZ a->zm s₁.heap a:= λa z=>by
  rcases z with rfl|rfl|rfl
  ·exact r 9 1138 _ ⋯ ⋯
  ·exact r 29 1261 _ ⋯ ⋯
  ·exact r 33 1271 _ ⋯ ⋯
 have a0:AA s₁.heap 1203=D {cls:=Ae "list",data:=Gz (L9 GA 2032).toArray} :=by obtain⟨o',N,L⟩:=picked (f:=id) (l:=[(1203,{cls:=Ae "list",data:=Gz (L9 GA 2032).toArray})]) ((V9 _).trans Y4) Hh (λ_ _ _=>B) nofun;exact L▸j _ _ N
 have Q:∀a,(C8 a 1136||(C8 a 1257||C8 a 1269))=AB-> ¬MZ a:= λa e h=>by rcases h with rfl|rfl|rfl<;>cases e
 refine⟨{O:= {tabs:= λa z=>(CB (#[]) (tabs a z)<|hc a z),Us:= λa vs h h' x k=>x.Us k,ACT:=Q _ B,lim:=G.T.nolimit,g:=G.T.g,b:=G.T.b,gt:=Q _ B,bt:=Q _ B,boot:=G.T.builtins,ml:= λk h X a cs x=>let⟨o,_,_,_,_,y,_⟩:=x;⟨o,y⟩,Cd:= λk h X h' X' a cs x d=>x.up d},Tf,glob:= λx v h=>(a1 x).symm.trans<|C x v h,tab:= λa=>Iff.rfl,Tg:=a0,YO:=B,iV:=B,bmain:=G.T.bmain,pX,yy:=(CB _ ?_ Y7)},tabs⟩;obtain⟨o,es,ep,y,u⟩:=Heap.Ns.of_isNs Y6;exact⟨o,es,ep,j _ _ y,u⟩
theorem AHQ(h:WShape.hasItems R ds .int=J):∃ns:I Aa,ds=ns.map .int:=by
 induction ds with
 |nil=>exact⟨[],B⟩
 |cons x xs a=>
  obtain⟨e,d⟩:=Ew h;obtain⟨i,rfl⟩:=hasW_int e;obtain⟨ns,rfl⟩:=a d;exact⟨i::ns,B⟩
theorem tF:∀ {vs:I Am} {as:I Az},ReadsAllW R cl h vs (ns.map .int) as->A8 T h X (AZ ns) vs:=by
 induction ns with
 |nil=>exactλr=>(AFV r).1▸E4
 |cons i ns l=>
  intro vs as r;obtain⟨v,d,a,b,e,_,j,g⟩:=ADe r;refine Ap (readsW_int_inv j) λt e1 _=>?_;rw[e,e1];exact Cw (dC i t)<|l g
theorem yw(z:∀a o,AA h a=D o->o.cls=Ae "list" -> ¬X a)(r:ReadsAllW R cl h vs [AFW (ns.map .int)] as):∃v,vs=[v] /\Tr T h X (AL (AZ ns)) v:=by obtain⟨v,i,a,b,e,_,q,j⟩:=ADe r;rw[e,(AFV j).1];obtain⟨l,o,u,n,C,e1,d,g,y,x,_⟩:=readsW_list_open q;exact⟨v,B,e1▸dD ⟨o,d,g,n,y⟩ (z l o d g) (tF x)⟩
theorem AJc(h:rwX.toRowW.claim.pre args=J):∃ns:I Aa,args=[AFW (ns.map .int)] /\U ns<=63:=by
 obtain⟨d,g⟩:=pre_splitW h;cases args with
 |nil=>cases d
 |cons x r=>
  obtain⟨d,e⟩:=Ew<|show(WShape.has [] x (.list .int)&&WShape.hasAll [] r [])=J from d;obtain⟨xs,rfl,a⟩:=hasW_list d;obtain⟨ns,rfl⟩:=AHQ a;cases r with
  |cons y r=>cases e
  |nil=>
   refine⟨ns,B,?_⟩;have a:=condW_of (show WTm.holds [] (.and (.not<|.lt (.lit<|.int (63:Aj))<|.len<|.arg 0)<|.lit<|.bool J) {args:=[AFW<|ns.map .int] } =J from g)<|w_and (w_not<|w_lt w_lit<|w_len_list<|w_arg B) w_lit;rw[dG,Ai]at a;exact Iz.mp<|Tu.mp λq=>nY<|(CI q).symm.trans<|CR _|>.mp a
theorem AHb:rwX.toRowW.claim.post as (.bool J) as=true:=by
 skip
 kernel_rfl!
theorem AHZ(hd:d.name=S "law"):WalkX vq QS (XL vq []) tJ tK rwX.toRowW d kwd λf vs=>RV f vs:=by
 intro w s₀ s₁ C N G Y a o pm cd doc dV kV h1 h2 h3 h4 h5 hg a1 z as L j a0 hr r Q;obtain⟨P,PT⟩:=ACQ G Y L.keeps;obtain⟨ns,rfl,hl⟩:=AJc j;have y:a=1277:=(Mn<|AE<|(P.glob (S "law") (D<|AH 1277)<|by decide+kernel).symm.trans<|hd▸h5).symm;subst y;obtain⟨v,rfl,tv⟩:=yw (T:=thX w s₁ C N) (X:=MZ) (λa o ho u q=>by obtain⟨vs,e,_⟩:=P.O.tabs a q;obtain rfl:=AE<|ho.symm.trans e;cases u) hr
 have I0:Cm (thX w s₁ C N) s₁:=⟨C1.refl _,λa y=>⟨#[],PT a y,AI,λ_ _ _ _ _ _ e=>by cases e⟩,B,.of_eq hg⟩;refine F9<|ACO P B ns hl (A:=callerA) ⟨B,by decide,by decide⟩ B I0 ⟨λa h=>h,λa h=>Ax h⟩ tv λs' x i=>?_;refine⟨Ax ⟨_,.bool J,[],B,λ_=>B,.bool J,AHb,λ_=>⟨PE,nofun⟩⟩,?_,i.os,i.gens⟩;constructor
 ·intro b l e;by_cases q:MZ b
  ·obtain⟨_,_,u⟩:=P.O.tabs b q;obtain rfl:=AE<|e.symm.trans<|PT b q;obtain⟨g,e2,_⟩:=i.tab b q;exact BC<|Ax ⟨u,B,#[],g,B,by rw[e2,qI];rfl⟩
  ·exact Ax<|x b l q e
 ·intro b l e;by_cases q:MZ b
  ·obtain⟨g,e2,_⟩:=i.tab b q;exact⟨_,e2⟩
  ·exact⟨_,x b l q e⟩
section
set_option backward.match.sparseCases true
set_option tactic.hygienic true
theorem ab:(defOf vq rwX.name).isSome=true:=by kernel_rfl!
noncomputable def ACR:DefRec×I (Bt×A2):=(defOf vq rwX.name).get ab
theorem ACS:defOf vq rwX.name=D (ACR.1,ACR.2):=(Option.some_get ab).symm
theorem AHR:rwX.toRowW.promised:=⟨[AFW []],by decide+kernel,by decide+kernel⟩
end
end Mine
theorem PySem.Challenge.cw_ai0016_01_holds : PySem.Challenge.rw_ai0016_01.Holds := by
 refine holds_law Mine.AHT λh=>?_;exact holds_openX (d:=Mine.ACR.1) (kwd:=Mine.ACR.2) (q:=Mine.vq) (loose:=Mine.QS) (Xt:=Mine.XtX) (XP:=XL Mine.vq []) (Yf:=Mine.tJ) (Ya:=Mine.tK) (N:=22000) Mine.AHY (λs e=>xl_of s (Mine.Ew e).1) XL.keeps Mine.ACS ⋯ ⋯ (λs e=>recFacts_of (Mine.Ew e).2) (by rfl) (by assumption) (by decide+kernel) ⟨B,B,B,B,B,by decide+kernel⟩ Mine.AHR<|Mine.AHZ ⋯
