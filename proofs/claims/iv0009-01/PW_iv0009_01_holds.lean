import PyProof.Rows.All
import Wide.All
import OpenK.AllK
import Wide.FinOn
import KE.KNestM
import Lean
import PySem.Challenge.RW_iv0009_01
set_option Elab.async false
set_option linter.unusedVariables false
set_option maxRecDepth 100000
set_option maxHeartbeats 8000000
set_option tactic.hygienic false
set_option compiler.extract_closed false
open PySem.Str renaming ofString->aa
open PySem renaming Value->ae,Shared->ah,Expr->ai,Params->al,Env->av,Pos->ax,Around->aA,Stmt->aC,wpAny_bind->aJ,wpAny_pure->bk,Tok->bE,wpAny_execs_cons->bW,Flow->cO,FuncData->dA,wpAny_loadName_local->dM,wpAny_Name->dT,wpAny_execs_nil->dW,wpAny_Constant_int->d8,DictEntry->eU,CmpOp->fi,World->fk,wpAny_mono->fQ,wpAny_BinOp->fU,GenState->gC,seg_bind_wrap->g7,OsState->iv,wpAny_Assign_Name->ix,wpAny_Return_some->iy,wpAny_holding->iV,Const->jt,wpAny_call->jz,wpAny_If->jA,Program->ki,wpAny_Constant_str->kn,wpAny_assign_Name->ko,wpAny_standAt->lA,wpAny_storeName_local->lC,Operator->mH,sizeLine_eq->mM,Comprehension->oF,typeIs_str->oQ,wpAny_isTrue_Compare1->oU,codeAny_builtin->oX,IsRangeIter->oZ,wpAny_field->rJ,wpAny_newObj_type->rK,wpAny_rule->rM,plainId_quiet->rN,codeAny_call_def->rS,concat_meets->vV,wpAny_UnaryOp->wb,wpAny_Expr->wv,noFill_tuple_add->C5,seq_tuple_add->C6,wpAny_truthy_bool->Dc,wpAny_specialOf->De,slot_list_getitem->Df,wpAny_Compare1->Dt,wpAny_newList->Dw,wpAny_newFunctionEnv->Dx,wpAny_updateSeq->Dz,wpAt->DG,wpAt_of_wpAny->PG
open Nat renaming le_trans->aj,le_add_right->bf,le_of_ble_eq_true->bz,le_of_eq->bG,le_refl->bP,lt_of_le_of_lt->bU,le_add_left->bV,sub_le->cM,ble->dh,lt_of_lt_of_le->di,le_of_lt->dz,zero_le->dR,add_le_add_left->d7,succ_le_succ->er,ne_of_lt->eT,zero_add->eV,lt_succ_self->gk,succ_pos->gB,add_assoc->gW,add_right_comm->gX,add_le_add_right->iq,add_comm->ir,lt_of_succ_lt->iT,lt_irrefl->js,lt_succ_of_lt->kf,mul_le_mul_left->lr,min_le_right->mG,ne_of_gt->mL,le_succ->mQ,lt_add_of_pos_right->oC,lt_or_ge->oN,not_lt_zero->oP,sub_lt_sub_left->rk,sub_add_cancel->rm,lt_trans->ro,lt_succ_of_le->rt,add_le_add->rA,min_le_left->rB,sub_zero->rG,le_of_lt_succ->vN,sub_lt->vO,sub_sub_self->v5,add_sub_cancel->wI,le_sub_one_of_lt->CZ,add_sub_cancel'->C0,pos_of_ne_zero->C2,succ_ne_zero->Dd,min_eq_left->Dg,sub_eq_zero_of_le->Dk,le_succ_of_le->DD,ble_eq_true_of_le->Pf,add_right_cancel->Pg,add_le_of_le_sub->Ph,mul_le_mul_right->Pi,sub_le_sub_right->Pj,lt_of_succ_lt_succ->Pw,add_sub_cancel_left->PJ,pow_le_pow_right->PM,le_of_mul_le_mul_left->PP
open Bool renaming and_eq_true->aI,or_eq_true->gZ,and_eq_true_iff->ju,false_ne_true->kq,and_false->kr,or_eq_false_iff->kx,not_eq_true'->lz,and_eq_false_iff->lG,not_eq_true->mO,false_eq_true->oW,eq_iff_iff->rC,eq_false_iff->v6,noConfusion->wg,true_and->Da,not_eq_false'->DO
open List renaming all_eq_true->ba,mem_cons->bS,append_assoc->bY,lookup_cons->ch,length_map->cu,length_append->cC,mem_singleton->dw,mem_cons_of_mem->dS,length_drop->eu,not_mem_nil->eX,map_cons->fm,mem_cons_self->fR,getElem?_eq_getElem->fV,drop_zero->gD,length_cons->gE,isEmpty_iff->gY,mem_append->g8,all_cons->g9,mem_map->iw,range->iU,mem_range->jv,length_take->jw,append_nil->kj,foldl_cons->km,drop_drop->kt,take_append_drop->kv,isPrefixOf_iff_prefix->lu,isSuffixOf_iff_suffix->lw,getElem?_map->lB,mem_map_of_mem->lD,foldl_append->lF,length_nil->mJ,cons_append->mK,zip_cons_cons->mP,takeWhile_append_dropWhile->mR,all_takeWhile->mS,mem_filterMap->oM,eq_nil_of_length_eq_zero->oR,size_toArray->oS,takeWhile_sublist->o0,map_map->o4,drop_of_length_le->rH,map_nil->rI,any_cons->rL,getElem_mem->rQ,contains_iff_mem->rU,take_left->rV,all_append->rW,length->vY,getElem?_eq_some_iff->v4,nil_append->v7,filter_cons->wc,filterMap_cons->we,take_add_one->wj,drop_eq_getElem_cons->wm,any_eq_false->wx,toList_toArray->wz,mem_of_mem_take->wC,map_append->wF,filter_eq_nil_iff->wG,any_map->wH,mem_append_left->wJ,drop_succ_cons->Db,take_length->Dh,take_of_length_le->Di,drop_take->Dj,foldl_nil->Dl,dropLast_eq_take->Dq,length_dropLast->Dr,mem_filter->Du,mem_of_getElem?->Dv,nodup_cons->DF,mem_of_getLast?->DH,length_pos_iff->DN,length_reverse->DP,isEmpty_map->DQ,prefix_iff_eq_take->Pt,length_singleton->PF,dropLast_subset->PH,getElem?_drop->PK,getElem?_append_left->PL,getElem?_reverse->PN,map_congr_left->PO,dropLast_concat_getLast->PQ,getLast?_append->PR,mem_append_right->PT,getLast?_eq_none_iff->PU,mem_of_mem_drop->PX
open PySem.W renaming mg_of->bH,boot_heap->gl,SharedT->oG,boot_drawn->oJ,boot_toks->oK,hideAll_get->ww,ks_superIn->wy
open PySem.Heap renaming get?_push_of_some->b4,get?_none_of_le->dU,get?_push_size->et,lt_size->eK,ExtBut->eW,size_push->jy,FlyingW->vU,get?_update_self->wo,get?_update_other->wp,MadeExcOf->wu
open Or renaming elim->cr
open Ne renaming symm->cF
open LawfulBEq renaming eq_of_beq->cN
open PyProof.Rows renaming News->eL,Call_Name->gF,IntsAre->lE,Subscript_->oV,slot_tuple_getitem->rF,neg_int->Dy
open PySem.Challenge renaming rw_iv0009_01->gm,pw_iv0009_01->iu
open Int renaming ofNat->gn,le_trans->jr,ofNat_le->kg,natCast_nonneg->kh,ofNat_lt->mF,lt_of_le_of_lt->oA,add_comm->oE,le_of_lt->rn,toNat_of_nonneg->rE,toNat_lt->vP,not_lt->vQ,sub_zero->vS,ne_of_gt->vW,emod_lt_of_pos->wA,add_one_le_of_lt->wB,ofNat_sub->C1,emod_nonneg->DJ,add_nonneg->DK,toNat_le->DL,lt_add_one_of_le->PI,eq_ofNat_of_zero_le->PW
open PySem.Value renaming str->gG,none->kl,type->rP,ref->rR
open PySem.Expr renaming Name->jx
open Eq renaming trans->ku
open Option renaming map_eq_some_iff->mI,bind_eq_some_iff->Ds,isNone_iff_eq_none->DM
open Array renaming mk->oH,length_toList->oO,isEmpty->v0,getElem?_eq_none->v3,getElem?_toList->Pu
open PySem.Around renaming under_plainId->oY
open Option.some renaming inj->vR
open PySem.Expr.Attribute renaming elim->vT
open PySem.PyData renaming depthAll->vX,keyHash->C3,canLayAll0->C'
open Int.ofNat renaming inj->vZ
open PySem.Builtin.Slice renaming slicePlaces->v8,sliceAdjust->Dp,sliceApplied->Py
open PySem.Builtin.Tuple renaming tupleExact->v9
open PySem.F renaming plain_any_loop->wk,plain_extend_loop->wn,slot_tuple_add->C7,entry_tuple_add->C8,args_tuple_add_2->C9,slot_str_split->Dm,entry_str_split->Dn,args_str_split_2->Do,slot_str_getitem->Pv,entry_any_loop->Pz,entry_extend_loop->PA,plain_list_iadd->PB
open PySem.Obj renaming mapSeq->wq,mapFields->DE
open PySem.Shared renaming setGen->wt
open PySem.Operator renaming Add->wD,Sub->wE
open PySem.W.RowW renaming records->C4
open PySem.Sem renaming onRaise_eq_wrap->DA
open PySem.BindsTo renaming of_defaults->DI
open PySem.Expr.Constant renaming elim->Pk
open PySem.Expr.Name renaming elim->Pl
open PySem.Expr.Tuple renaming elim->Pm
open PySem.Expr.Compare renaming elim->Pn
open PySem.Expr.Call renaming elim->Po
open PySem.Expr.GeneratorExp renaming elim->Pp
open PySem.Expr.ListComp renaming elim->Pq
open PySem.Expr.Slice renaming elim->Pr
open PySem.Builtin.Int renaming intBits->Ps
open PySem.StrLaws renaming glued_eq_join->Px
open PySem.Builtin.List renaming listExtendWith->PC,listSameRef->PD
open PySem.Expr.Subscript renaming elim->PE
namespace Mine
open PySem PySem.W PySem.Calls PyProof.Rows PySem.Builtin PySem.Builtin.Str
section
theorem xA{p0:Prop}{p1:Prop}{G:Prop}(h:p0/\ p1)(k:p0->p1->G):G:=by obtain⟨c0,c1⟩:=h;exact k c0 c1
theorem xE{α0:Sort _}{p0:α0->Prop}{G:Prop}(h:∃x0:α0,p0 x0)(k:∀x0:α0,p0 x0->G):G:=by obtain⟨c0,c1⟩:=h;exact k c0 c1
theorem bM{p0:Prop}{p1:Prop}{p2:Prop}{G:Prop}(h:p0/\ p1/\ p2)(k:p0->p1->p2->G):G:=by obtain⟨c0,c1,c2⟩:=h;exact k c0 c1 c2
theorem ay{α0:Sort _}{p0:α0->Prop}{p1:α0->Prop}{G:Prop}(h:∃x0:α0,p0 x0/\ p1 x0)(k:∀x0:α0,p0 x0->p1 x0->G):G:=by obtain⟨c0,c1,c2⟩:=h;exact k c0 c1 c2
theorem dB{α0:Sort _}{α1:Sort _}{p0:α0->α1->Prop}{G:Prop}(h:∃x0:α0,∃x1:α1,p0 x0 x1)(k:∀x0:α0,∀x1:α1,p0 x0 x1->G):G:=by obtain⟨c0,c1,c2⟩:=h;exact k c0 c1 c2
theorem o5{p0:Prop}{p1:Prop}{p2:Prop}{p3:Prop}{G:Prop}(h:p0/\ p1/\ p2/\ p3)(k:p0->p1->p2->p3->G):G:=by obtain⟨c0,c1,c2,c3⟩:=h;exact k c0 c1 c2 c3
theorem rX{α0:Sort _}{p0:Prop}{p1:Prop}{p2:α0->Prop}{G:Prop}(h:p0/\ p1/\ (∃x0:α0,p2 x0))(k:p0->p1->∀x0:α0,p2 x0->G):G:=by obtain⟨c0,c1,c2,c3⟩:=h;exact k c0 c1 c2 c3
theorem dN{α0:Sort _}{p0:Prop}{p1:α0->Prop}{p2:α0->Prop}{G:Prop}(h:p0/\ (∃x0:α0,p1 x0/\ p2 x0))(k:p0->∀x0:α0,p1 x0->p2 x0->G):G:=by obtain⟨c0,c1,c2,c3⟩:=h;exact k c0 c1 c2 c3
theorem bA{α0:Sort _}{p0:α0->Prop}{p1:α0->Prop}{p2:α0->Prop}{G:Prop}(h:∃x0:α0,p0 x0/\ p1 x0/\ p2 x0)(k:∀x0:α0,p0 x0->p1 x0->p2 x0->G):G:=by obtain⟨c0,c1,c2,c3⟩:=h;exact k c0 c1 c2 c3
theorem DR{α0:Sort _}{α1:Sort _}{p0:α0->Prop}{p1:α0->α1->Prop}{G:Prop}(h:∃x0:α0,p0 x0/\ (∃x1:α1,p1 x0 x1))(k:∀x0:α0,p0 x0->∀x1:α1,p1 x0 x1->G):G:=by obtain⟨c0,c1,c2,c3⟩:=h;exact k c0 c1 c2 c3
theorem dX{α0:Sort _}{α1:Sort _}{p0:α0->α1->Prop}{p1:α0->α1->Prop}{G:Prop}(h:∃x0:α0,∃x1:α1,p0 x0 x1/\ p1 x0 x1)(k:∀x0:α0,∀x1:α1,p0 x0 x1->p1 x0 x1->G):G:=by obtain⟨c0,c1,c2,c3⟩:=h;exact k c0 c1 c2 c3
theorem wK{α0:Sort _}{α1:Sort _}{α2:Sort _}{p0:α0->α1->α2->Prop}{G:Prop}(h:∃x0:α0,∃x1:α1,∃x2:α2,p0 x0 x1 x2)(k:∀x0:α0,∀x1:α1,∀x2:α2,p0 x0 x1 x2->G):G:=by obtain⟨c0,c1,c2,c3⟩:=h;exact k c0 c1 c2 c3
theorem ky{p0:Prop}{p1:Prop}{p2:Prop}{p3:Prop}{p4:Prop}{G:Prop}(h:p0/\ p1/\ p2/\ p3/\ p4)(k:p0->p1->p2->p3->p4->G):G:=by obtain⟨c0,c1,c2,c3,c4⟩:=h;exact k c0 c1 c2 c3 c4
theorem DS{α0:Sort _}{p0:Prop}{p1:Prop}{p2:α0->Prop}{p3:α0->Prop}{G:Prop}(h:p0/\ p1/\ (∃x0:α0,p2 x0/\ p3 x0))(k:p0->p1->∀x0:α0,p2 x0->p3 x0->G):G:=by obtain⟨c0,c1,c2,c3,c4⟩:=h;exact k c0 c1 c2 c3 c4
theorem PY{α0:Sort _}{α1:Sort _}{p0:Prop}{p1:α0->α1->Prop}{p2:α0->α1->Prop}{G:Prop}(h:p0/\ (∃x0:α0,∃x1:α1,p1 x0 x1/\ p2 x0 x1))(k:p0->∀x0:α0,∀x1:α1,p1 x0 x1->p2 x0 x1->G):G:=by obtain⟨c0,c1,c2,c3,c4⟩:=h;exact k c0 c1 c2 c3 c4
theorem wL{α0:Sort _}{p0:α0->Prop}{p1:α0->Prop}{p2:α0->Prop}{p3:α0->Prop}{G:Prop}(h:∃x0:α0,p0 x0/\ p1 x0/\ p2 x0/\ p3 x0)(k:∀x0:α0,p0 x0->p1 x0->p2 x0->p3 x0->G):G:=by obtain⟨c0,c1,c2,c3,c4⟩:=h;exact k c0 c1 c2 c3 c4
theorem o6{α0:Sort _}{α1:Sort _}{p0:α0->Prop}{p1:α0->Prop}{p2:α0->α1->Prop}{G:Prop}(h:∃x0:α0,p0 x0/\ p1 x0/\ (∃x1:α1,p2 x0 x1))(k:∀x0:α0,p0 x0->p1 x0->∀x1:α1,p2 x0 x1->G):G:=by obtain⟨c0,c1,c2,c3,c4⟩:=h;exact k c0 c1 c2 c3 c4
theorem iz{α0:Sort _}{α1:Sort _}{p0:α0->α1->Prop}{p1:α0->α1->Prop}{p2:α0->α1->Prop}{G:Prop}(h:∃x0:α0,∃x1:α1,p0 x0 x1/\ p1 x0 x1/\ p2 x0 x1)(k:∀x0:α0,∀x1:α1,p0 x0 x1->p1 x0 x1->p2 x0 x1->G):G:=by obtain⟨c0,c1,c2,c3,c4⟩:=h;exact k c0 c1 c2 c3 c4
theorem dj{α0:Sort _}{α1:Sort _}{α2:Sort _}{p0:α0->α1->α2->Prop}{p1:α0->α1->α2->Prop}{G:Prop}(h:∃x0:α0,∃x1:α1,∃x2:α2,p0 x0 x1 x2/\ p1 x0 x1 x2)(k:∀x0:α0,∀x1:α1,∀x2:α2,p0 x0 x1 x2->p1 x0 x1 x2->G):G:=by obtain⟨c0,c1,c2,c3,c4⟩:=h;exact k c0 c1 c2 c3 c4
theorem wM{α0:Sort _}{α1:Sort _}{α2:Sort _}{α3:Sort _}{p0:α0->α1->α2->α3->Prop}{G:Prop}(h:∃x0:α0,∃x1:α1,∃x2:α2,∃x3:α3,p0 x0 x1 x2 x3)(k:∀x0:α0,∀x1:α1,∀x2:α2,∀x3:α3,p0 x0 x1 x2 x3->G):G:=by obtain⟨c0,c1,c2,c3,c4⟩:=h;exact k c0 c1 c2 c3 c4
theorem DT{p0:Prop}{p1:Prop}{p2:Prop}{p3:Prop}{p4:Prop}{p5:Prop}{G:Prop}(h:p0/\ p1/\ p2/\ p3/\ p4/\ p5)(k:p0->p1->p2->p3->p4->p5->G):G:=by obtain⟨c0,c1,c2,c3,c4,c5⟩:=h;exact k c0 c1 c2 c3 c4 c5
theorem DU{α0:Sort _}{p0:Prop}{p1:α0->Prop}{p2:α0->Prop}{p3:α0->Prop}{p4:α0->Prop}{G:Prop}(h:p0/\ (∃x0:α0,p1 x0/\ p2 x0/\ p3 x0/\ p4 x0))(k:p0->∀x0:α0,p1 x0->p2 x0->p3 x0->p4 x0->G):G:=by obtain⟨c0,c1,c2,c3,c4,c5⟩:=h;exact k c0 c1 c2 c3 c4 c5
theorem wN{α0:Sort _}{p0:α0->Prop}{p1:α0->Prop}{p2:α0->Prop}{p3:α0->Prop}{p4:α0->Prop}{G:Prop}(h:∃x0:α0,p0 x0/\ p1 x0/\ p2 x0/\ p3 x0/\ p4 x0)(k:∀x0:α0,p0 x0->p1 x0->p2 x0->p3 x0->p4 x0->G):G:=by obtain⟨c0,c1,c2,c3,c4,c5⟩:=h;exact k c0 c1 c2 c3 c4 c5
theorem mT{α0:Sort _}{α1:Sort _}{p0:α0->α1->Prop}{p1:α0->α1->Prop}{p2:α0->α1->Prop}{p3:α0->α1->Prop}{G:Prop}(h:∃x0:α0,∃x1:α1,p0 x0 x1/\ p1 x0 x1/\ p2 x0 x1/\ p3 x0 x1)(k:∀x0:α0,∀x1:α1,p0 x0 x1->p1 x0 x1->p2 x0 x1->p3 x0 x1->G):G:=by obtain⟨c0,c1,c2,c3,c4,c5⟩:=h;exact k c0 c1 c2 c3 c4 c5
theorem gH{α0:Sort _}{α1:Sort _}{α2:Sort _}{p0:α0->α1->α2->Prop}{p1:α0->α1->α2->Prop}{p2:α0->α1->α2->Prop}{G:Prop}(h:∃x0:α0,∃x1:α1,∃x2:α2,p0 x0 x1 x2/\ p1 x0 x1 x2/\ p2 x0 x1 x2)(k:∀x0:α0,∀x1:α1,∀x2:α2,p0 x0 x1 x2->p1 x0 x1 x2->p2 x0 x1 x2->G):G:=by obtain⟨c0,c1,c2,c3,c4,c5⟩:=h;exact k c0 c1 c2 c3 c4 c5
theorem PZ{α0:Sort _}{α1:Sort _}{α2:Sort _}{α3:Sort _}{p0:α0->α1->α2->α3->Prop}{p1:α0->α1->α2->α3->Prop}{G:Prop}(h:∃x0:α0,∃x1:α1,∃x2:α2,∃x3:α3,p0 x0 x1 x2 x3/\ p1 x0 x1 x2 x3)(k:∀x0:α0,∀x1:α1,∀x2:α2,∀x3:α3,p0 x0 x1 x2 x3->p1 x0 x1 x2 x3->G):G:=by obtain⟨c0,c1,c2,c3,c4,c5⟩:=h;exact k c0 c1 c2 c3 c4 c5
theorem g'{α0:Sort _}{α1:Sort _}{p0:Prop}{p1:α0->α1->Prop}{p2:α0->α1->Prop}{p3:α0->α1->Prop}{p4:α0->α1->Prop}{G:Prop}(h:p0/\ (∃x0:α0,∃x1:α1,p1 x0 x1/\ p2 x0 x1/\ p3 x0 x1/\ p4 x0 x1))(k:p0->∀x0:α0,∀x1:α1,p1 x0 x1->p2 x0 x1->p3 x0 x1->p4 x0 x1->G):G:=by obtain⟨c0,c1,c2,c3,c4,c5,c6⟩:=h;exact k c0 c1 c2 c3 c4 c5 c6
theorem wO{α0:Sort _}{α1:Sort _}{α2:Sort _}{p0:α0->α1->α2->Prop}{p1:α0->α1->α2->Prop}{p2:α0->α1->α2->Prop}{p3:α0->α1->α2->Prop}{G:Prop}(h:∃x0:α0,∃x1:α1,∃x2:α2,p0 x0 x1 x2/\ p1 x0 x1 x2/\ p2 x0 x1 x2/\ p3 x0 x1 x2)(k:∀x0:α0,∀x1:α1,∀x2:α2,p0 x0 x1 x2->p1 x0 x1 x2->p2 x0 x1 x2->p3 x0 x1 x2->G):G:=by obtain⟨c0,c1,c2,c3,c4,c5,c6⟩:=h;exact k c0 c1 c2 c3 c4 c5 c6
theorem mU{α0:Sort _}{α1:Sort _}{p0:α0->α1->Prop}{p1:α0->α1->Prop}{p2:α0->α1->Prop}{p3:α0->α1->Prop}{p4:α0->α1->Prop}{p5:α0->α1->Prop}{G:Prop}(h:∃x0:α0,∃x1:α1,p0 x0 x1/\ p1 x0 x1/\ p2 x0 x1/\ p3 x0 x1/\ p4 x0 x1/\ p5 x0 x1)(k:∀x0:α0,∀x1:α1,p0 x0 x1->p1 x0 x1->p2 x0 x1->p3 x0 x1->p4 x0 x1->p5 x0 x1->G):G:=by obtain⟨c0,c1,c2,c3,c4,c5,c6,c7⟩:=h;exact k c0 c1 c2 c3 c4 c5 c6 c7
theorem rY{α0:Sort _}{α1:Sort _}{α2:Sort _}{α3:Sort _}{p0:α0->α1->α2->α3->Prop}{p1:α0->α1->α2->α3->Prop}{p2:α0->α1->α2->α3->Prop}{p3:α0->α1->α2->α3->Prop}{G:Prop}(h:∃x0:α0,∃x1:α1,∃x2:α2,∃x3:α3,p0 x0 x1 x2 x3/\ p1 x0 x1 x2 x3/\ p2 x0 x1 x2 x3/\ p3 x0 x1 x2 x3)(k:∀x0:α0,∀x1:α1,∀x2:α2,∀x3:α3,p0 x0 x1 x2 x3->p1 x0 x1 x2 x3->p2 x0 x1 x2 x3->p3 x0 x1 x2 x3->G):G:=by obtain⟨c0,c1,c2,c3,c4,c5,c6,c7⟩:=h;exact k c0 c1 c2 c3 c4 c5 c6 c7
theorem P0{α0:Sort _}{α1:Sort _}{α2:Sort _}{α3:Sort _}{p0:α0->α1->α2->α3->Prop}{p1:α0->α1->α2->α3->Prop}{p2:α0->α1->α2->α3->Prop}{p3:α0->α1->α2->α3->Prop}{p4:α0->α1->α2->α3->Prop}{p5:α0->α1->α2->α3->Prop}{G:Prop}(h:∃x0:α0,∃x1:α1,∃x2:α2,∃x3:α3,p0 x0 x1 x2 x3/\ p1 x0 x1 x2 x3/\ p2 x0 x1 x2 x3/\ p3 x0 x1 x2 x3/\ p4 x0 x1 x2 x3/\ p5 x0 x1 x2 x3)(k:∀x0:α0,∀x1:α1,∀x2:α2,∀x3:α3,p0 x0 x1 x2 x3->p1 x0 x1 x2 x3->p2 x0 x1 x2 x3->p3 x0 x1 x2 x3->p4 x0 x1 x2 x3->p5 x0 x1 x2 x3->G):G:=by obtain⟨c0,c1,c2,c3,c4,c5,c6,c7,c8,c9⟩:=h;exact k c0 c1 c2 c3 c4 c5 c6 c7 c8 c9
theorem wP{α0:Sort _}{α1:Sort _}{α2:Sort _}{α3:Sort _}{α4:Sort _}{p0:α0->α1->α2->α3->α4->Prop}{p1:α0->α1->α2->α3->α4->Prop}{p2:α0->α1->α2->α3->α4->Prop}{p3:α0->α1->α2->α3->α4->Prop}{p4:α0->α1->α2->α3->α4->Prop}{G:Prop}(h:∃x0:α0,∃x1:α1,∃x2:α2,∃x3:α3,∃x4:α4,p0 x0 x1 x2 x3 x4/\ p1 x0 x1 x2 x3 x4/\ p2 x0 x1 x2 x3 x4/\ p3 x0 x1 x2 x3 x4/\ p4 x0 x1 x2 x3 x4)(k:∀x0:α0,∀x1:α1,∀x2:α2,∀x3:α3,∀x4:α4,p0 x0 x1 x2 x3 x4->p1 x0 x1 x2 x3 x4->p2 x0 x1 x2 x3 x4->p3 x0 x1 x2 x3 x4->p4 x0 x1 x2 x3 x4->G):G:=by obtain⟨c0,c1,c2,c3,c4,c5,c6,c7,c8,c9⟩:=h;exact k c0 c1 c2 c3 c4 c5 c6 c7 c8 c9
theorem DV{α0:Sort _}{α1:Sort _}{α2:Sort _}{α3:Sort _}{α4:Sort _}{α5:Sort _}{α6:Sort _}{α7:Sort _}{α8:Sort _}{p0:α0->α1->α2->α3->α4->α5->α6->α7->α8->Prop}{G:Prop}(h:∃x0:α0,∃x1:α1,∃x2:α2,∃x3:α3,∃x4:α4,∃x5:α5,∃x6:α6,∃x7:α7,∃x8:α8,p0 x0 x1 x2 x3 x4 x5 x6 x7 x8)(k:∀x0:α0,∀x1:α1,∀x2:α2,∀x3:α3,∀x4:α4,∀x5:α5,∀x6:α6,∀x7:α7,∀x8:α8,p0 x0 x1 x2 x3 x4 x5 x6 x7 x8->G):G:=by obtain⟨c0,c1,c2,c3,c4,c5,c6,c7,c8,c9⟩:=h;exact k c0 c1 c2 c3 c4 c5 c6 c7 c8 c9
theorem rZ{α0:Sort _}{α1:Sort _}{α2:Sort _}{α3:Sort _}{α4:Sort _}{α5:Sort _}{α6:Sort _}{α7:Sort _}{α8:Sort _}{α9:Sort _}{p0:α0->α1->α2->α3->α4->α5->α6->α7->α8->α9->Prop}{p1:α0->α1->α2->α3->α4->α5->α6->α7->α8->α9->Prop}{G:Prop}(h:∃x0:α0,∃x1:α1,∃x2:α2,∃x3:α3,∃x4:α4,∃x5:α5,∃x6:α6,∃x7:α7,∃x8:α8,∃x9:α9,p0 x0 x1 x2 x3 x4 x5 x6 x7 x8 x9/\ p1 x0 x1 x2 x3 x4 x5 x6 x7 x8 x9)(k:∀x0:α0,∀x1:α1,∀x2:α2,∀x3:α3,∀x4:α4,∀x5:α5,∀x6:α6,∀x7:α7,∀x8:α8,∀x9:α9,p0 x0 x1 x2 x3 x4 x5 x6 x7 x8 x9->p1 x0 x1 x2 x3 x4 x5 x6 x7 x8 x9->G):G:=by obtain⟨c0,c1,c2,c3,c4,c5,c6,c7,c8,c9,c10,c11⟩:=h;exact k c0 c1 c2 c3 c4 c5 c6 c7 c8 c9 c10 c11
theorem DW{α0:Sort _}{α1:Sort _}{α2:Sort _}{α3:Sort _}{α4:Sort _}{p0:α0->α1->α2->α3->α4->Prop}{p1:α0->α1->α2->α3->α4->Prop}{p2:α0->α1->α2->α3->α4->Prop}{p3:α0->α1->α2->α3->α4->Prop}{p4:α0->α1->α2->α3->α4->Prop}{p5:α0->α1->α2->α3->α4->Prop}{p6:α0->α1->α2->α3->α4->Prop}{p7:α0->α1->α2->α3->α4->Prop}{p8:α0->α1->α2->α3->α4->Prop}{G:Prop}(h:∃x0:α0,∃x1:α1,∃x2:α2,∃x3:α3,∃x4:α4,p0 x0 x1 x2 x3 x4/\ p1 x0 x1 x2 x3 x4/\ p2 x0 x1 x2 x3 x4/\ p3 x0 x1 x2 x3 x4/\ p4 x0 x1 x2 x3 x4/\ p5 x0 x1 x2 x3 x4/\ p6 x0 x1 x2 x3 x4/\ p7 x0 x1 x2 x3 x4/\ p8 x0 x1 x2 x3 x4)(k:∀x0:α0,∀x1:α1,∀x2:α2,∀x3:α3,∀x4:α4,p0 x0 x1 x2 x3 x4->p1 x0 x1 x2 x3 x4->p2 x0 x1 x2 x3 x4->p3 x0 x1 x2 x3 x4->p4 x0 x1 x2 x3 x4->p5 x0 x1 x2 x3 x4->p6 x0 x1 x2 x3 x4->p7 x0 x1 x2 x3 x4->p8 x0 x1 x2 x3 x4->G):G:=by obtain⟨c0,c1,c2,c3,c4,c5,c6,c7,c8,c9,c10,c11,c12,c13⟩:=h;exact k c0 c1 c2 c3 c4 c5 c6 c7 c8 c9 c10 c11 c12 c13
theorem DX{α0:Sort _}{α1:Sort _}{α2:Sort _}{α3:Sort _}{α4:Sort _}{α5:Sort _}{α6:Sort _}{α7:Sort _}{α8:Sort _}{α9:Sort _}{p0:α0->α1->α2->α3->α4->α5->α6->α7->α8->α9->Prop}{p1:α0->α1->α2->α3->α4->α5->α6->α7->α8->α9->Prop}{p2:α0->α1->α2->α3->α4->α5->α6->α7->α8->α9->Prop}{p3:α0->α1->α2->α3->α4->α5->α6->α7->α8->α9->Prop}{p4:α0->α1->α2->α3->α4->α5->α6->α7->α8->α9->Prop}{p5:α0->α1->α2->α3->α4->α5->α6->α7->α8->α9->Prop}{p6:α0->α1->α2->α3->α4->α5->α6->α7->α8->α9->Prop}{p7:α0->α1->α2->α3->α4->α5->α6->α7->α8->α9->Prop}{p8:α0->α1->α2->α3->α4->α5->α6->α7->α8->α9->Prop}{G:Prop}(h:∃x0:α0,∃x1:α1,∃x2:α2,∃x3:α3,∃x4:α4,∃x5:α5,∃x6:α6,∃x7:α7,∃x8:α8,∃x9:α9,p0 x0 x1 x2 x3 x4 x5 x6 x7 x8 x9/\ p1 x0 x1 x2 x3 x4 x5 x6 x7 x8 x9/\ p2 x0 x1 x2 x3 x4 x5 x6 x7 x8 x9/\ p3 x0 x1 x2 x3 x4 x5 x6 x7 x8 x9/\ p4 x0 x1 x2 x3 x4 x5 x6 x7 x8 x9/\ p5 x0 x1 x2 x3 x4 x5 x6 x7 x8 x9/\ p6 x0 x1 x2 x3 x4 x5 x6 x7 x8 x9/\ p7 x0 x1 x2 x3 x4 x5 x6 x7 x8 x9/\ p8 x0 x1 x2 x3 x4 x5 x6 x7 x8 x9)(k:∀x0:α0,∀x1:α1,∀x2:α2,∀x3:α3,∀x4:α4,∀x5:α5,∀x6:α6,∀x7:α7,∀x8:α8,∀x9:α9,p0 x0 x1 x2 x3 x4 x5 x6 x7 x8 x9->p1 x0 x1 x2 x3 x4 x5 x6 x7 x8 x9->p2 x0 x1 x2 x3 x4 x5 x6 x7 x8 x9->p3 x0 x1 x2 x3 x4 x5 x6 x7 x8 x9->p4 x0 x1 x2 x3 x4 x5 x6 x7 x8 x9->p5 x0 x1 x2 x3 x4 x5 x6 x7 x8 x9->p6 x0 x1 x2 x3 x4 x5 x6 x7 x8 x9->p7 x0 x1 x2 x3 x4 x5 x6 x7 x8 x9->p8 x0 x1 x2 x3 x4 x5 x6 x7 x8 x9->G):G:=by obtain⟨c0,c1,c2,c3,c4,c5,c6,c7,c8,c9,c10,c11,c12,c13,c14,c15,c16,c17,c18⟩:=h;exact k c0 c1 c2 c3 c4 c5 c6 c7 c8 c9 c10 c11 c12 c13 c14 c15 c16 c17 c18
theorem lH{α0:Sort _}{α1:Sort _}{α2:Sort _}{α3:Sort _}{α4:Sort _}{α5:Sort _}{α6:Sort _}{α7:Sort _}{α8:Sort _}{α9:Sort _}{p0:α0->α1->α2->α3->α4->α5->α6->α7->α8->α9->Prop}{p1:α0->α1->α2->α3->α4->α5->α6->α7->α8->α9->Prop}{p2:α0->α1->α2->α3->α4->α5->α6->α7->α8->α9->Prop}{p3:α0->α1->α2->α3->α4->α5->α6->α7->α8->α9->Prop}{p4:α0->α1->α2->α3->α4->α5->α6->α7->α8->α9->Prop}{p5:α0->α1->α2->α3->α4->α5->α6->α7->α8->α9->Prop}{p6:α0->α1->α2->α3->α4->α5->α6->α7->α8->α9->Prop}{p7:α0->α1->α2->α3->α4->α5->α6->α7->α8->α9->Prop}{p8:α0->α1->α2->α3->α4->α5->α6->α7->α8->α9->Prop}{p9:α0->α1->α2->α3->α4->α5->α6->α7->α8->α9->Prop}{G:Prop}(h:∃x0:α0,∃x1:α1,∃x2:α2,∃x3:α3,∃x4:α4,∃x5:α5,∃x6:α6,∃x7:α7,∃x8:α8,∃x9:α9,p0 x0 x1 x2 x3 x4 x5 x6 x7 x8 x9/\ p1 x0 x1 x2 x3 x4 x5 x6 x7 x8 x9/\ p2 x0 x1 x2 x3 x4 x5 x6 x7 x8 x9/\ p3 x0 x1 x2 x3 x4 x5 x6 x7 x8 x9/\ p4 x0 x1 x2 x3 x4 x5 x6 x7 x8 x9/\ p5 x0 x1 x2 x3 x4 x5 x6 x7 x8 x9/\ p6 x0 x1 x2 x3 x4 x5 x6 x7 x8 x9/\ p7 x0 x1 x2 x3 x4 x5 x6 x7 x8 x9/\ p8 x0 x1 x2 x3 x4 x5 x6 x7 x8 x9/\ p9 x0 x1 x2 x3 x4 x5 x6 x7 x8 x9)(k:∀x0:α0,∀x1:α1,∀x2:α2,∀x3:α3,∀x4:α4,∀x5:α5,∀x6:α6,∀x7:α7,∀x8:α8,∀x9:α9,p0 x0 x1 x2 x3 x4 x5 x6 x7 x8 x9->p1 x0 x1 x2 x3 x4 x5 x6 x7 x8 x9->p2 x0 x1 x2 x3 x4 x5 x6 x7 x8 x9->p3 x0 x1 x2 x3 x4 x5 x6 x7 x8 x9->p4 x0 x1 x2 x3 x4 x5 x6 x7 x8 x9->p5 x0 x1 x2 x3 x4 x5 x6 x7 x8 x9->p6 x0 x1 x2 x3 x4 x5 x6 x7 x8 x9->p7 x0 x1 x2 x3 x4 x5 x6 x7 x8 x9->p8 x0 x1 x2 x3 x4 x5 x6 x7 x8 x9->p9 x0 x1 x2 x3 x4 x5 x6 x7 x8 x9->G):G:=by obtain⟨c0,c1,c2,c3,c4,c5,c6,c7,c8,c9,c10,c11,c12,c13,c14,c15,c16,c17,c18,c19⟩:=h;exact k c0 c1 c2 c3 c4 c5 c6 c7 c8 c9 c10 c11 c12 c13 c14 c15 c16 c17 c18 c19
theorem DY{α0:Sort _}{α1:Sort _}{α2:Sort _}{α3:Sort _}{α4:Sort _}{α5:Sort _}{α6:Sort _}{α7:Sort _}{α8:Sort _}{α9:Sort _}{p0:α0->α1->α2->α3->α4->α5->α6->α7->α8->α9->Prop}{p1:α0->α1->α2->α3->α4->α5->α6->α7->α8->α9->Prop}{p2:α0->α1->α2->α3->α4->α5->α6->α7->α8->α9->Prop}{p3:α0->α1->α2->α3->α4->α5->α6->α7->α8->α9->Prop}{p4:α0->α1->α2->α3->α4->α5->α6->α7->α8->α9->Prop}{p5:α0->α1->α2->α3->α4->α5->α6->α7->α8->α9->Prop}{p6:α0->α1->α2->α3->α4->α5->α6->α7->α8->α9->Prop}{p7:α0->α1->α2->α3->α4->α5->α6->α7->α8->α9->Prop}{p8:α0->α1->α2->α3->α4->α5->α6->α7->α8->α9->Prop}{p9:α0->α1->α2->α3->α4->α5->α6->α7->α8->α9->Prop}{p10:α0->α1->α2->α3->α4->α5->α6->α7->α8->α9->Prop}{G:Prop}(h:∃x0:α0,∃x1:α1,∃x2:α2,∃x3:α3,∃x4:α4,∃x5:α5,∃x6:α6,∃x7:α7,∃x8:α8,∃x9:α9,p0 x0 x1 x2 x3 x4 x5 x6 x7 x8 x9/\ p1 x0 x1 x2 x3 x4 x5 x6 x7 x8 x9/\ p2 x0 x1 x2 x3 x4 x5 x6 x7 x8 x9/\ p3 x0 x1 x2 x3 x4 x5 x6 x7 x8 x9/\ p4 x0 x1 x2 x3 x4 x5 x6 x7 x8 x9/\ p5 x0 x1 x2 x3 x4 x5 x6 x7 x8 x9/\ p6 x0 x1 x2 x3 x4 x5 x6 x7 x8 x9/\ p7 x0 x1 x2 x3 x4 x5 x6 x7 x8 x9/\ p8 x0 x1 x2 x3 x4 x5 x6 x7 x8 x9/\ p9 x0 x1 x2 x3 x4 x5 x6 x7 x8 x9/\ p10 x0 x1 x2 x3 x4 x5 x6 x7 x8 x9)(k:∀x0:α0,∀x1:α1,∀x2:α2,∀x3:α3,∀x4:α4,∀x5:α5,∀x6:α6,∀x7:α7,∀x8:α8,∀x9:α9,p0 x0 x1 x2 x3 x4 x5 x6 x7 x8 x9->p1 x0 x1 x2 x3 x4 x5 x6 x7 x8 x9->p2 x0 x1 x2 x3 x4 x5 x6 x7 x8 x9->p3 x0 x1 x2 x3 x4 x5 x6 x7 x8 x9->p4 x0 x1 x2 x3 x4 x5 x6 x7 x8 x9->p5 x0 x1 x2 x3 x4 x5 x6 x7 x8 x9->p6 x0 x1 x2 x3 x4 x5 x6 x7 x8 x9->p7 x0 x1 x2 x3 x4 x5 x6 x7 x8 x9->p8 x0 x1 x2 x3 x4 x5 x6 x7 x8 x9->p9 x0 x1 x2 x3 x4 x5 x6 x7 x8 x9->p10 x0 x1 x2 x3 x4 x5 x6 x7 x8 x9->G):G:=by obtain⟨c0,c1,c2,c3,c4,c5,c6,c7,c8,c9,c10,c11,c12,c13,c14,c15,c16,c17,c18,c19,c20⟩:=h;exact k c0 c1 c2 c3 c4 c5 c6 c7 c8 c9 c10 c11 c12 c13 c14 c15 c16 c17 c18 c19 c20
theorem DZ{α0:Sort _}{α1:Sort _}{α2:Sort _}{α3:Sort _}{α4:Sort _}{α5:Sort _}{α6:Sort _}{α7:Sort _}{α8:Sort _}{α9:Sort _}{α10:Sort _}{α11:Sort _}{α12:Sort _}{α13:Sort _}{α14:Sort _}{α15:Sort _}{α16:Sort _}{p0:α0->α1->α2->α3->α4->α5->α6->α7->α8->α9->α10->α11->α12->α13->α14->α15->α16->Prop}{p1:α0->α1->α2->α3->α4->α5->α6->α7->α8->α9->α10->α11->α12->α13->α14->α15->α16->Prop}{p2:α0->α1->α2->α3->α4->α5->α6->α7->α8->α9->α10->α11->α12->α13->α14->α15->α16->Prop}{p3:α0->α1->α2->α3->α4->α5->α6->α7->α8->α9->α10->α11->α12->α13->α14->α15->α16->Prop}{G:Prop}(h:∃x0:α0,∃x1:α1,∃x2:α2,∃x3:α3,∃x4:α4,∃x5:α5,∃x6:α6,∃x7:α7,∃x8:α8,∃x9:α9,∃x10:α10,∃x11:α11,∃x12:α12,∃x13:α13,∃x14:α14,∃x15:α15,∃x16:α16,p0 x0 x1 x2 x3 x4 x5 x6 x7 x8 x9 x10 x11 x12 x13 x14 x15 x16/\ p1 x0 x1 x2 x3 x4 x5 x6 x7 x8 x9 x10 x11 x12 x13 x14 x15 x16/\ p2 x0 x1 x2 x3 x4 x5 x6 x7 x8 x9 x10 x11 x12 x13 x14 x15 x16/\ p3 x0 x1 x2 x3 x4 x5 x6 x7 x8 x9 x10 x11 x12 x13 x14 x15 x16)(k:∀x0:α0,∀x1:α1,∀x2:α2,∀x3:α3,∀x4:α4,∀x5:α5,∀x6:α6,∀x7:α7,∀x8:α8,∀x9:α9,∀x10:α10,∀x11:α11,∀x12:α12,∀x13:α13,∀x14:α14,∀x15:α15,∀x16:α16,p0 x0 x1 x2 x3 x4 x5 x6 x7 x8 x9 x10 x11 x12 x13 x14 x15 x16->p1 x0 x1 x2 x3 x4 x5 x6 x7 x8 x9 x10 x11 x12 x13 x14 x15 x16->p2 x0 x1 x2 x3 x4 x5 x6 x7 x8 x9 x10 x11 x12 x13 x14 x15 x16->p3 x0 x1 x2 x3 x4 x5 x6 x7 x8 x9 x10 x11 x12 x13 x14 x15 x16->G):G:=by obtain⟨c0,c1,c2,c3,c4,c5,c6,c7,c8,c9,c10,c11,c12,c13,c14,c15,c16,c17,c18,c19,c20⟩:=h;exact k c0 c1 c2 c3 c4 c5 c6 c7 c8 c9 c10 c11 c12 c13 c14 c15 c16 c17 c18 c19 c20
theorem D0{α0:Sort _}{α1:Sort _}{α2:Sort _}{α3:Sort _}{p0:α0->α1->α2->α3->Prop}{p1:α0->α1->α2->α3->Prop}{p2:α0->α1->α2->α3->Prop}{G:Prop}(h:∃x0:α0,∃x1:α1,∃x2:α2,∃x3:α3,p0 x0 x1 x2 x3/\ p1 x0 x1 x2 x3/\ p2 x0 x1 x2 x3)(k:∀x0:α0,∀x1:α1,∀x2:α2,∀x3:α3,p0 x0 x1 x2 x3->p1 x0 x1 x2 x3->p2 x0 x1 x2 x3->G):G:=by obtain⟨c0,c1,c2,c3,c4,c5,c6⟩:=h;exact k c0 c1 c2 c3 c4 c5 c6
theorem P1{α0:Sort _}{α1:Sort _}{α2:Sort _}{α3:Sort _}{p0:α0->α1->α2->α3->Prop}{p1:α0->α1->α2->α3->Prop}{p2:α0->α1->α2->α3->Prop}{p3:α0->α1->α2->α3->Prop}{p4:α0->α1->α2->α3->Prop}{p5:α0->α1->α2->α3->Prop}{p6:α0->α1->α2->α3->Prop}{p7:α0->α1->α2->α3->Prop}{p8:α0->α1->α2->α3->Prop}{G:Prop}(h:∃x0:α0,∃x1:α1,∃x2:α2,∃x3:α3,p0 x0 x1 x2 x3/\ p1 x0 x1 x2 x3/\ p2 x0 x1 x2 x3/\ p3 x0 x1 x2 x3/\ p4 x0 x1 x2 x3/\ p5 x0 x1 x2 x3/\ p6 x0 x1 x2 x3/\ p7 x0 x1 x2 x3/\ p8 x0 x1 x2 x3)(k:∀x0:α0,∀x1:α1,∀x2:α2,∀x3:α3,p0 x0 x1 x2 x3->p1 x0 x1 x2 x3->p2 x0 x1 x2 x3->p3 x0 x1 x2 x3->p4 x0 x1 x2 x3->p5 x0 x1 x2 x3->p6 x0 x1 x2 x3->p7 x0 x1 x2 x3->p8 x0 x1 x2 x3->G):G:=by obtain⟨c0,c1,c2,c3,c4,c5,c6,c7,c8,c9,c10,c11,c12⟩:=h;exact k c0 c1 c2 c3 c4 c5 c6 c7 c8 c9 c10 c11 c12
theorem P2{α0:Sort _}{α1:Sort _}{p0:α0->α1->Prop}{p1:α0->α1->Prop}{p2:α0->α1->Prop}{p3:α0->α1->Prop}{p4:α0->α1->Prop}{p5:α0->α1->Prop}{p6:α0->α1->Prop}{G:Prop}(h:∃x0:α0,∃x1:α1,p0 x0 x1/\ p1 x0 x1/\ p2 x0 x1/\ p3 x0 x1/\ p4 x0 x1/\ p5 x0 x1/\ p6 x0 x1)(k:∀x0:α0,∀x1:α1,p0 x0 x1->p1 x0 x1->p2 x0 x1->p3 x0 x1->p4 x0 x1->p5 x0 x1->p6 x0 x1->G):G:=by obtain⟨c0,c1,c2,c3,c4,c5,c6,c7,c8⟩:=h;exact k c0 c1 c2 c3 c4 c5 c6 c7 c8
theorem P3{α0:Sort _}{α1:Sort _}{α2:Sort _}{α3:Sort _}{p0:α0->α1->α2->α3->Prop}{p1:α0->α1->α2->α3->Prop}{p2:α0->α1->α2->α3->Prop}{p3:α0->α1->α2->α3->Prop}{p4:α0->α1->α2->α3->Prop}{p5:α0->α1->α2->α3->Prop}{p6:α0->α1->α2->α3->Prop}{G:Prop}(h:∃x0:α0,∃x1:α1,∃x2:α2,∃x3:α3,p0 x0 x1 x2 x3/\ p1 x0 x1 x2 x3/\ p2 x0 x1 x2 x3/\ p3 x0 x1 x2 x3/\ p4 x0 x1 x2 x3/\ p5 x0 x1 x2 x3/\ p6 x0 x1 x2 x3)(k:∀x0:α0,∀x1:α1,∀x2:α2,∀x3:α3,p0 x0 x1 x2 x3->p1 x0 x1 x2 x3->p2 x0 x1 x2 x3->p3 x0 x1 x2 x3->p4 x0 x1 x2 x3->p5 x0 x1 x2 x3->p6 x0 x1 x2 x3->G):G:=by obtain⟨c0,c1,c2,c3,c4,c5,c6,c7,c8,c9,c10⟩:=h;exact k c0 c1 c2 c3 c4 c5 c6 c7 c8 c9 c10
theorem P4{α0:Sort _}{α1:Sort _}{α2:Sort _}{p0:α0->α1->α2->Prop}{p1:α0->α1->α2->Prop}{p2:α0->α1->α2->Prop}{p3:α0->α1->α2->Prop}{p4:α0->α1->α2->Prop}{G:Prop}(h:∃x0:α0,∃x1:α1,∃x2:α2,p0 x0 x1 x2/\ p1 x0 x1 x2/\ p2 x0 x1 x2/\ p3 x0 x1 x2/\ p4 x0 x1 x2)(k:∀x0:α0,∀x1:α1,∀x2:α2,p0 x0 x1 x2->p1 x0 x1 x2->p2 x0 x1 x2->p3 x0 x1 x2->p4 x0 x1 x2->G):G:=by obtain⟨c0,c1,c2,c3,c4,c5,c6,c7⟩:=h;exact k c0 c1 c2 c3 c4 c5 c6 c7
theorem D1{α0:Sort _}{p0:Prop}{p1:α0->Prop}{G:Prop}(h:p0/\ (∃x0:α0,p1 x0))(k:p0->∀x0:α0,p1 x0->G):G:=by obtain⟨c0,c1,c2⟩:=h;exact k c0 c1 c2
theorem P5{α0:Sort _}{α1:Sort _}{α2:Sort _}{α3:Sort _}{α4:Sort _}{α5:Sort _}{α6:Sort _}{α7:Sort _}{p0:α0->α1->α2->α3->α4->α5->α6->α7->Prop}{p1:α0->α1->α2->α3->α4->α5->α6->α7->Prop}{p2:α0->α1->α2->α3->α4->α5->α6->α7->Prop}{p3:α0->α1->α2->α3->α4->α5->α6->α7->Prop}{p4:α0->α1->α2->α3->α4->α5->α6->α7->Prop}{p5:α0->α1->α2->α3->α4->α5->α6->α7->Prop}{p6:α0->α1->α2->α3->α4->α5->α6->α7->Prop}{p7:α0->α1->α2->α3->α4->α5->α6->α7->Prop}{p8:α0->α1->α2->α3->α4->α5->α6->α7->Prop}{G:Prop}(h:∃x0:α0,∃x1:α1,∃x2:α2,∃x3:α3,∃x4:α4,∃x5:α5,∃x6:α6,∃x7:α7,p0 x0 x1 x2 x3 x4 x5 x6 x7/\ p1 x0 x1 x2 x3 x4 x5 x6 x7/\ p2 x0 x1 x2 x3 x4 x5 x6 x7/\ p3 x0 x1 x2 x3 x4 x5 x6 x7/\ p4 x0 x1 x2 x3 x4 x5 x6 x7/\ p5 x0 x1 x2 x3 x4 x5 x6 x7/\ p6 x0 x1 x2 x3 x4 x5 x6 x7/\ p7 x0 x1 x2 x3 x4 x5 x6 x7/\ p8 x0 x1 x2 x3 x4 x5 x6 x7)(k:∀x0:α0,∀x1:α1,∀x2:α2,∀x3:α3,∀x4:α4,∀x5:α5,∀x6:α6,∀x7:α7,p0 x0 x1 x2 x3 x4 x5 x6 x7->p1 x0 x1 x2 x3 x4 x5 x6 x7->p2 x0 x1 x2 x3 x4 x5 x6 x7->p3 x0 x1 x2 x3 x4 x5 x6 x7->p4 x0 x1 x2 x3 x4 x5 x6 x7->p5 x0 x1 x2 x3 x4 x5 x6 x7->p6 x0 x1 x2 x3 x4 x5 x6 x7->p7 x0 x1 x2 x3 x4 x5 x6 x7->p8 x0 x1 x2 x3 x4 x5 x6 x7->G):G:=by obtain⟨c0,c1,c2,c3,c4,c5,c6,c7,c8,c9,c10,c11,c12,c13,c14,c15,c16⟩:=h;exact k c0 c1 c2 c3 c4 c5 c6 c7 c8 c9 c10 c11 c12 c13 c14 c15 c16
theorem P6{α0:Sort _}{α1:Sort _}{α2:Sort _}{p0:α0->α1->α2->Prop}{p1:α0->α1->α2->Prop}{p2:α0->α1->α2->Prop}{p3:α0->α1->α2->Prop}{p4:α0->α1->α2->Prop}{p5:α0->α1->α2->Prop}{p6:α0->α1->α2->Prop}{p7:α0->α1->α2->Prop}{G:Prop}(h:∃x0:α0,∃x1:α1,∃x2:α2,p0 x0 x1 x2/\ p1 x0 x1 x2/\ p2 x0 x1 x2/\ p3 x0 x1 x2/\ p4 x0 x1 x2/\ p5 x0 x1 x2/\ p6 x0 x1 x2/\ p7 x0 x1 x2)(k:∀x0:α0,∀x1:α1,∀x2:α2,p0 x0 x1 x2->p1 x0 x1 x2->p2 x0 x1 x2->p3 x0 x1 x2->p4 x0 x1 x2->p5 x0 x1 x2->p6 x0 x1 x2->p7 x0 x1 x2->G):G:=by obtain⟨c0,c1,c2,c3,c4,c5,c6,c7,c8,c9,c10⟩:=h;exact k c0 c1 c2 c3 c4 c5 c6 c7 c8 c9 c10
theorem D2{p0:Prop}{p1:Prop}{p2:Prop}{p3:Prop}{p4:Prop}{p5:Prop}{p6:Prop}{G:Prop}(h:p0/\ p1/\ p2/\ p3/\ p4/\ p5/\ p6)(k:p0->p1->p2->p3->p4->p5->p6->G):G:=by obtain⟨c0,c1,c2,c3,c4,c5,c6⟩:=h;exact k c0 c1 c2 c3 c4 c5 c6
theorem P7{α0:Sort _}{α1:Sort _}{α2:Sort _}{α3:Sort _}{p0:α0->α1->α2->Prop}{p1:α0->α1->α2->Prop}{p2:α0->α1->α2->Prop}{p3:α0->α1->α2->Prop}{p4:α0->α1->α2->Prop}{p5:α0->α1->α2->Prop}{p6:α0->α1->α2->Prop}{p7:α0->α1->α2->α3->Prop}{G:Prop}(h:∃x0:α0,∃x1:α1,∃x2:α2,p0 x0 x1 x2/\ p1 x0 x1 x2/\ p2 x0 x1 x2/\ p3 x0 x1 x2/\ p4 x0 x1 x2/\ p5 x0 x1 x2/\ p6 x0 x1 x2/\ (∃x3:α3,p7 x0 x1 x2 x3))(k:∀x0:α0,∀x1:α1,∀x2:α2,p0 x0 x1 x2->p1 x0 x1 x2->p2 x0 x1 x2->p3 x0 x1 x2->p4 x0 x1 x2->p5 x0 x1 x2->p6 x0 x1 x2->∀x3:α3,p7 x0 x1 x2 x3->G):G:=by obtain⟨c0,c1,c2,c3,c4,c5,c6,c7,c8,c9,c10,c11⟩:=h;exact k c0 c1 c2 c3 c4 c5 c6 c7 c8 c9 c10 c11
theorem r7{a b c d:Nat}(h:a+c<=d)(e:dh b c=true):a+b<=d:=aj (d7 (bz e) _) h
theorem wQ{a n k c j:Nat}(h:a+(n+k)<=c)(e:dh j k=true):a+n+j<=c:=aj (aj (d7 (bz e) (a+n)) (bG (gW a n k))) h
theorem lI{a n k c j:Nat}(h:a+(n+k)<=c)(e:dh j k=true):a+j+n<=c:=aj (bG (gX a j n)) (wQ h e)
theorem wR{a n k c d:Nat}(h:a+10*(n+k)<=c)(e:dh d (10*k)=true):a+d+10*n<=c:=lI (n:=10*n) (k:=10*k) (aj (bG (congrArg (a+ ·) (Nat.mul_add 10 n k).symm)) h) e
theorem wS{a n c j k:Nat}(h:a+n<=c)(g:k<=n)(e:dh j k=true):a+j<=c:=aj (d7 (aj (bz e) g) a) h
theorem jB{a n c d k:Nat}(h:a+10*n<=c)(g:k<=n)(e:dh d (10*k)=true):a+d<=c:=aj (d7 (aj (bz e) (lr 10 g)) a) h
theorem r8{a n c k:Nat}(h:a+n<=c)(g:k<=n):a+k<=c:=aj (d7 g a) h
theorem sd{a n c k:Nat}(h:a+10*n<=c)(g:k<=n):a+10*k<=c:=aj (d7 (lr 10 g) a) h
theorem aL{a b c:Nat}(h:a<=b)(e:dh b c=true):a<=c:=aj h (bz e)
theorem fo{a b c:Nat}(h:a<=b)(e:dh (b+1) c=true):a<c:=bU h (bz e)
theorem d9{a b c k:Nat}(h:a<=b)(e:dh (b+k) c=true):a+k<=c:=aj (iq h k) (bz e)
theorem mV{a b c k:Nat}(h:a<=b)(e:dh (k+b) c=true):k+a<=c:=aj (d7 h k) (bz e)
theorem bX{a b c d:Nat}(h:a<=b)(g:b<=c)(e:dh c d=true):a<=d:=aj h (aj g (bz e))
theorem se{a b c d:Nat}(h:a+b<=c)(e:dh c d=true):a<=d:=aj (bf a b) (aj h (bz e))
theorem si{a b c d:Nat}(h:a+b<=c)(e:dh c d=true):b<=d:=aj (bV b a) (aj h (bz e))
theorem D3{a b c d f:Nat}(h:a+b+f<=c)(e:dh c d=true):a<=d:=se (se h (Pf (bP c))) e
theorem D4{a b c d f:Nat}(h:a+b+f<=c)(e:dh c d=true):b<=d:=si (se h (Pf (bP c))) e
theorem eY{a b c d f:Nat}(h:a+b<=c)(g:c<=d)(e:dh d f=true):a<=f:=aj (bf a b) (aj h (aj g (bz e)))
theorem fq{k n j:Nat}(h:k<=n)(e:dh (j+1) k=true):j<=n-1:=CZ (aj (bz e) h)
theorem sj{n b k:Nat}(h:n+1+b<=k):n+b<=k-1:=CZ (aj (bG (gX n b 1)) h)
theorem sk{n L:Nat}(h:L<2*(n+1))(g:2<=L):L-2<2*n:=Nat.sub_lt_right_of_lt_add g h
theorem sm{n s t:Nat}(g:s+2<=t)(h:t<2*(n+1)):s<2*n:=Nat.lt_of_add_lt_add_right (n:=2) (bU g h)
theorem o7{n i:Nat}(h:i<n):n+1-(i+1)<n+1-i:=rk (kf h) (gk i)
theorem mW{n i k:Nat}(h:n-i=k+1):n-(i+1)=k:=(Nat.sub_add_eq n i 1).trans (congrArg (· -1) h)
theorem sq{a b n:Nat}(h:a-b=n+1):b<a:=Nat.lt_of_sub_eq_succ h
theorem D5{k:Nat}(h:0<k):k=k-1+1:=(rm h).symm
theorem ss{k a:Nat}(h:a<k):k=k-1+1:=(rm (bU (dR a) h)).symm
theorem D6{i:Int}{n:Int}{m:Int}(h:i<=n)(e:decide (n<m)=true):i<m:=oA h (of_decide_eq_true e)
theorem D7{i:Int}{n:Int}{m:Int}(h:i<n)(e:decide (n<=m)=true):i<=m:=jr (rn h) (of_decide_eq_true e)
theorem o8{i:Int}{n:Int}{m:Int}(h:i<=n)(e:decide (m<=i)=true):m<=n:=jr (of_decide_eq_true e) h
theorem iW{a b c:Nat}(h:a<=b):a<=b+c:=aj h (bf _ _)
theorem lJ{a b c:Nat}(h:a<=b):a<=c+b:=aj h (bV _ _)
theorem iX{a b c:Nat}(h:a=b+c):b<=a:=h▸bf b c
theorem mX{n i:Nat}(h:i<=n)(g:¬i<n):i=n:=Nat.le_antisymm h (Nat.le_of_not_lt g)
theorem su{n i:Nat}(h:i<n):n-i=n-i-1+1:=(rm (Nat.sub_pos_of_lt h)).symm
theorem sv{a b c:Nat}(h:b=a+1)(g:c=a+2):a≠b/\ a≠c/\ b≠c:=by subst h;subst g;exact⟨eT (gk a),eT (kf (gk a)),eT (gk (a+1))⟩
theorem D8{a n k c x y z w:Nat}(h:a+10*(n+k)<=c)(e:dh (x+y+z+w) (10*k)=true):a+x+y+z+w+10*n<=c:=aj (bG (congrArg (· +10*n) (by rw[gW,gW,gW,<-gW x,<-gW (x+y)]:a+x+y+z+w=a+(x+y+z+w)))) (wR h e)
theorem sw{a b c d:Nat}(h:a+b+c<=d):a+c+b<=d:=aj (bG (gX a c b)) h
theorem D9{a b c d k:Nat}(h:a+b+c<=d)(e:dh k b=true):a+k+c<=d:=aj (iq (d7 (bz e) a) c) h
theorem D'{a n c d k:Nat}(h:a+n<=c)(g:d<k)(e:dh (c+j) d=true):a+j<k:=bU (aj (iq (aj (bf a n) h) j) (bz e)) g
theorem Ea{n q k:Nat}(h:q+1<=n)(e:dh 1 k=true):n-(q+k)<n-q:=rk h (oC (bz e))
theorem o9{n p q m:Nat}(h:q<p)(g:p<=n)(f:n-q<m+1):n-p<m:=di (rk (di h g) h) (vN f)
theorem Eb{n p q:Nat}(h:q+1<p)(g:p+1<=n):n-(p+1)<n-q:=have z:=kf (iT h);rk (di z g) z
theorem sx{n i:Nat}(h:i<=n)(g:n-i=0):i=n:=Nat.le_antisymm h (Nat.le_of_sub_eq_zero g)
theorem Ec{n i:Nat}(h:i<=n):i+(n-i)=n:=C0 h
theorem Ed{n:Nat}(h:1<=n):n-1≠n:=eT (vO h (gB 0))
theorem wT{n L j:Nat}(h:n<=L)(e:dh L k=true):n-j<=k:=aj (cM n j) (aj h (bz e))
theorem wU{b c:Nat}(g:c=b+2){x:Nat}(f:x<b):x≠c:=λq=>js _ (ro (ro (q▸f) (gk b)) (g▸gk (b+1)))
theorem Ee{c:Nat}(h:48<=c/\ c<=57):c=48 \/c=49 \/c=50 \/c=51 \/c=52 \/c=53 \/c=54 \/c=55 \/c=56 \/c=57:=(by decide:∀c,c<58->48<=c->(c=48 \/c=49 \/c=50 \/c=51 \/c=52 \/c=53 \/c=54 \/c=55 \/c=56 \/c=57)) c (rt h.2) h.1
theorem Ef{c:Nat}(h:48<=c/\ c<=57):c≠91/\ c≠93/\ c≠40/\ c≠41/\ c≠44:=(by decide:∀c,c<58->48<=c->c≠91/\ c≠93/\ c≠40/\ c≠41/\ c≠44) c (rt h.2) h.1
theorem wV{c:Nat}(h:48<=c/\ c<=57):((c-48:Nat):Int)=(c:Int)-48:=C1 h.1
theorem Eg{i k:Int}{n:Nat}(h:0<=i)(g:i<k)(f:k=(n:Int)):i.toNat<n:=(vP h).mpr (f▸g)
theorem Eh{i:Int}(h:0<=i)(g:¬0<i):0=i:=Int.le_antisymm h (vQ.mp g)
theorem kz{a b c:Nat}(h:a=b)(g:b<=c):a<=c:=h▸g
theorem sy{a b c d:Nat}(h:a=b)(g:b<=c)(e:dh c d=true):a<=d:=h▸aj g (bz e)
theorem bl{α:Type _}{β:Type _}{x:Option α}{f:α->Option β}{b:β}{G:Prop}(h:x.bind f=some b)(k:∀a,x=some a->f a=some b->G):G:=by
 cases x with
 |none=>nomatch h
 |some a=>exact k a rfl h
theorem eZ{α:Type _}{β:Type _}{x:Option α}{f:α->β}{b:β}{G:Prop}(h:x.map f=some b)(k:∀a,x=some a->f a=b->G):G:=by
 cases x with
 |none=>nomatch h
 |some a=>exact k a rfl (vR h)
theorem gI{I:PySem.Addr}{h h':PySem.Heap}(k:∀b o,b∉[I]->h.get? b=some o->h'.get? b=some o)(b:PySem.Addr)(o:PySem.Obj)(hb:b≠I)(e:h.get? b=some o):h'.get? b=some o:=k b o (λq=>hb (dw.mp q)) e
theorem Ei{a b c:Nat}(h:a=b)(g:c<=b):c<=a:=h▸g
theorem zl{a b:Nat}{c:Int}(h:a<=b)(e:(b:Int)<c):(a:Int)<c:=oA (kg.mpr h) e
theorem z1(m:Nat):(-1:Int)+((m+1:Nat):Int)=(m:Int):=(oE (-1) ((m:Int)+1)).trans (Int.add_neg_cancel_right _ _)
theorem zm{n:Nat}(h:0<n):(-1:Int)+(n:Int)=((n-1:Nat):Int):=by
 cases n with
 |zero=>exact absurd h (js 0)
 |succ m=>exact z1 m
theorem Ej{n:Nat}(h:1<=n):max ((-1:Int)+(n:Int)) 0=((n-1:Nat):Int):=(congrArg (λz=>max z (0:Int)) (zm h)).trans (Int.max_eq_left (kh _))
theorem wW{n:Nat}(h:0<n): -(n:Int)<= -1:=Int.neg_le_neg (kg.mpr h)
theorem sz{i:Int}{n k:Nat}(e:(if i<0 then i+n else i)=(k:Int))(l:k<n):PySem.seqIndex? i n=some k:=by
 unfold PySem.seqIndex?
 rw[e]
 exact if_pos ((aI _ _).mpr ⟨decide_eq_true (kh k),decide_eq_true (mF.mpr l)⟩)
theorem jC(a n:Nat):max (0:Int) (min (if(a:Int)<0 then(a:Int)+n else a) n)=((min a n:Nat):Int):=by
 rw[if_neg (vQ.mpr (kh a)),<-Lean.Omega.Int.ofNat_min]
 exact Int.max_eq_right (kh _)
theorem Ek{a b n:Nat}(h:b-min a n=n)(g:b<=n)(f:¬n=0):a=0:=by
 cases a with
 |zero=>rfl
 |succ a=>exact absurd h (eT (di (vO (C2 λz=>f (h.symm.trans (by rw[z,Nat.zero_sub]))) (Nat.lt_min.mpr ⟨gB a,C2 f⟩)) g))
theorem El(n:Nat):(if(0:Int)<n then(n:Int)-0-1+1 else 0).toNat=n:=by
 cases n with
 |zero=>rfl
 |succ n=>
  refine(congrArg Int.toNat (if_pos (mF.mpr (gB n)))).trans ?_
  rw[vS,Int.sub_add_cancel];rfl
theorem wX{s b c x:Nat}(z:b=s+1)(g:c=s+2)(h:x<b):x≠c:=eT (ro (z▸h) (g▸gk (s+1)))
theorem wY{t a x p q L:Nat}(e:t=a+x)(g:x<=q)(h:a+(p+q)<=L):t+p<=L:=e▸aj (aj (bG (gW a x p)) (d7 (aj (bG (ir x p)) (d7 g p)) a)) h
theorem Em{t a x p q L:Nat}(e:t=a+x)(g:x<=q)(h:a+(p+q)<=L):t<=L:=aj (bf t p) (wY e g h)
theorem wZ{i m n:Nat}(h:i<n)(e:n-(i+1)=m):i+m+1=n:=e▸(gX i _ 1).trans (C0 h)
theorem En{i j n:Nat}(h:i<n)(e:j+(n-i-1)+1=n):j=i:=Pg (Pg (e.trans (wZ h (Nat.sub_add_eq n i 1)).symm))
theorem w0{a j k c:Nat}(h:a+k<c)(e:dh j k=true):a+j<c:=bU (d7 (bz e) a) h
theorem sA{a b c:Nat}(z:b=a+2)(e:b=c):a<=c:=e▸z▸bf a 2
theorem pa{a b c:Nat}(z:b=a+2)(e:b=c):a+1<c:=e▸z▸gk (a+1)
theorem Eo{i:Int}{n:Nat}(h:0<=i)(g:i<=n):i.natAbs<=n:=kg.mp (jr (Int.le_of_eq (Int.natAbs_of_nonneg h)) g)
theorem mY{p m l n:Nat}(hp:p<=n)(hm:m=l)(h:l<=n-p):p+m<=n:=aj (bG (ir p m)) (Ph hp (hm▸h))
theorem Ep{n p d r:Nat}(hp:p<=n)(h:n-p=d+r):n-r=p+d:=Nat.sub_eq_of_eq_add (((C0 hp).symm.trans (congrArg (p+ ·) h)).trans (gW p d r).symm)
theorem w5{n p k:Nat}(hp:p<=n)(h:min k (n-p)=k):p+k<=n:=mY hp rfl (aj (bG h.symm) (mG _ _))
theorem mZ{q r s:Nat}(e:r=q+1+s):q<r:=e▸bf (q+1) s
theorem Er{a d k:Nat}(h:a<10^k)(g:d<10):a*10+d<10^(k+1):=di (Nat.add_lt_add_left g (a*10)) (aj (bG (Nat.succ_mul a 10).symm) (Pi 10 h))
theorem pb{a b c:Nat}(h:a=b+c):c<=a:=h▸bV c b
theorem Es{n m:Nat}(h:m<n)(g:1<=m):n-1-m+2<=n:=aj (rA (bG ((Nat.sub_sub n 1 m).trans (congrArg (n- ·) (ir 1 m)))) (er g)) (bG (rm h))
theorem Et{u:Nat}(h:2<=u):min (u-1) u-1+2<=u:=aj (iq (Pj (rB _ _) 1) 2) (bG ((congrArg (· +2) (Nat.sub_sub u 1 1)).trans (rm h)))
theorem w6{J D T:Nat}(e:T=J+2+D)(h:T<=90):J<=88:=Nat.le_of_add_le_add_right (b:=2) (aj (bf _ D) (e▸h))
theorem sB{J D T:Nat}(e:T=J+2+D)(h:T<=90):D<=88:=Nat.le_of_add_le_add_left (a:=2) (aj (iq (bV 2 J) D) (e▸h))
end
section
inductive aY where
 |tup|bas
 deriving DecidableEq
inductive PV where
 |none
 |bool (b:Bool)
 |int (i:Int)
 |str (s:List Nat)
 |tuple (xs:List PV)
 |list (xs:List PV)
 |inst (c:aY) (fs:List (Str×PV))
inductive XC where
 |parse|value|abi
 deriving DecidableEq
inductive Res(α:Type) where
 |ok (a:α)
 |exc (c:XC)
 |stuck
noncomputable def Res.bind{α β:Type}(r:Res α)(f:α->Res β):Res β:=match r with
 | .ok a=>f a
 | .exc c=> .exc c
 | .stuck=> .stuck
theorem eM{α β:Type}(a:α)(f:α->Res β):(Res.ok a).bind f=f a:=rfl
theorem w7{α β:Type}(c:XC)(f:α->Res β):(Res.exc c).bind f= .exc c:=rfl
theorem w8{α β:Type}(f:α->Res β):(Res.stuck:Res α).bind f= .stuck:=rfl
noncomputable def aE{α:Type}:Option α->Res α
 |some a=> .ok a
 |none=> .stuck
theorem m0{α:Type}(a:α):aE (some a)= .ok a:=rfl
theorem P8{α:Type}:aE (none:Option α)= .stuck:=rfl
theorem am{α:Type}{r:α}{P:Prop}(e:(none:Option α)=some r):P:=by cases e
theorem aq{α:Type}{a r:α}(e:some a=some r):a=r:=by cases e;rfl
theorem dk{α:Type}{a b:α}(h:Res.ok a=Res.ok b):a=b:=by cases h;rfl
theorem iA{α:Type}{a:α}{P:Prop}(h:Res.stuck=Res.ok a):P:=by cases h
theorem jD{α:Type}{c:XC}{a:α}{P:Prop}(h:Res.exc c=Res.ok a):P:=by cases h
theorem Eu{α:Type}{c:XC}{a:α}{P:Prop}(h:Res.ok a=Res.exc c):P:=by cases h
theorem bZ{P:Prop}(h:false=true):P:=by cases h
theorem kA{P:Prop}(h:true=false):P:=by cases h
theorem lK{α:Type}{a:α}{P:Prop}(h:some a=none):P:=by cases h
theorem m8{α:Type}{a:α}{l:List α}{P:Prop}(h:a::l=[]):P:=by cases h
theorem sC{α:Type}{a:α}{l:List α}{P:Prop}(h:[]=a::l):P:=by cases h
theorem P9{a b}{P:Prop}(h:Data.fields a=Data.dict b):P:=by cases h
theorem ew{a b:Bool}(h:(a&&b)=true):a=true/\ b=true:=by rwa [aI]at h
theorem Qa{a b}{P:Prop}(h:Data.seq a=Data.dict b):P:=by cases h
noncomputable def ft{α:Type}(l:List α):Option α:=match l with
 |[]=>none
 |a::r=>if r.isEmpty=true then some a else none
theorem hJ{α:Type}{l:List α}{a:α}(h:ft l=some a):l=[a]:=by
 cases l with
 |nil=>exact am h
 |cons b r=>
  by_cases q:r.isEmpty=true
  ·rw[gY.mp q]at h ⊢;obtain rfl:=aq h;rfl
  ·exact am ((if_neg q).symm.trans h)
noncomputable def two{α:Type}(l:List α):Option (α×α):=match l with
 |[]=>none
 |a::r=>(ft r).map λb=>(a,b)
theorem pc{α:Type}{l:List α}{q:α×α}(h:two l=some q):l=[q.1,q.2]:=by
 cases l with
 |nil=>exact am h
 |cons a r=>
  refine eZ h λb hb h=> ?_
  rw[hJ hb,<-h]
noncomputable def m9(e:ai):Option jt:=if h:e.ctorIdx=19 then some (Pk e h λc ø ø=>c)else none
theorem sD{e:ai}{c:jt}(h:m9 e=some c):∃k p,e= .Constant c k p:=by
 by_cases q:e.ctorIdx=19
 ·obtain⟨c',k,p,rfl⟩:∃c k p,e= .Constant c k p:=Pk e q λc k p=>⟨c,k,p,rfl⟩
  obtain rfl:=aq h;exact⟨k,p,rfl⟩
 ·exact am ((dif_neg q).symm.trans h)
noncomputable def hO(e:ai):Option (Str×ax):=if h:e.ctorIdx=23 then some (Pl e h λx p=>(x,p))else none
theorem lL{e:ai}{q:Str×ax}(h:hO e=some q):e= .Name q.1 q.2:=by
 by_cases k:e.ctorIdx=23
 ·obtain⟨x,p,rfl⟩:∃x p,e= .Name x p:=Pl e k λx p=>⟨x,p,rfl⟩
  obtain rfl:=aq h;rfl
 ·exact am ((dif_neg k).symm.trans h)
noncomputable def kB(e:ai):Option (List ai):=if h:e.ctorIdx=25 then some (Pm e h λes ø ø=>es)else none
theorem sE{e:ai}{es:List ai}(h:kB e=some es):∃k p,e= .Tuple es k p:=by
 by_cases q:e.ctorIdx=25
 ·obtain⟨c',k,p,rfl⟩:∃c k p,e= .Tuple c k p:=Pm e q λc k p=>⟨c,k,p,rfl⟩
  obtain rfl:=aq h;exact⟨k,p,rfl⟩
 ·exact am ((dif_neg q).symm.trans h)
noncomputable def w9(e:ai):Option (ai×List fi×List ai):=if h:e.ctorIdx=15 then some (Pn e h λl ops rs ø=>(l,ops,rs))else none
theorem Ew{e:ai}{q}(h:w9 e=some q):∃p,e= .Compare q.1 q.2.1 q.2.2 p:=by
 by_cases k:e.ctorIdx=15
 ·obtain⟨l,ops,rs,p,rfl⟩:∃l ops rs p,e= .Compare l ops rs p:=Pn e k λl ops rs p=>⟨l,ops,rs,p,rfl⟩
  obtain rfl:=aq h;exact⟨p,rfl⟩
 ·exact am ((dif_neg k).symm.trans h)
noncomputable def pd(e:ai):Option (ai×List ai×List Keyword):=if h:e.ctorIdx=16 then some (Po e h λf as ks ø=>(f,as,ks))else none
theorem w'{e:ai}{q}(h:pd e=some q):∃p,e= .Call q.1 q.2.1 q.2.2 p:=by
 by_cases k:e.ctorIdx=16
 ·obtain⟨f,as,ks,p,rfl⟩:∃f as ks p,e= .Call f as ks p:=Po e k λf as ks p=>⟨f,as,ks,p,rfl⟩
  obtain rfl:=aq h;exact⟨p,rfl⟩
 ·exact am ((dif_neg k).symm.trans h)
noncomputable def pe(e:ai):Option (ai×Str×ax):=if h:e.ctorIdx=20 then some (vT e h λo a p=>(o,a,p))else none
theorem Ex{e:ai}{q}(h:pe e=some q):e= .Attribute q.1 q.2.1 q.2.2:=by
 by_cases k:e.ctorIdx=20
 ·obtain⟨o,a,p,rfl⟩:∃o a p,e= .Attribute o a p:=vT e k λo a p=>⟨o,a,p,rfl⟩
  obtain rfl:=aq h;rfl
 ·exact am ((dif_neg k).symm.trans h)
noncomputable def xa(e:ai):Option (ai×List oF×Scope):=if h:e.ctorIdx=11 then some (Pp e h λa b c ø=>(a,b,c))else none
theorem Ey{e:ai}{q}(h:xa e=some q):∃p,e= .GeneratorExp q.1 q.2.1 q.2.2 p:=by
 by_cases k:e.ctorIdx=11
 ·obtain⟨a,b,c,p,rfl⟩:∃a b c p,e= .GeneratorExp a b c p:=Pp e k λa b c p=>⟨a,b,c,p,rfl⟩
  obtain rfl:=aq h;exact⟨p,rfl⟩
 ·exact am ((dif_neg k).symm.trans h)
noncomputable def sF(e:ai):Option (ai×List oF×Scope×ax):=if h:e.ctorIdx=8 then some (Pq e h λa b c p=>(a,b,c,p))else none
theorem Ez{e:ai}{q}(h:sF e=some q):e= .ListComp q.1 q.2.1 q.2.2.1 q.2.2.2:=by
 by_cases k:e.ctorIdx=8
 ·obtain⟨a,b,c,p,rfl⟩:∃a b c p,e= .ListComp a b c p:=Pq e k λa b c p=>⟨a,b,c,p,rfl⟩
  obtain rfl:=aq h;rfl
 ·exact am ((dif_neg k).symm.trans h)
noncomputable def sG(e:ai):Option (Option ai×Option ai×Option ai):=if h:e.ctorIdx=26 then some (Pr e h λa b c ø=>(a,b,c))else none
theorem EA{e:ai}{q}(h:sG e=some q):∃p,e= .Slice q.1 q.2.1 q.2.2 p:=by
 by_cases k:e.ctorIdx=26
 ·obtain⟨a,b,c,p,rfl⟩:∃a b c p,e= .Slice a b c p:=Pr e k λa b c p=>⟨a,b,c,p,rfl⟩
  obtain rfl:=aq h;exact⟨p,rfl⟩
 ·exact am ((dif_neg k).symm.trans h)
noncomputable def ng(c:jt):Option Str:=match c with
 | .str x=>some x
 |_=>none
theorem xb{c:jt}{x:Str}(h:ng c=some x):c= .str x:=by
 cases c with
 |str y=>obtain rfl:=aq h;rfl
 |_=>exact am h
noncomputable def sH(c:jt):Option Int:=match c with
 | .int x=>some x
 |_=>none
theorem EB{c:jt}{x:Int}(h:sH c=some x):c= .int x:=by
 cases c with
 |int y=>obtain rfl:=aq h;rfl
 |_=>exact am h
noncomputable def xc(c:jt):Option Bool:=match c with
 | .bool x=>some x
 |_=>none
theorem EC{c:jt}{x:Bool}(h:xc c=some x):c= .bool x:=by
 cases c with
 |bool y=>obtain rfl:=aq h;rfl
 |_=>exact am h
noncomputable def fW(e:ai):Option Str:=(hO e).map (·.1)
theorem iY{e:ai}{x:Str}(h:fW e=some x):∃p,e= .Name x p:=by
 refine eZ h λq hq h=> ?_
 subst h;exact⟨_,lL hq⟩
noncomputable def strE(e:ai):Option Str:=(m9 e).bind ng
theorem xd{e:ai}{x:Str}(h:strE e=some x):∃k p,e= .Constant (.str x) k p:=by
 refine bl h λc hc h=> ?_
 rw[<-xb h];exact sD hc
structure Calls where
 fn:Str->List PV->Res PV
 meth:aY->Str->List PV->Res PV
 prop:aY->Str->PV->Res PV
 glob:Str->Option PV
noncomputable abbrev ak:=List (Str×PV)
noncomputable def ao(x:Str):List Nat:=x.cps.toList
noncomputable def S(x:String):List Nat:=ao (aa x)
mutual
noncomputable def PV.py:PV->PyData
 | .none=> .none
 | .bool b=> .bool b
 | .int i=> .int i
 | .str s=> .str ⟨s.toArray⟩
 | .tuple xs=> .tuple (PV.pys xs)
 | .list xs=> .list (PV.pys xs)
 | .inst .. => .none
noncomputable def PV.pys:List PV->List PyData
 |[]=>[]
 |x::xs=>PV.py x::PV.pys xs
end
noncomputable def xe(k:List PV->Bool)(v:PV):Bool:=match v with
 | .none=>true
 | .bool _=>false
 | .int _=>true
 | .str s=>s.all λc=>decide (c<1114112)
 | .tuple xs=>k xs
 | .list xs=>k xs
 | .inst _ _=>false
noncomputable def PV.flat(n:Nat):PV->Bool:=Nat.rec (xe λø=>false) (λø f=>xe λxs=>xs.all f) n
noncomputable def PV.same(a b:PV):Bool:=PyData.eqv a.py b.py
noncomputable def ci(x:List Nat):List Nat->Bool
 |[]=>x.isEmpty
 |c::r=>(x.isPrefixOf (c::r))||ci x r
noncomputable def aX:Nat:=2^20
noncomputable def ee:PV->Option Bool
 | .none=>some false
 | .bool b=>some b
 | .int i=>some (i !=0)
 | .str s=>if s.length<=aX then some (!s.isEmpty)else none
 | .tuple xs=>if xs.length<=aX then some (!xs.isEmpty)else none
 | .list xs=>if xs.length<=aX then some (!xs.isEmpty)else none
 | .inst .. =>none
noncomputable def iB:Nat:=2^1000
noncomputable def small(i:Int):Bool:=decide (i.natAbs<=iB)
noncomputable def hW(a b:PV):Option (Int×Int):=match a with
 | .int x=>(match b with| .int y=>some (x,y)|_=>none)
 |_=>none
noncomputable def sJ(a b:PV):Option (Bool×Bool):=match a with
 | .bool x=>(match b with| .bool y=>some (x,y)|_=>none)
 |_=>none
noncomputable def iZ(a b:PV):Option (List Nat×List Nat):=match a with
 | .str x=>(match b with| .str y=>some (x,y)|_=>none)
 |_=>none
noncomputable def ni(a b:PV):Option (List PV×List PV):=match a with
 | .tuple x=>(match b with| .tuple y=>some (x,y)|_=>none)
 |_=>none
noncomputable def nj(a b:PV):Option (List PV×List PV):=match a with
 | .list x=>(match b with| .list y=>some (x,y)|_=>none)
 |_=>none
noncomputable def fX(a:PV):Bool:=match a with
 | .none=>true
 |_=>false
noncomputable def kC(a:PV):Option (List PV):=match a with
 | .list x=>some x
 |_=>none
noncomputable def kF(a:PV):Option (List PV):=match a with
 | .tuple x=>some x
 |_=>none
noncomputable def go(a:PV):Option (List Nat):=match a with
 | .str x=>some x
 |_=>none
noncomputable def gq(a:PV):Option Int:=match a with
 | .int x=>some x
 |_=>none
noncomputable def i0(args:List PV):Option PV:=match args with
 |[]=>none
 |a::r=>match r with
  |[]=>some a
  |_=>none
noncomputable def pg(a b:PV):Option PV:=match hW a b with
 |some p=>some (.int (p.1+p.2))
 |none=>match iZ a b with
  |some p=>if p.1.length+p.2.length<=aX then some (.str (p.1++p.2))else none
  |none=>match ni a b with
   |some p=>if p.1.length+p.2.length<=aX then some (.tuple (p.1++p.2))else none
   |none=>match nj a b with
    |some p=>if p.1.length+p.2.length<=aX then some (.list (p.1++p.2))else none
    |none=>none
noncomputable def bJ(op:mH)(a b:PV):Option PV:=match op with
 | .Add=>pg a b
 | .Sub=>(hW a b).map λp=> .int (p.1-p.2)
 | .Mult=>(hW a b).bind λp=>if small p.1&&small p.2 then some (.int (p.1*p.2))else none
 | .Mod=>(hW a b).bind λp=>if 0<p.2/\ p.2<=1000 then some (.int (p.1%p.2))else none
 |_=>none
noncomputable def lM(a b:PV):Option Bool:=match sJ a b with
 |some p=>some (p.1==p.2)
 |none=>match iZ a b with
  |some p=>some (p.1==p.2)
  |none=>match(ni a b).bind λp=>if p.2.isEmpty then some p.1 else none with
   |some xs=>some xs.isEmpty
   |none=>match(nj a b).bind λp=>if p.2.isEmpty then some p.1 else none with
    |some xs=>some xs.isEmpty
    |none=>if a.flat 4&&b.flat 4 then some (a.same b)else none
noncomputable def sK(a b:PV):Option Bool:=match iZ a b with
 |some p=>some (ci p.1 p.2)
 |none=>match kC b with
  |some ys=>if a.flat 4&&ys.all (PV.flat 4)then some (ys.any λy=>y.same a)else none
  |none=>match kF b with
   |some ys=>if a.flat 4&&ys.all (PV.flat 4)then some (ys.any λy=>y.same a)else none
   |none=>none
noncomputable def kG(op:fi)(a b:PV):Option Bool:=match op with
 | .Eq=>lM a b
 | .NotEq=>(lM a b).map (!·)
 | .Lt=>(hW a b).map λp=>decide (p.1<p.2)
 | .LtE=>(hW a b).map λp=>decide (p.1<=p.2)
 | .Gt=>(hW a b).map λp=>decide (p.1>p.2)
 | .GtE=>(hW a b).map λp=>decide (p.1≥p.2)
 | .Is=>if fX b then some (fX a)else none
 | .IsNot=>if fX b then some (!fX a)else none
 | .In=>sK a b
 | .NotIn=>(iZ a b).map λp=> !ci p.1 p.2
noncomputable def fY{α:Type}(xs:List α)(lo up:Option Nat):List α:=
 let xs:=match up with|some u=>xs.take u|none=>xs
 match lo with|some l=>xs.drop l|none=>xs
noncomputable def gr(v:PV):Option (Option Nat):=match v with
 | .none=>some none
 | .int i=>if 0<=i/\ i<=aX then some (some i.toNat)else none
 |_=>none
noncomputable def ED(xs:List PV)(lo up:PV):Option PV:=if fX lo then(gq up).bind λi=>if i= -1 then(if !xs.isEmpty&&decide (xs.length<=aX)then some (.tuple xs.dropLast)else none)else none else none
noncomputable def EE(xs:List Nat)(lo up:PV):Option PV:=(gr lo).bind λl=>(gr up).bind λu=>if xs.length<=aX then some (.str (fY xs l u))else none
noncomputable def gJ(v lo up:PV):Option PV:=match v with
 | .tuple xs=>ED xs lo up
 | .str xs=>EE xs lo up
 |_=>none
noncomputable def i3{α:Type}(xs:List α)(i:Int):Option α:=if 0<=i/\ i<=aX then xs[i.toNat]? else if i= -1 then xs.getLast? else none
noncomputable def fu(v i:PV):Option PV:=match v with
 | .str xs=>(gq i).bind λi=>if 0<=i/\ i<=aX then xs[i.toNat]?.map λc=> .str [c]else none
 | .tuple xs=>(gq i).bind (i3 xs)
 | .list xs=>(gq i).bind (i3 xs)
 |_=>none
noncomputable def aM(s:List Nat):Int:=s.foldl (λ(n:Int) (c:Nat)=>n*10+((c:Int)-48)) 0
noncomputable def bc(c:Nat):Bool:=48<=c&&c<=57
noncomputable def ey(i:Int):List Nat:=ao (aa (toString i))
noncomputable def bK(c:Nat):List Nat->List (List Nat)
 |[]=>[[]]
 |d::r=>if d=c then []::bK c r else match bK c r with
  |[]=>[[d]]
  |w::ws=>(d::w)::ws
noncomputable def aG(sep:List Nat):List (List Nat)->List Nat
 |[]=>[]
 |[x]=>x
 |x::y::r=>x++sep++aG sep (y::r)
noncomputable def sL(a:PV):Option Bool:=match a with
 | .bool x=>some x
 |_=>none
noncomputable def sM(a:PV):Option (aY×List (Str×PV)):=match a with
 | .inst c fs=>some (c,fs)
 |_=>none
noncomputable def cV(l:List PV):Option (List (List Nat)):=List.rec (some []) (λv ø r=>(go v).bind λs=>r.map (s:: ·)) l
noncomputable def i4(l:List PV):Option (List Bool):=List.rec (some []) (λv ø r=>(sL v).bind λs=>r.map (s:: ·)) l
noncomputable def i5(x:List Nat):List Nat->Nat->Option Nat
 |[],k=>if x.isEmpty then some k else none
 |c::r,k=>if x.isPrefixOf (c::r)then some k else i5 x r (k+1)
noncomputable def ph(v:PV):Option PV:=match v with
 | .str s=>if s.length<=aX then some (.int s.length)else none
 | .tuple s=>if s.length<=aX then some (.int s.length)else none
 | .list s=>if s.length<=aX then some (.int s.length)else none
 |_=>none
noncomputable def sN(v:PV):Option PV:=(go v).bind λs=>if s.all bc&& !s.isEmpty&&decide (s.length<=300)then some (.int (aM s))else none
noncomputable def sP(v:PV):Option PV:=(gq v).bind λi=>if small i then some (.str (ey i))else none
noncomputable def EF(v:PV):Option PV:=(gq v).bind λi=>if small i then some (.str (S "[" ++ey i++S "]"))else none
noncomputable def sQ(v:PV):Option PV:=(kC v).bind λxs=>match xs with
 |[]=>some (.str (S "[]"))
 |v::r=>if r.isEmpty then EF v else none
noncomputable def sR(args:List PV):Option PV:=match args with
 |[]=>some (.tuple [])
 |_=>(i0 args).bind λv=>(kC v).bind λxs=>if xs.length<=aX then some (.tuple xs)else none
noncomputable def sS(v:PV):Option PV:=(kF v).bind λxs=>if xs.length<=aX then some (.list xs)else none
noncomputable def da(f:Str)(args:List PV):Option PV:=
 if f=aa "len" then(i0 args).bind ph
 else if f=aa "int" then(i0 args).bind sN
 else if f=aa "str" then(i0 args).bind sP
 else if f=aa "repr" then(i0 args).bind sQ
 else if f=aa "tuple" then sR args
 else if f=aa "list" then(i0 args).bind sS
 else none
noncomputable def dO(v:PV)(t:Str):Option Bool:=
 if t=aa "str" then(match v with| .str _=>some true| .inst .. =>some false|_=>none)
 else if t=aa "int" then(match v with| .int _=>some true| .tuple _=>some false| .none=>some false|_=>none)
 else if t=aa "tuple" then(match v with| .tuple _=>some true| .int _=>some false| .none=>some false|_=>none)
 else if t=aa "TupleType" then(match v with| .inst .tup _=>some true| .inst .bas _=>some false|_=>none)
 else if t=aa "BasicType" then(match v with| .inst .tup _=>some false| .inst .bas _=>some true|_=>none)
 else none
noncomputable def xf(s c:List Nat):Option PV:=match c with
 |[]=>none
 |c::r=>if r.isEmpty then(if s.length<=aX then some (.list ((bK c s).map .str))else none)else none
noncomputable def sU(s:List Nat)(xs:List PV):Option PV:=(cV xs).bind λws=>if s.length+(aG s ws).length<=aX then some (.str (aG s ws))else none
noncomputable def nn(m:Str)(s:List Nat)(a:PV):Option PV:=
 if m=aa "endswith" then(go a).map λx=> .bool (x.isSuffixOf s)
 else if m=aa "startswith" then(go a).map λx=> .bool (x.isPrefixOf s)
 else if m=aa "split" then(go a).bind (xf s)
 else if m=aa "index" then(go a).bind λx=>(i5 x s 0).map λ(k:Nat)=>PV.int (k:Int)
 else if m=aa "join" then(kC a).bind (sU s)
 else none
noncomputable def cn(m:Str)(s:List Nat)(args:List PV):Option PV:=(i0 args).bind (nn m s)
noncomputable def bQ:PV->Option (List PV)
 | .str s=>if s.length<=aX then some (s.map λc=> .str [c])else none
 | .tuple xs=>if xs.length<=aX then some xs else none
 | .list xs=>if xs.length<=aX then some xs else none
 |_=>none
noncomputable def aQ(x:Str)(v:PV):ak->ak
 |[]=>[(x,v)]
 |(y,w)::r=>if y=x then(y,v)::r else(y,w)::aQ x v r
structure Ev where
 ev:Scope->ai->ak->Res PV
 tst:Scope->ai->ak->Res Bool
noncomputable def bL(ev:ai->ak->Res PV):List ai->ak->Res (List PV)
 |[],_=> .ok []
 |e::r,ρ=>(ev e ρ).bind λv=>(bL ev r ρ).bind λvs=> .ok (v::vs)
noncomputable def jE:BoolOp->Bool->Bool
 | .And,t=> !t
 | .Or,t=>t
noncomputable def fw(ev:ai->ak->Res PV)(op:BoolOp):List ai->ak->Res PV
 |[],_=> .stuck
 |[e],ρ=>ev e ρ
 |e::r,ρ=>(ev e ρ).bind λv=>(aE (ee v)).bind λt=>if jE op t then .ok v else fw ev op r ρ
noncomputable def i6(tst:ai->ak->Res Bool)(op:BoolOp):List ai->ak->Res Bool
 |[],_=> .ok (op== .And)
 |e::r,ρ=>(tst e ρ).bind λt=>if jE op t then .ok t else i6 tst op r ρ
noncomputable def sV(op:fi)(a b:PV):Option aY:=if op= .Eq then(sM a).bind λp=>(sM b).map λø=>p.1 else none
noncomputable def bn(C:Calls)(op:fi)(a b:PV):Res Bool:=match sV op a b with
  |some c=>(C.meth c (aa "__eq__") [a,b]).bind λt=>aE (sL t)
  |none=>aE (kG op a b)
noncomputable def gK(C:Calls)(ev:ai->ak->Res PV)(op:fi)(a:PV)(r:ai)(ρ:ak):Res (PV×Bool):=
 (ev r ρ).bind λb=>(bn C op a b).bind λt=> .ok (b,t)
noncomputable def cW(e:ai):Bool:=e.ctorIdx !=7
noncomputable def lN(C:Calls)(ev:ai->ak->Res PV)(l:ai)(op:fi)(r:ai)(ρ:ak):Res Bool:=(ev l ρ).bind λa=>(gK C ev op a r ρ).bind λp=> .ok p.2
noncomputable def lO(C:Calls)(ev:ai->ak->Res PV)(l:ai)(op op':fi)(r r':ai)(ρ:ak):Res Bool:=(ev l ρ).bind λa=>(gK C ev op a r ρ).bind λp=>if p.2 then(gK C ev op' p.1 r' ρ).bind λp=> .ok p.2 else .ok false
noncomputable def fZ(C:Calls)(ev:ai->ak->Res PV)(l:ai)(ops:List fi)(rs:List ai)(ρ:ak):Res Bool:=
 match ops with
  |[]=> .stuck
  |op::ops=>match rs with
   |[]=> .stuck
   |r::rs=>match ops with
    |[]=>if rs.isEmpty=true/\ cW r=true then lN C ev l op r ρ else .stuck
    |op'::ops=>match rs with
     |[]=> .stuck
     |r'::rs=>if ops.isEmpty=true/\ rs.isEmpty=true/\ cW r' =true then lO C ev l op op' r r' ρ else .stuck
noncomputable def cj(sc:Scope)(x:Str):Bool:=sc.names.lookup x==some .globalImplicit
noncomputable def bR(sc:Scope)(x:Str):Bool:=sc.names.lookup x==some .local
noncomputable def fx{α β:Type}(f:α->Res β):List α->Res (List β)
 |[]=> .ok []
 |a::r=>(f a).bind λb=>(fx f r).bind λbs=> .ok (b::bs)
noncomputable def iC{α:Type}(f:α->Res Bool):List α->Res (List α)
 |[]=> .ok []
 |a::r=>(f a).bind λb=>(iC f r).bind λbs=> .ok (if b then a::bs else bs)
noncomputable def ca{α:Type}:Res α->Res α
 | .exc _=> .stuck
 |r=>r
noncomputable def hY(sc:Scope):Bool:=sc.kind== .function&& !sc.isCoroutine&&sc.names.all λy=>y.2 != .cell&&y.2 != .free&&(y.2 != .local||sc.names.lookup y.1==some .local)
noncomputable def iD(E:Ev)(csc:Scope)(x:Str)(ifs:List ai)(v:PV):Res Bool:=match ifs with
 |[]=> .ok true
 |t::r=>if r.isEmpty=true then E.tst csc t [(x,v)]else .stuck
noncomputable def cq(E:Ev)(csc:Scope)(x:Str)(elt:ai)(ifs:List ai)(items:List PV):Res (List PV):=
 if hY csc&&bR csc x&&x !=aa ".0" then
  (ca (iC (iD E csc x ifs) items)).bind λvs=>ca (fx (λv=>E.ev csc elt [(x,v)]) vs)
 else .stuck
noncomputable def eN(csc:Scope)(iter:ai):Bool:=(iter.ctorIdx !=7&&iter.ctorIdx !=24)&&(csc.names.lookup (aa ".0")==some .local)
noncomputable def bv(es:List ai):Bool:=es.all λe=>e.ctorIdx !=22
noncomputable def f0(f:Str):Option ae:=
 if f=aa "len" then some (.builtin "len")
 else if f=aa "int" then some (.type "int")
 else if f=aa "str" then some (.type "str")
 else if f=aa "repr" then some (.builtin "repr")
 else if f=aa "tuple" then some (.type "tuple")
 else if f=aa "list" then some (.type "list")
 else none
noncomputable def jF:List Str:=["_parse_digits", "_parse_arrlist", "_parse_sub", "_parse_tuple_type", "_parse_type", "parse", "TupleType", "BasicType", "_law_names", "_law_subs", "_law_marks", "_law_take", "_law_tree", "_law_number", "_law_parts", "_law_name", "_law_read", "_law_varies", "_law_valid", "_law_told", "_law_agrees"].map aa
noncomputable def hZ:List Str:=["to_type_str", "validate", "invalidate"].map aa
noncomputable def i7(C:Calls)(f:Str)(vs:List PV):Res PV:=match f0 f with
 |some _=>aE (da f vs)
 |none=>C.fn f vs
noncomputable def i8:List Str:=["endswith", "startswith", "split", "index", "join"].map aa
noncomputable def pi(f:Str):Bool:=(f0 f).isSome||jF.contains f
noncomputable def fy(e:ai):Bool:=e.ctorIdx !=16
noncomputable def dP:List Str:=[aa "arrlist",aa "components",aa "base",aa "sub"]
noncomputable def f6:Nat:=60000
noncomputable def e6(v:PV):Res PV:=match v with
 | .str s=>if s.length<=f6 then .ok (.str s)else .stuck
 | .int i=>if small i&&decide ((ey i).length<=f6)then .ok (.str (ey i))else .stuck
 | .none=> .stuck
 | .bool _=> .stuck
 | .tuple _=> .stuck
 | .list _=> .stuck
 | .inst _ _=> .stuck
noncomputable def gL(ev:ai->ak->Res PV)(p:ai)(ρ:ak):Res PV:=match p with
 | .FormattedValue e c f _=>if c= -1/\ f.isNone=true then(ev e ρ).bind e6 else .stuck
 | .Constant c _ _=>(match ng c with|some x=>e6 (.str (ao x))|none=> .stuck)
 |_=> .stuck
noncomputable def EG(elt:ai)(gsc:Scope)(g:oF):Option (ai×Str×ai×Scope):=(fW g.target).bind λx=>if g.ifs.isEmpty=true/\ g.is_async=0 then some (elt,x,g.iter,gsc)else none
noncomputable def EH(e:ai):Option (ai×Str×ai×Scope):=(xa e).bind λq=>(ft q.2.1).bind (EG q.1 q.2.2)
noncomputable def kH(args:List ai):Option (ai×Str×ai×Scope):=(ft args).bind EH
noncomputable def pj(args:List ai):Option (ai×Str):=(two args).bind λq=>(fW q.2).map λn=>(q.1,n)
noncomputable def EI(c:jt):Res PV:=match c with
 | .none=> .ok .none
 | .bool b=> .ok (.bool b)
 | .int i=> .ok (.int i)
 | .str x=> .ok (.str (ao x))
 |_=> .stuck
noncomputable def sW(C:Calls)(sc:Scope)(x:Str)(ρ:ak):Res PV:=if x=aa "__debug__" then .stuck else match ρ.lookup x with
  |some v=> .ok v
  |none=>if cj sc x then aE (C.glob x)else .stuck
noncomputable def sX(x:ai):Res PV:=match(m9 x).bind sH with
 |some i=> .ok (.int (-i))
 |none=> .stuck
noncomputable def EJ(E:Ev)(sc:Scope)(op:UnaryOp)(x:ai)(ρ:ak):Res PV:=match op with
 | .Not=>(E.ev sc x ρ).bind λv=>(aE (ee v)).bind λt=> .ok (.bool !t)
 | .USub=>sX x
 |_=> .stuck
noncomputable def xg(E:Ev)(sc:Scope)(ρ:ak)(e:Option ai):Res PV:=match e with
 |some e=>E.ev sc e ρ
 |none=> .ok .none
noncomputable def sY(E:Ev)(sc:Scope)(v i:ai)(ρ:ak):Res PV:=match sG i with
 |some q=>if q.2.2.isNone=true then(E.ev sc v ρ).bind λa=>(xg E sc ρ q.1).bind λl=>(xg E sc ρ q.2.1).bind λu=>aE (gJ a l u)else .stuck
 |none=>(E.ev sc v ρ).bind λa=>(E.ev sc i ρ).bind λk=>aE (fu a k)
noncomputable def kJ(C:Calls)(E:Ev)(sc:Scope)(f:Str)(args:List ai)(ρ:ak):Res PV:=
 if bv args&&pi f then(bL (E.ev sc) args ρ).bind λvs=>i7 C f vs else .stuck
noncomputable def nq(C:Calls)(E:Ev)(sc:Scope)(f:Str)(args:List ai)(ρ:ak):Res PV:=match pj args with
 |some q=>if f=aa "isinstance" then
   (if cj sc q.2&&(ρ.lookup q.2).isNone&&bv [q.1]then(E.ev sc q.1 ρ).bind λv=>(aE (dO v q.2)).bind λb=> .ok (.bool b)else .stuck)
   else kJ C E sc f args ρ
 |none=>kJ C E sc f args ρ
noncomputable def jG(C:Calls)(gen:Bool)(E E':Ev)(sc:Scope)(f:Str)(args:List ai)(ρ:ak):Res PV:=
 if !cj sc f||(ρ.lookup f).isSome||f=aa "__debug__" then .stuck
 else match kH args with
  |some q=>
   if f=aa "any" &&gen&&eN q.2.2.2 q.2.2.1 then
    (ca (E.ev sc q.2.2.1 ρ)).bind λv=>(aE (bQ v)).bind λitems=>(cq E' q.2.2.2 q.2.1 q.1 [] items).bind λvs=>
     (aE (i4 vs)).bind λbs=> .ok (.bool (bs.any id))
   else .stuck
  |none=>nq C E sc f args ρ
noncomputable def lP(gen:Bool)(E E':Ev)(sc:Scope)(m:Str)(s:List Nat)(args:List ai)(ρ:ak):Res PV:=match kH args with
 |some q=>
  if m=aa "join" &&gen&&eN q.2.2.2 q.2.2.1 then
   (ca (E.ev sc q.2.2.1 ρ)).bind λv=>(aE (bQ v)).bind λitems=>(cq E' q.2.2.2 q.2.1 q.1 [] items).bind λvs=>
    aE (cn m s [.list vs])
  else .stuck
 |none=>if i8.contains m then(bL (E.ev sc) args ρ).bind λvs=>aE (cn m s vs)else .stuck
noncomputable def jH(C:Calls)(gen:Bool)(E E':Ev)(sc:Scope)(o:ai)(m:Str)(apos:ax)(args:List ai)(pos:ax)(ρ:ak):Res PV:=
 if !(fy o&&apos.endLine==pos.line&&bv args&&decide (args.length<29))then .stuck else(E.ev sc o ρ).bind λov=>match ov with
   | .str s=>lP gen E E' sc m s args ρ
   | .inst c fs=>if(fs.lookup m).isNone&&hZ.contains m then(bL (E.ev sc) args ρ).bind λvs=>C.meth c m (.inst c fs::vs)else .stuck
   |_=> .stuck
noncomputable def EK(C:Calls)(gen:Bool)(E E':Ev)(sc:Scope)(f:ai)(args:List ai)(ks:List Keyword)(pos:ax)(ρ:ak):Res PV:=match ks with
 |[]=>(match hO f with
  |some q=>jG C gen E E' sc q.1 args ρ
  |none=>match pe f with
   |some q=>jH C gen E E' sc q.1 q.2.1 q.2.2 args pos ρ
   |none=> .stuck)
 |_=> .stuck
noncomputable def sZ(C:Calls)(E:Ev)(sc:Scope)(o:ai)(a:Str)(ρ:ak):Res PV:=if !fy o then .stuck else(E.ev sc o ρ).bind λov=>match ov with
   | .inst c fs=>if dP.contains a then aE (fs.lookup a)else C.prop c a (.inst c fs)
   |_=> .stuck
noncomputable def s0(E E':Ev)(sc:Scope)(elt:ai)(csc:Scope)(g:oF)(x:Str)(ρ:ak):Res PV:=
 if g.is_async=0 then(if !cW g.iter then .stuck else
    (ca (E.ev sc g.iter ρ)).bind λv=>(aE (bQ v)).bind λitems=>(cq E' csc x elt g.ifs items).bind λvs=> .ok (.list vs))else .stuck
noncomputable def nr(E E':Ev)(sc:Scope)(elt:ai)(gs:List oF)(csc:Scope)(ρ:ak):Res PV:=match ft gs with
 |none=> .stuck
 |some g=>match fW g.target with
  |none=> .stuck
  |some x=>s0 E E' sc elt csc g x ρ
noncomputable def xh(C:Calls)(gen:Bool)(E E':Ev)(sc:Scope)(e:ai)(ρ:ak):Res PV:=match e with
 | .Constant c _ _=>EI c
 | .Name x _=>sW C sc x ρ
 | .Tuple es _ _=>if bv es&&decide (es.length<=64)then(bL (E.ev sc) es ρ).bind λvs=> .ok (.tuple vs)else .stuck
 | .List es _=>if bv es&&decide (es.length<=64)then(bL (E.ev sc) es ρ).bind λvs=> .ok (.list vs)else .stuck
 | .BinOp l op r _=>(E.ev sc l ρ).bind λa=>(E.ev sc r ρ).bind λb=>aE (bJ op a b)
 | .UnaryOp op x _=>EJ E sc op x ρ
 | .Compare l ops rs _=>(fZ C (E.ev sc) l ops rs ρ).bind λt=> .ok (.bool t)
 | .BoolOp op vs _=>fw (E.ev sc) op vs ρ
 | .IfExp t b o _=>(E.tst sc t ρ).bind λc=>if c then E.ev sc b ρ else E.ev sc o ρ
 | .Subscript v i _=>sY E sc v i ρ
 | .Call f args ks pos=>EK C gen E E' sc f args ks pos ρ
 | .Attribute o a _=>sZ C E sc o a ρ
 | .ListComp elt gs csc _=>nr E E' sc elt gs csc ρ
 | .JoinedStr parts _=>if decide (2<=parts.length)&&decide (parts.length<=16)then(bL (gL (E.ev sc)) parts ρ).bind λvs=>match cV vs with
    |some ws=> .ok (.str ws.flatten)
    |none=> .stuck
   else .stuck
 |_=> .stuck
noncomputable def EL(E:Ev)(sc:Scope)(op:UnaryOp)(x e:ai)(ρ:ak):Res Bool:=match op with
 | .Not=>(E.tst sc x ρ).bind λt=> .ok !t
 |_=>(E.ev sc e ρ).bind λv=>aE (ee v)
noncomputable def xi(C:Calls)(E:Ev)(sc:Scope)(e:ai)(ρ:ak):Res Bool:=match e with
 | .UnaryOp op x _=>EL E sc op x e ρ
 | .BoolOp op vs _=>i6 (E.tst sc) op vs ρ
 | .IfExp t b o _=>(E.tst sc t ρ).bind λc=>if c then E.tst sc b ρ else E.tst sc o ρ
 | .Compare l ops rs _=>fZ C (E.ev sc) l ops rs ρ
 |e=>(E.ev sc e ρ).bind λv=>aE (ee v)
noncomputable def pE(C:Calls)(gen:Bool):Nat->Ev
 |0=>⟨λø ø ø=> .stuck,λø ø ø=> .stuck⟩
 |n+1=>⟨λsc e ρ=>xh C gen (pE C gen n) (pE C false n) sc e ρ,λsc e ρ=>xi C (pE C gen n) sc e ρ⟩
inductive aB where
 |next (ρ:ak)
 |brk (ρ:ak)
 |ret (v:PV)
 |exc (c:XC) (ρ:ak)
 |rais (c:XC) (ρ:ak)
 |held (c:XC)
 |stuck
noncomputable def aW{α:Type}(r:Res α)(ρ:ak)(f:α->aB):aB:=match r with
 | .ok a=>f a
 | .exc c=> .exc c ρ
 | .stuck=> .stuck
theorem Qb{α:Type}(a:α)(ρ:ak)(f:α->aB):aW (.ok a) ρ f=f a:=rfl
noncomputable def aw(ex:aC->ak->aB):List aC->ak->aB
 |[],ρ=> .next ρ
 |s::r,ρ=>match ex s ρ with
  | .next ρ' =>aw ex r ρ'
  |o=>o
noncomputable def dC(tst:ak->Res Bool)(body:ak->aB):Nat->ak->aB
 |0,_=> .stuck
 |n+1,ρ=>match tst ρ with
  | .ok true=>(match body ρ with
   | .next ρ' =>dC tst body n ρ'
   | .brk ρ' => .next ρ'
   | .ret v=> .ret v
   |_=> .stuck)
  | .ok false=> .next ρ
  |_=> .stuck
noncomputable def db(body:ak->aB)(x:Str):List PV->ak->aB
 |[],ρ=> .next ρ
 |v::r,ρ=>match body (aQ x v ρ)with
  | .next ρ' =>db body x r ρ'
  | .ret v=> .ret v
  | .exc c _=> .held c
  |_=> .stuck
noncomputable def EM:List ai->Option (List Str)
 |[]=>some []
 | .Name x _::r=>(EM r).map (x:: ·)
 |_=>none
noncomputable def EN:List Str->List PV->ak->ak
 |x::xs,v::vs,ρ=>EN xs vs (aQ x v ρ)
 |_,_,ρ=>ρ
noncomputable def jI(f:Str):Option XC:=
 if f=aa "ParseError" then some .parse
 else if f=aa "ValueError" then some .value
 else if f=aa "ABITypeError" then some .abi
 else none
noncomputable def jJ(t:Str)(c:XC):Option Bool:=
 if t=aa "ParseError" then some (c== .parse)
 else if t=aa "ValueError" then some (c== .value||c== .abi)
 else if t=aa "ABITypeError" then some (c== .abi)
 else none
noncomputable def s3(e:ai):Option Str:=(w9 e).bind λq=>(fW q.1).bind λx=>(ft q.2.1).bind λop=>(ft q.2.2).bind λt=>(kB t).bind λes=>if op= .Eq/\ es.isEmpty=true then some x else none
noncomputable def s4(e:ai)(ρ:ak):aB:=match strE e with
 |some x=> .ret (.str (ao x))
 |none=>match s3 e with
  |none=> .stuck
  |some x=>if x=aa "__debug__" then .stuck else match ρ.lookup x with
   |none=> .stuck
   |some v=>match kG .Eq v (.tuple [])with
    |none=> .stuck
    |some b=> .ret (.bool b)
noncomputable def pn(ts:List ai)(v:ai):Option (Str×Bool):=((ft ts).bind fW).bind λx=>((m9 v).bind xc).map λb=>(x,b)
noncomputable def EO(sc:Scope)(ts:List ai)(v:ai)(ρ:ak):aB:=match pn ts v with
 |some q=>if bR sc q.1=true then .next (aQ q.1 (.bool q.2) ρ)else .stuck
 |none=> .stuck
noncomputable def xj(sc:Scope)(st:aC)(ρ:ak):aB:=match st with
 | .Return e _=>(match e with|some e=>s4 e ρ|none=> .stuck)
 | .Assign ts v _=>EO sc ts v ρ
 |_=> .stuck
noncomputable def po(sc:Scope)(sts:List aC)(ρ:ak):aB:=match ft sts with
 |some st=>xj sc st ρ
 |none=> .stuck
noncomputable def nt(ty:Option ai)(nm:Option Str):Option Str:=match ty with
 |none=>none
 |some e=>match nm with
  |none=>fW e
  |some _=>none
noncomputable def lQ(sc:Scope)(c:XC)(ρ:ak)(t:Str)(body:List aC)(k:aB):aB:=match body with
 |[]=> .stuck
 |b::body=>if cj sc t&&(ρ.lookup t).isNone then(match jJ t c with
  |none=> .stuck
  |some y=>cond y (po sc (b::body) ρ) k)else .stuck
noncomputable def EP(sc:Scope)(c:XC)(ρ:ak)(h:ExceptHandler)(k:aB):aB:=match h with
 | .ExceptHandler ty nm body _=>match nt ty nm with
  |none=> .stuck
  |some t=>lQ sc c ρ t body k
noncomputable def f7(sc:Scope)(c:XC)(ρ:ak)(l:List ExceptHandler):aB:=List.rec .stuck (λh ø k=>EP sc c ρ h k) l
noncomputable def jK:Nat:=100
noncomputable def s5(a b:ai):Bool:=(a.ctorIdx==20&&b.ctorIdx==20)||(a.ctorIdx==21&&b.ctorIdx==21)
noncomputable def s6(es:List ai):Bool:=match two es with
 |some q=>s5 q.1 q.2&& !([q.1,q.2].all (foldedForSure 8))&& !([q.1,q.2].all (constantsAlone 8))
 |none=>false
noncomputable def kK(e:ai):Bool:=e.ctorIdx !=8&&e.ctorIdx !=9&&e.ctorIdx !=10
noncomputable def pp(e:ai):Bool:=match kB e with
 |some es=>s6 es
 |none=>kK e
noncomputable def s7(v:PV)(ρ:ak):aB:=if fX v=true then .next ρ else .stuck
noncomputable def s8(E:Ev)(sc:Scope)(v:ai)(ρ:ak):aB:=match strE v with
 |some _=> .next ρ
 |none=>match pd v with
  |some _=>aW (E.ev sc v ρ) ρ λv=>s7 v ρ
  |none=> .stuck
noncomputable def s9(E:Ev)(sc:Scope)(x:Str)(px:ax)(v:ai)(ρ:ak):aB:=match sF v with
 |some q=>if bR sc x&&px.line==q.2.2.2.line&&(q.2.2.1.names.lookup x).isNone then aW (E.ev sc v ρ) ρ λa=> .next (aQ x a ρ)else .stuck
 |none=>if bR sc x&&kK v then aW (E.ev sc v ρ) ρ λa=> .next (aQ x a ρ)else .stuck
noncomputable def lR(x y:Str)(ρ:ak)(v:PV):aB:=match(kF v).bind two with
 |some q=> .next (aQ y q.2 (aQ x q.1 ρ))
 |none=> .stuck
noncomputable def pr(es:List ai):Option ((Str×ax)×(Str×ax)):=(two es).bind λq=>(hO q.1).bind λp=>(hO q.2).map λr=>(p,r)
theorem EQ{es:List ai}{n:(Str×ax)×(Str×ax)}(h:pr es=some n):es=[.Name n.1.1 n.1.2, .Name n.2.1 n.2.2]:=by
 refine bl h λq hq h=> ?_
 refine bl h λp hp h=> ?_
 refine eZ h λr hr h=> ?_
 subst h
 rw[pc hq,lL hp,lL hr]
noncomputable def xk(E:Ev)(sc:Scope)(n:(Str×ax)×(Str×ax))(v:ai)(ρ:ak):aB:=
 if bR sc n.1.1&&bR sc n.2.1&&n.1.1 !=n.2.1&&n.1.2.line==n.2.2.line&&pp v then aW (E.ev sc v ρ) ρ (lR n.1.1 n.2.1 ρ)else .stuck
noncomputable def ta(E:Ev)(sc:Scope)(t v:ai)(ρ:ak):aB:=match hO t with
 |some q=>s9 E sc q.1 q.2 v ρ
 |none=>match(kB t).bind pr with
  |some n=>xk E sc n v ρ
  |none=> .stuck
noncomputable def tc(E:Ev)(sc:Scope)(ts:List ai)(v:ai)(ρ:ak):aB:=match ft ts with
 |some t=>ta E sc t v ρ
 |none=> .stuck
noncomputable def te(E:Ev)(sc:Scope)(t:ai)(op:mH)(v:ai)(ρ:ak):aB:=match hO t with
 |some q=>(match(ρ.lookup q.1).bind gq with
  |some i=>if op= .Add \/op= .Sub then aW (E.ev sc v ρ) ρ λb=>aW (aE (bJ op (.int i) b)) ρ λr=> .next (aQ q.1 r ρ)else .stuck
  |none=> .stuck)
 |none=> .stuck
noncomputable def th(E:Ev)(ex:Scope->aC->ak->aB)(sc:Scope)(t it:ai)(b:List aC)(ρ:ak):aB:=match fW t with
 |some x=>if bR sc x&&cW it then aW (ca (E.ev sc it ρ)) ρ λv=>aW (aE (bQ v)) ρ λitems=>db (aw (ex sc) b) x items ρ else .stuck
 |none=> .stuck
noncomputable def ti(v:ai):Option (Str×ai):=(pd v).bind λq=>(fW q.1).bind λf=>(ft q.2.1).bind λe=>if q.2.2.isEmpty=true then some (f,e)else none
theorem ER{v:ai}{q:Str×ai}(h:ti v=some q):∃p p',v= .Call (.Name q.1 p) [q.2] [] p':=by
 refine bl h λc hc h2=> ?_
 refine bl h2 λf hf h3=> ?_
 refine bl h3 λe he h4=> ?_
 refine xE (w' hc) λp e0=> ?_
 by_cases k:c.2.2.isEmpty=true
 ·rw[if_pos k]at h4
  have h5:=aq h4
  subst h5
  refine xE (iY hf) λp' e1=> ?_
  exact⟨p',p,by rw[e0,e1,hJ he,gY.mp k]⟩
 ·exact am ((if_neg k).symm.trans h4)
noncomputable def tu(f:Str)(v:PV)(ρ:ak):aB:=match go v with
 |some _=>(match jI f with
  |some c=> .rais c ρ
  |none=> .stuck)
 |none=> .stuck
noncomputable def tw(E:Ev)(sc:Scope)(v:ai)(ρ:ak):aB:=match ti v with
 |some q=>if cj sc q.1&&bv [q.2]then aW (ca (E.ev sc q.2 ρ)) ρ λv=>tu q.1 v ρ else .stuck
 |none=> .stuck
noncomputable def ES(ex:Scope->aC->ak->aB)(sc:Scope)(b:List aC)(hs:List ExceptHandler)(ρ:ak):aB:=match hs with
 |[]=> .stuck
 |h::hs=>match aw (ex sc) b ρ with
  | .next ρ' => .next ρ'
  | .ret v=> .ret v
  | .exc c ρ' =>f7 sc c ρ' (h::hs)
  |_=> .stuck
noncomputable def lS(E:Ev)(ex:Scope->aC->ak->aB)(sc:Scope)(st:aC)(ρ:ak):aB:=match st with
 | .Expr v _=>s8 E sc v ρ
 | .Assign ts v _=>tc E sc ts v ρ
 | .AugAssign t op v _=>te E sc t op v ρ
 | .If t b o _=>aW (E.tst sc t ρ) ρ λc=>if c then aw (ex sc) b ρ else aw (ex sc) o ρ
 | .While t b o _=>(match o with|[]=>dC (E.tst sc t) (aw (ex sc) b) jK ρ|_=> .stuck)
 | .For t it b o _=>(match o with|[]=>th E ex sc t it b ρ|_=> .stuck)
 | .Return e _=>(match e with|some e=>aW (E.ev sc e ρ) ρ λv=> .ret v|none=> .stuck)
 | .Break _=> .brk ρ
 | .Pass _=> .next ρ
 | .Raise v c _=>(match v with|some v=>(match c with|none=>tw E sc v ρ|_=> .stuck)|none=> .stuck)
 | .Try b hs o f _=>(match o with|[]=>(match f with|[]=>ES ex sc b hs ρ|_=> .stuck)|_=> .stuck)
 |_=> .stuck
noncomputable def pX(C:Calls)(gen:Bool):Nat->Scope->aC->ak->aB
 |0=>λø ø ø=> .stuck
 |n+1=>lS (pE C gen 24) (pX C gen n)
noncomputable def ET(C:Calls)(gen:Bool)(sc:Scope)(body:List aC)(ρ:ak):Res PV:=match aw (pX C gen 12 sc) body ρ with
 | .ret v=> .ok v
 | .next _=> .ok .none
 | .exc c _=> .exc c
 | .rais c _=> .exc c
 | .held c=> .exc c
 | .brk _=> .stuck
 | .stuck=> .stuck
noncomputable def ag(n:Nat):aC:=(iu.main.body[n]?).getD default
noncomputable def an(s:aC)(n:Nat):aC:=match s with
 | .ClassDef _ _ _ b _ _ _ _ _ _ _=>(b[n]?).getD default
 |_=>default
noncomputable def aT:aC->List aC
 | .FunctionDef _ _ b _ _ _ _ _ _ _=>b
 |_=>[]
noncomputable def ck:aC->Scope
 | .FunctionDef _ _ _ _ _ _ s _ _ _=>s
 |_=>default
noncomputable def au:aC->List Str
 | .FunctionDef _ a _ _ _ _ _ _ _ _=>a.args.map (·.arg)
 |_=>[]
noncomputable def xm:aC->Str
 | .FunctionDef n _ _ _ _ _ _ _ _ _=>n
 | .ClassDef n _ _ _ _ _ _ _ _ _ _=>n
 |_=>Str.empty
noncomputable def Qc(C:Calls)(gen:Bool)(s:aC)(args:List PV):Res PV:=ET C gen (ck s) (aT s) ((au s).zip args)
end
section
noncomputable def hS(x:String)(n:Nat):ae:= .str (aa x) n
noncomputable def hG:ae:=hS "eth_abi.grammar" 227
noncomputable def hL:ae:=hS "law_iv0009_01" 511
noncomputable def EU:aC->Arguments
 | .FunctionDef _ a _ _ _ _ _ _ _ _=>a
 |_=>default
noncomputable def hF(a:Addr)(s:aC)(q:Str)(m df:ae)(cl:List (Str×Addr))(ct:ae):Addr×Obj:=(a,{cls:= .type "function",data:= .func {name:=xm s,qualname:=q,params:=EU s,body:= .stmts (aT s),scope:=ck s,globals:=3,closure:=cl,defaults:=df,kwdefaults:= .none,pyModule:=m,code:= .ref (a-1),closureTuple:=ct}})
noncomputable def hC(a:Addr)(s:aC)(q:String)(b n:Nat)(l:Int)(w:Bool):Addr×Obj:=(a,{cls:= .type "code",data:= .fields #[.str (xm s) b,hS q (b+1),hS "/claim/cut.py" (b+2), .int l 0, .int (au s).length 0, .int 0 0, .int 0 0, .int 3 0, .ref (a-bif w then 3 else 5), .bool true, .int 181 0, .ref (a-bif w then 2 else 4), .none,bif w then .none else .ref (a-3),bif w then .none else .ref (a-2), .ref (a-1), .int n 0, .int l 0,hS "/claim/cut.py" (n+1)]})
noncomputable def hE(P:al)(x:String)(n:Nat)(v:ae):eU:={hash:=C3 P (aa x),key:=hS x n,val:=v}
noncomputable def HK(P:al):Frag:=[(2,{cls:= .none,data:= .dict #[hE P "type.__subclasses__.Exception.0" 205 (.int 24 0),hE P "type.__subclasses__.Exception.n" 206 (.int 1 0)] 2}),
 (3,{cls:= .type "dict",data:= .dict #[hE P "__name__" 165 (hS "law_iv0009_01" 511),hE P "__doc__" 166 (.none),hE P "__package__" 167 (.none),hE P "__loader__" 168 (.builtin "__main__.__loader__#opaque"),hE P "__spec__" 169 (.none),hE P "__annotations__" 170 (.ref 6),hE P "__builtins__" 171 (.ref 4),hE P "__file__" 173 (hS "/claim/cut.py" 172),hE P "__cached__" 174 (.none),hE P "ParseError" 208 (.ref 24),hE P "ABITypeError" 226 (.ref 37),hE P "_LETTERS" 230 (hS "ABCDEFGHIJKLMNOPQRSTUVWXYZabcdefghijklmnopqrstuvwxyz" 229),hE P "_DIGITS" 232 (hS "0123456789" 231),hE P "_parse_digits" 241 (.ref 47),hE P "_parse_arrlist" 251 (.ref 54),hE P "_parse_sub" 261 (.ref 61),hE P "_parse_tuple_type" 272 (.ref 68),hE P "_parse_type" 284 (.ref 75),hE P "parse" 292 (.ref 82),hE P "ABIType" 384 (.ref 160),hE P "TupleType" 444 (.ref 214),hE P "BasicType" 510 (.ref 266),hE P "_law_names" 518 (.ref 275),hE P "_law_subs" 524 (.ref 282),hE P "_law_marks" 530 (.ref 289),hE P "_law_take" 537 (.ref 296),hE P "_law_tree" 543 (.ref 301),hE P "_law_number" 549 (.ref 306),hE P "_law_parts" 559 (.ref 313),hE P "_law_name" 565 (.ref 318),hE P "_law_read" 571 (.ref 323),hE P "_law_varies" 577 (.ref 328),hE P "_law_valid" 583 (.ref 333),hE P "_law_told" 590 (.ref 340),hE P "_law_agrees" 596 (.ref 345),hE P "law" 610 (.ref 352)] 36}),
 (23,{cls:= .type "dict",data:= .dict #[hE P "__module__" 196 (hS "eth_abi.exceptions" 187),hE P "__firstlineno__" 200 (.int 2 199),hE P "__static_attributes__" 201 (.ref 22),hE P "__weakref__" 203 (.ref 25),hE P "__doc__" 204 (.none)] 3}),
 (24,{cls:= .type "type",data:= .cls {name:= "ParseError",bases:=[.type "Exception"],mro:=[.ref 24, .type "Exception", .type "BaseException", .type "object"],ns:=23,qualname:= "ParseError" },slots:= #[some (.ref 15),none,some (hS "ParseError" 189),some (hS "ParseError" 197),some (.builtin "Exception.__new__"),some (.bool true)]}),
 (36,{cls:= .type "dict",data:= .dict #[hE P "__module__" 216 (hS "eth_abi.exceptions" 187),hE P "__firstlineno__" 220 (.int 4 219),hE P "__static_attributes__" 221 (.ref 35),hE P "__weakref__" 223 (.ref 38),hE P "__doc__" 224 (.none)] 3}),
 (37,{cls:= .type "type",data:= .cls {name:= "ABITypeError",bases:=[.type "ValueError"],mro:=[.ref 37, .type "ValueError", .type "Exception", .type "BaseException", .type "object"],ns:=36,qualname:= "ABITypeError" },slots:= #[some (.ref 28),none,some (hS "ABITypeError" 209),some (hS "ABITypeError" 217),some (.builtin "ValueError.__new__"),some (.bool true)]}),
 hC 46 (ag 6) "_parse_digits" 233 239 9 false,
 hF 47 (ag 6) "_parse_digits" hG .none [] .none,
 hC 53 (ag 7) "_parse_arrlist" 242 249 16 false,
 hF 54 (ag 7) "_parse_arrlist" hG .none [] .none,
 hC 60 (ag 8) "_parse_sub" 252 259 29 false,
 hF 61 (ag 8) "_parse_sub" hG .none [] .none,
 hC 67 (ag 9) "_parse_tuple_type" 262 270 38 false,
 hF 68 (ag 9) "_parse_tuple_type" hG .none [] .none,
 hC 74 (ag 10) "_parse_type" 273 282 50 false,
 hF 75 (ag 10) "_parse_type" hG .none [] .none,
 hC 81 (ag 11) "parse" 285 290 62 false,
 hF 82 (ag 11) "parse" hG .none [] .none,
 (90,{cls:= .type "tuple",data:= .seq #[.none]}),
 hC 96 (an (ag 12) 0) "ABIType.__init__" 305 310 73 false,
 hF 97 (an (ag 12) 0) "ABIType.__init__" hG (.ref 90) [] .none,
 hC 103 (an (ag 12) 1) "ABIType.__eq__" 313 318 77 false,
 hF 104 (an (ag 12) 1) "ABIType.__eq__" hG .none [] .none,
 hC 110 (an (ag 12) 2) "ABIType.to_type_str" 321 325 80 false,
 hF 111 (an (ag 12) 2) "ABIType.to_type_str" hG .none [] .none,
 hC 117 (an (ag 12) 3) "ABIType.item_type" 328 332 83 false,
 hF 118 (an (ag 12) 3) "ABIType.item_type" hG .none [] .none,
 (119,{cls:= .type "property",data:= .fields #[.ref 118, .none, .none, .none,hS "item_type" 335, .bool false]}),
 hC 125 (an (ag 12) 4) "ABIType.validate" 336 340 87 false,
 hF 126 (an (ag 12) 4) "ABIType.validate" hG .none [] .none,
 hC 132 (an (ag 12) 5) "ABIType.invalidate" 343 348 90 false,
 hF 133 (an (ag 12) 5) "ABIType.invalidate" hG .none [] .none,
 hC 139 (an (ag 12) 6) "ABIType.is_array" 351 355 93 false,
 hF 140 (an (ag 12) 6) "ABIType.is_array" hG .none [] .none,
 (141,{cls:= .type "property",data:= .fields #[.ref 140, .none, .none, .none,hS "is_array" 358, .bool false]}),
 hC 147 (an (ag 12) 7) "ABIType.is_dynamic" 359 363 97 false,
 hF 148 (an (ag 12) 7) "ABIType.is_dynamic" hG .none [] .none,
 (149,{cls:= .type "property",data:= .fields #[.ref 148, .none, .none, .none,hS "is_dynamic" 366, .bool false]}),
 hC 155 (an (ag 12) 8) "ABIType._has_dynamic_arrlist" 367 371 101 false,
 hF 156 (an (ag 12) 8) "ABIType._has_dynamic_arrlist" hG .none [] .none,
 (157,{cls:= .type "property",data:= .fields #[.ref 156, .none, .none, .none,hS "_has_dynamic_arrlist" 374, .bool false]}),
 (159,{cls:= .type "dict",data:= .dict #[hE P "__module__" 300 (hS "eth_abi.grammar" 227),hE P "__firstlineno__" 304 (.int 71 303),hE P "__init__" 312 (.ref 97),hE P "__eq__" 320 (.ref 104),hE P "to_type_str" 327 (.ref 111),hE P "item_type" 335 (.ref 119),hE P "validate" 342 (.ref 126),hE P "invalidate" 350 (.ref 133),hE P "is_array" 358 (.ref 141),hE P "is_dynamic" 366 (.ref 149),hE P "_has_dynamic_arrlist" 374 (.ref 157),hE P "__static_attributes__" 376 (.ref 158),hE P "__dict__" 378 (.ref 161),hE P "__weakref__" 380 (.ref 162),hE P "__doc__" 381 (.none),hE P "__hash__" 382 (.none)] 5}),
 (160,{cls:= .type "type",data:= .cls {name:= "ABIType",bases:=[.type "object"],mro:=[.ref 160, .type "object"],ns:=159,qualname:= "ABIType",subclasses:=[.ref 214, .ref 266]},slots:= #[none,none,some (hS "ABIType" 293),some (hS "ABIType" 301),some (.builtin "object.__new__"),some (.bool true)]}),
 (168,{cls:= .type "cell",data:= .cell (some (.ref 214))}),
 (173,{cls:= .type "tuple",data:= .seq #[.none]}),
 hC 180 (an (ag 13) 0) "TupleType.__init__" 397 404 106 false,
 hF 181 (an (ag 13) 0) "TupleType.__init__" hG (.ref 173) [("__class__",168)] (.ref 174),
 hC 187 (an (ag 13) 1) "TupleType.to_type_str" 407 412 111 false,
 hF 188 (an (ag 13) 1) "TupleType.to_type_str" hG .none [] .none,
 hC 194 (an (ag 13) 2) "TupleType.item_type" 415 419 119 false,
 hF 195 (an (ag 13) 2) "TupleType.item_type" hG .none [] .none,
 (196,{cls:= .type "property",data:= .fields #[.ref 195, .none, .none, .none,hS "item_type" 422, .bool false]}),
 hC 202 (an (ag 13) 3) "TupleType.validate" 423 428 125 false,
 hF 203 (an (ag 13) 3) "TupleType.validate" hG .none [] .none,
 hC 209 (an (ag 13) 4) "TupleType.is_dynamic" 431 435 129 false,
 hF 210 (an (ag 13) 4) "TupleType.is_dynamic" hG .none [] .none,
 (211,{cls:= .type "property",data:= .fields #[.ref 210, .none, .none, .none,hS "is_dynamic" 438, .bool false]}),
 (213,{cls:= .type "dict",data:= .dict #[hE P "__module__" 392 (hS "eth_abi.grammar" 227),hE P "__firstlineno__" 396 (.int 104 395),hE P "__init__" 406 (.ref 181),hE P "to_type_str" 414 (.ref 188),hE P "item_type" 422 (.ref 196),hE P "validate" 430 (.ref 203),hE P "is_dynamic" 438 (.ref 211),hE P "__static_attributes__" 440 (.ref 212),hE P "__doc__" 442 (.none)] 3}),
 (214,{cls:= .type "type",data:= .cls {name:= "TupleType",bases:=[.ref 160],mro:=[.ref 214, .ref 160, .type "object"],ns:=213,qualname:= "TupleType" },slots:= #[some (.ref 165),none,some (hS "TupleType" 385),some (hS "TupleType" 393),some (.builtin "object.__new__"),some (.bool true)]}),
 (220,{cls:= .type "cell",data:= .cell (some (.ref 266))}),
 (225,{cls:= .type "tuple",data:= .seq #[.none, .none]}),
 hC 232 (an (ag 14) 0) "BasicType.__init__" 457 465 136 false,
 hF 233 (an (ag 14) 0) "BasicType.__init__" hG (.ref 225) [("__class__",220)] (.ref 226),
 hC 239 (an (ag 14) 1) "BasicType.to_type_str" 468 474 143 false,
 hF 240 (an (ag 14) 1) "BasicType.to_type_str" hG .none [] .none,
 hC 246 (an (ag 14) 2) "BasicType.item_type" 477 481 157 false,
 hF 247 (an (ag 14) 2) "BasicType.item_type" hG .none [] .none,
 (248,{cls:= .type "property",data:= .fields #[.ref 247, .none, .none, .none,hS "item_type" 484, .bool false]}),
 hC 254 (an (ag 14) 3) "BasicType.is_dynamic" 485 489 163 false,
 hF 255 (an (ag 14) 3) "BasicType.is_dynamic" hG .none [] .none,
 (256,{cls:= .type "property",data:= .fields #[.ref 255, .none, .none, .none,hS "is_dynamic" 492, .bool false]}),
 hC 262 (an (ag 14) 4) "BasicType.validate" 493 501 173 false,
 hF 263 (an (ag 14) 4) "BasicType.validate" hG .none [] .none,
 (265,{cls:= .type "dict",data:= .dict #[hE P "__module__" 452 (hS "eth_abi.grammar" 227),hE P "__firstlineno__" 456 (.int 134 455),hE P "__init__" 467 (.ref 233),hE P "to_type_str" 476 (.ref 240),hE P "item_type" 484 (.ref 248),hE P "is_dynamic" 492 (.ref 256),hE P "validate" 503 (.ref 263),hE P "__static_attributes__" 506 (.ref 264),hE P "__doc__" 508 (.none)] 3}),
 (266,{cls:= .type "type",data:= .cls {name:= "BasicType",bases:=[.ref 160],mro:=[.ref 266, .ref 160, .type "object"],ns:=265,qualname:= "BasicType" },slots:= #[some (.ref 217),none,some (hS "BasicType" 445),some (hS "BasicType" 453),some (.builtin "object.__new__"),some (.bool true)]}),
 hC 274 (ag 16) "_law_names" 513 516 207 false,
 hF 275 (ag 16) "_law_names" hL .none [] .none,
 hC 281 (ag 17) "_law_subs" 519 522 209 false,
 hF 282 (ag 17) "_law_subs" hL .none [] .none,
 hC 288 (ag 18) "_law_marks" 525 528 211 false,
 hF 289 (ag 18) "_law_marks" hL .none [] .none,
 hC 295 (ag 19) "_law_take" 531 535 213 false,
 hF 296 (ag 19) "_law_take" hL .none [] .none,
 hC 300 (ag 20) "_law_tree" 538 541 217 true,
 hF 301 (ag 20) "_law_tree" hL .none [] .none,
 hC 305 (ag 21) "_law_number" 544 547 226 true,
 hF 306 (ag 21) "_law_number" hL .none [] .none,
 hC 312 (ag 22) "_law_parts" 550 557 233 false,
 hF 313 (ag 22) "_law_parts" hL .none [] .none,
 hC 317 (ag 23) "_law_name" 560 563 246 true,
 hF 318 (ag 23) "_law_name" hL .none [] .none,
 hC 322 (ag 24) "_law_read" 566 569 259 true,
 hF 323 (ag 24) "_law_read" hL .none [] .none,
 hC 327 (ag 25) "_law_varies" 572 575 277 true,
 hF 328 (ag 25) "_law_varies" hL .none [] .none,
 hC 332 (ag 26) "_law_valid" 578 581 283 true,
 hF 333 (ag 26) "_law_valid" hL .none [] .none,
 hC 339 (ag 27) "_law_told" 584 588 296 false,
 hF 340 (ag 27) "_law_told" hL .none [] .none,
 hC 344 (ag 28) "_law_agrees" 591 594 303 true,
 hF 345 (ag 28) "_law_agrees" hL .none [] .none,
 hC 351 (ag 29) "law" 597 608 332 false,
 hF 352 (ag 29) "law" hL .none [] .none]
noncomputable def xn:List Addr:=[2,3,23,24,36,37,46,47,53,54,60,61,67,68,74,75,81,82,90,96,97,103,104,110,111,117,118,119,125,126,132,133,139,140,141,147,148,149,155,156,157,159,160,168,173,180,181,187,188,194,195,196,202,203,209,210,211,213,214,220,225,232,233,239,240,246,247,248,254,255,256,262,263,265,266,274,275,281,282,288,289,295,296,300,301,305,306,312,313,317,318,322,323,327,328,332,333,339,340,344,345,351,352]
end
section
noncomputable def nu(ok:Thread->Bool)(st:oG->Thread->Option (oG×Thread)):Nat->oG->Thread->Option oG
 |0,_,_=>none
 |n+1,s,t=>match through t with
  |true=>some s
  |false=>match ok t with
   |false=>none
   |true=>match st s t with
    |some (s',t')=>nu ok st n s' t'
    |none=>none
theorem xo{tb:String->Option Builtin}{p:ki}{w:fk}{n₀:Nat}{ann:Option ae}:∀(n:Nat) {s s':oG} {t:Thread},nu (stepOk n₀ ann) (stepT (denote tb) p w) n s t=some s'->topRun tb p w n₀ ann n s.abs t=some s'.abs
 |0,_,_,_,h=>by cases h
 |n+1,s,s',t,h=>by
  unfold nu at h
  unfold topRun
  cases he:through t with
  |true=>rw[he]at h;cases h;rfl
  |false=>
   rw[he]at h
   cases hk:stepOk n₀ ann t with
   |false=>rw[hk]at h;cases h
   |true=>
    rw[hk]at h
    cases hs:stepT (denote tb) p w s t with
    |none=>rw[hs]at h;cases h
    |some r=>obtain⟨s₂,t₂⟩:=r;rw[hs]at h;rw[stepT_spec hs];exact xo n h
noncomputable def EV(P:al):BT:= .node (boot_o_0 P) (.node (boot_o_1 P) (.node (boot_o_3 P) (.node (boot_o_7 P) .nil .nil) .nil) (.node (boot_o_5 P) (.node (boot_o_9 P) .nil .nil) .nil)) (.node (boot_o_2 P) (.node (boot_o_4 P) (.node (boot_o_8 P) .nil .nil) .nil) (.node (boot_o_6 P) (.node (boot_o_10 P) .nil .nil) .nil))
noncomputable def tA(P:al)(os:iv):oG:=⟨EV P,11,(gl P).life,oH [],oJ,oK,os⟩
theorem EW(P:al)(os:iv):(tA P os).abs=⟨gl P,oH [],oJ,oK,os⟩:=by kernel_rfl
theorem EX(P:al):(gl P).isNs mainGlobals=true:=by kernel_rfl
theorem EY(P:al):(gl P).objs.size=11:=by kernel_rfl
theorem EZ(P:al):(gl P).nsMap mainGlobals "__annotations__" =some (.ref 6):=by kernel_rfl
theorem E0{p q:ki}{loose:List Str}{Xt:ah->Bool}{α:Type}{Yf:ah->α}{Ya:fk->α}{N:Nat}{g0:Bool}
  (o:∀w:fk,(fencedOpening treeTable p w N).map (λs=>(s.heap,s.gens,s.drawn,s.toks))=some (gl w.params,oH [],oJ,oK))
  (h:∀w:fk,(λos=>(nu (stepOk 11 (some (.ref 6))) (stepT (denote treeTable) p w) N (tA w.params os) (topStub p)).map (λS=>(staticsOk (importedModules p.main.body) (gl w.params) S.abs.heap&&namesBound p S.abs.heap&&gensDone S.abs&&laidKept (gl w.params) S.abs.heap,openSeen q loose (importedModules p.main.body) Xt g0 S.abs,Yf S.abs)))=λø=>some (true,openGood q loose,Ya w)):LeftO p q loose Xt Yf Ya N g0:=λw=>by
 obtain⟨⟨hp,gs,d,k,os⟩,e,e'⟩:=mI.mp (o w)
 obtain⟨rfl,rfl,rfl,rfl⟩:hp=gl w.params/\ gs=oH []/\ d=oJ/\ k=oK:=by simpa using e'
 obtain⟨S,hS,l⟩:=mI.mp (congrFun (h w) os)
 obtain⟨l1,l2,l3⟩:_/\ _/\ _:=by simpa only[Prod.mk.injEq] using l
 have r:=xo N hS
 rw[EW]at r
 have t:topFrom treeTable p w N ⟨gl w.params,oH [],oJ,oK,os⟩=some S.abs:=by
  unfold topFrom
  dsimp only
  rw[EX,EY,EZ,r]
  show(match staticsOk (importedModules p.main.body) (gl w.params) S.abs.heap&&namesBound p S.abs.heap&&gensDone S.abs&&laidKept (gl w.params) S.abs.heap with|true=>_|false=>_)=_
  rw[l1]
 unfold openEnds
 rw[e]
 show(topFrom treeTable p w N _).map _=_
 rw[t]
 exact congrArg some (Prod.ext l2 l3)
theorem E2:∀P,xn=(HK P).map (·.1):=λø=>by kernel_rfl
noncomputable abbrev hH:Hook:=kmHook HK xn E2 [151,183,205,235]
noncomputable def vw:ki:=view iu [1,2,4,5,6,7,8,9,10,11,12,13,14,16,17,18,19,20,21,22,23,24,25,26,27,28,29]
end
section
theorem E3:∀w:fk,(λos=>(nu (stepOk 11 (some (.ref 6))) (stepT (denote treeTable) gm.row.toRowW.prog w) 5602 (tA w.params os) (topStub gm.row.toRowW.prog)).map (λS=>(staticsOk (importedModules gm.row.toRowW.prog.main.body) (gl w.params) S.abs.heap&&namesBound gm.row.toRowW.prog S.abs.heap&&gensDone S.abs&&laidKept (gl w.params) S.abs.heap,openSeen vw ["ABIType", "TupleType", "BasicType"] (importedModules gm.row.toRowW.prog.main.body) (λs=>xlAt vw [] s&&recOk (C4 gm.row.toRowW) s) true S.abs,Hook.obs hH S.abs)))=λø=>some (true,openGood vw ["ABIType", "TupleType", "BasicType"],Hook.val hH w):=by
 rw[Fast.te4187177175401517315,Fast.te5923862056798008813,Fast.te2368527892694137696,Fast.te14364793385576792824,Fast.te10156331382660048174,Fast.te11892475500146522536,Fast.te6613529449190102663]
 intro w
 kernel_rfl
end
section
noncomputable abbrev pq:ki:=gm.row.toRowW.prog
theorem o1:opening pq=plainProg pq.main.scope.names:=by kernel_rfl
theorem o2:∀s,fenceModules? pq s=some s:=λs=>by kernel_rfl
theorem o3:∀w:fk,(fencedOpening treeTable pq w 5602).map (λs=>(s.heap,s.gens,s.drawn,s.toks))=some (gl w.params,oH [],oJ,oK):=boot_open o1 (by decide) o2
theorem E4:LeftO pq vw ["ABIType", "TupleType", "BasicType"] (λs=>xlAt vw [] s&&recOk (C4 gm.row.toRowW) s) (Hook.obs hH) (Hook.val hH) 5602 true:=E0 o3 E3
theorem E5:OpenLaw.wellSaid gm=true:=by
 rw[Fast.te9446332074065402090]
 delta Fast.tw9446332074065402090
 repeat' with_reducible refine ju.mpr ⟨?_,?_⟩
 delta Fast.tw17960256430627541270
 repeat' with_reducible refine ju.mpr ⟨?_,?_⟩
 delta Fast.tw2436336058641802641
 repeat' with_reducible refine ju.mpr ⟨?_,?_⟩
 delta Fast.tw12908688711261696721
 repeat' with_reducible refine ju.mpr ⟨?_,?_⟩
 all_goals as_aux_lemma=>kernel_rfl
end
section
structure Wd where
 w:fk
 base:Heap
 K:Frag
 mg:Str->Option ae
 mb:Str->Option ae
 clsA:aY->Addr
 excA:XC->ae
 tabs:List (Addr×Addr)
noncomputable abbrev Wd.M(W:Wd):Model:=model iu W.w
mutual
inductive Rep(W:Wd)(X:Addr->Prop)(h:Heap):ae->PV->Prop
 |none:Rep W X h .none .none
 |bool (b:Bool):Rep W X h (.bool b) (.bool b)
 |int (i:Int) (t:bE):Rep W X h (.int i t) (.int i)
 |str (x:Str) (t:bE):Rep W X h (.str x t) (.str (ao x))
 |tuple {a:Addr} {o:Obj} {vs:Array ae} {n:Nat} {xs:List PV}:h.get? a=some o->o.cls= .type "tuple" ->o.data= .seq vs n->¬X a->a8 W X h vs.toList xs->Rep W X h (.ref a) (.tuple xs)
 |list {a:Addr} {o:Obj} {vs:Array ae} {n:Nat} {xs:List PV}:h.get? a=some o->o.cls= .type "list" ->o.data= .seq vs n->¬X a->a8 W X h vs.toList xs->Rep W X h (.ref a) (.list xs)
 |inst {x d:Addr} {c:aY} {es:List eU} {n:Nat} {fs:List (Str×PV)}:h.get? x=some (instObj (W.clsA c) d)->h.get? d=some (dictOf es n)->¬X x->¬X d->dm W X h es fs->Rep W X h (.ref x) (.inst c fs)
inductive a8(W:Wd)(X:Addr->Prop)(h:Heap):List ae->List PV->Prop
 |nil:a8 W X h [] []
 |cons {v:ae} {vs:List ae} {p:PV} {ps:List PV}:Rep W X h v p->a8 W X h vs ps->a8 W X h (v::vs) (p::ps)
inductive dm(W:Wd)(X:Addr->Prop)(h:Heap):List eU->List (Str×PV)->Prop
 |nil:dm W X h [] []
 |cons {hs:Int} {y:Str} {t:bE} {v:ae} {es:List eU} {p:PV} {fs:List (Str×PV)}:Rep W X h v p->dm W X h es fs->dm W X h (⟨hs, .str y t,v⟩::es) ((y,p)::fs)
end
theorem Rep.mono{W:Wd}{X X':Addr->Prop}{h h':Heap}(hk:∀b o,¬X b->h.get? b=some o->h'.get? b=some o)(hx:∀b o,h.get? b=some o->¬X b->¬X' b){v:ae}{p:PV}(r:Rep W X h v p):Rep W X' h' v p:=
 Rep.rec (motive_1:=λv p ø=>Rep W X' h' v p) (motive_2:=λvs ps ø=>a8 W X' h' vs ps) (motive_3:=λes fs ø=>dm W X' h' es fs)
  .none .bool .int .str (λe c d n ø r=> .tuple (hk _ _ n e) c d (hx _ _ e n) r) (λe c d n ø r=> .list (hk _ _ n e) c d (hx _ _ e n) r) (λe d n m ø r=> .inst (hk _ _ n e) (hk _ _ m d) (hx _ _ e n) (hx _ _ d m) r)
  .nil (λø ø r rs=> .cons r rs) .nil (λø ø r rs=> .cons r rs) r
section
variable{W:Wd}{X:Addr->Prop}{h:Heap}
theorem a8.ind{M:List ae->List PV->Prop}(n:M [] [])(c:∀{v vs p ps},Rep W X h v p->a8 W X h vs ps->M vs ps->M (v::vs) (p::ps)){vs:List ae}{ps:List PV}(r:a8 W X h vs ps):M vs ps:=
 a8.rec (motive_1:=λø ø ø=>True) (motive_2:=λvs ps ø=>M vs ps) (motive_3:=λø ø ø=>True) trivial (λø=>trivial) (λø ø=>trivial) (λø ø=>trivial) (λø ø ø ø ø ø=>trivial) (λø ø ø ø ø ø=>trivial) (λø ø ø ø ø ø=>trivial)
  n (λa b ø i=>c a b i) trivial (λø ø ø ø=>trivial) r
theorem dm.ind{M:List eU->List (Str×PV)->Prop}(n:M [] [])(c:∀{hs y t v es p fs},Rep W X h v p->dm W X h es fs->M es fs->M (⟨hs, .str y t,v⟩::es) ((y,p)::fs)){es:List eU}{fs:List (Str×PV)}(r:dm W X h es fs):M es fs:=
 dm.rec (motive_1:=λø ø ø=>True) (motive_2:=λø ø ø=>True) (motive_3:=λes fs ø=>M es fs) trivial (λø=>trivial) (λø ø=>trivial) (λø ø=>trivial) (λø ø ø ø ø ø=>trivial) (λø ø ø ø ø ø=>trivial) (λø ø ø ø ø ø=>trivial)
  trivial (λø ø ø ø=>trivial) n (λa b ø i=>c a b i) r
end
theorem a8.mono{W:Wd}{X X':Addr->Prop}{h h':Heap}(hk:∀b o,¬X b->h.get? b=some o->h'.get? b=some o)(hx:∀b o,h.get? b=some o->¬X b->¬X' b){vs:List ae}{ps:List PV}(r:a8 W X h vs ps):a8 W X' h' vs ps:=r.ind .nil λa ø i=> .cons (a.mono hk hx) i
theorem dm.mono{W:Wd}{X X':Addr->Prop}{h h':Heap}(hk:∀b o,¬X b->h.get? b=some o->h'.get? b=some o)(hx:∀b o,h.get? b=some o->¬X b->¬X' b){es:List eU}{fs:List (Str×PV)}(r:dm W X h es fs):dm W X' h' es fs:=r.ind .nil λa ø i=> .cons (a.mono hk hx) i
section
variable{W:Wd}{X:Addr->Prop}{h:Heap}{v:ae}
theorem Rep.noneI(r:Rep W X h v .none):v= .none:=by cases r;rfl
theorem Rep.boolI{b:Bool}(r:Rep W X h v (.bool b)):v= .bool b:=by cases r;rfl
theorem Rep.intI{i:Int}(r:Rep W X h v (.int i)):∃t,v= .int i t:=by cases r;exact⟨_,rfl⟩
theorem Rep.intE{i:Int}(r:Rep W X h v (.int i)){G:Prop}(k:∀t,v= .int i t->G):G:=by cases r;exact k _ rfl
theorem Rep.strE{s:List Nat}(r:Rep W X h v (.str s)){G:Prop}(k:∀x t,s=ao x->v= .str x t->G):G:=by cases r;exact k _ _ rfl rfl
theorem Rep.tupE{xs:List PV}(r:Rep W X h v (.tuple xs)){G:Prop}(k:∀a o vs n,v= .ref a->h.get? a=some o->o.cls= .type "tuple" ->o.data= .seq vs n->¬X a->a8 W X h vs.toList xs->G):G:=by
 cases r with
 |tuple e c d n r=>exact k _ _ _ _ rfl e c d n r
theorem Rep.lisE{xs:List PV}(r:Rep W X h v (.list xs)){G:Prop}(k:∀a o vs n,v= .ref a->h.get? a=some o->o.cls= .type "list" ->o.data= .seq vs n->¬X a->a8 W X h vs.toList xs->G):G:=by
 cases r with
 |list e c d n r=>exact k _ _ _ _ rfl e c d n r
theorem Rep.instE{c:aY}{fs:List (Str×PV)}(r:Rep W X h v (.inst c fs)){G:Prop}(k:∀x d es n,v= .ref x->h.get? x=some (instObj (W.clsA c) d)->h.get? d=some (dictOf es n)->¬X x->¬X d->dm W X h es fs->G):G:=by
 cases r with
 |inst e d n m r=>exact k _ _ _ _ rfl e d n m r
theorem Rep.strI{s:List Nat}(r:Rep W X h v (.str s)):∃x t,s=ao x/\ v= .str x t:=by cases r;exact⟨_,_,rfl,rfl⟩
theorem Rep.tupI{xs:List PV}(r:Rep W X h v (.tuple xs)):∃a o vs n,v= .ref a/\ h.get? a=some o/\ o.cls= .type "tuple" /\ o.data= .seq vs n/\ ¬X a/\ a8 W X h vs.toList xs:=by
 cases r with
 |tuple e c d n r=>exact⟨_,_,_,_,rfl,e,c,d,n,r⟩
theorem Rep.lisI{xs:List PV}(r:Rep W X h v (.list xs)):∃a o vs n,v= .ref a/\ h.get? a=some o/\ o.cls= .type "list" /\ o.data= .seq vs n/\ ¬X a/\ a8 W X h vs.toList xs:=by
 cases r with
 |list e c d n r=>exact⟨_,_,_,_,rfl,e,c,d,n,r⟩
theorem Rep.instI{c:aY}{fs:List (Str×PV)}(r:Rep W X h v (.inst c fs)):∃x d es n,v= .ref x/\ h.get? x=some (instObj (W.clsA c) d)/\ h.get? d=some (dictOf es n)/\ ¬X x/\ ¬X d/\ dm W X h es fs:=by
 cases r with
 |inst e d n m r=>exact⟨_,_,_,_,rfl,e,d,n,m,r⟩
theorem a8.consE{vs:List ae}{p:PV}{ps:List PV}(r:a8 W X h vs (p::ps)){G:Prop}(k:∀v ws,vs=v::ws->Rep W X h v p->a8 W X h ws ps->G):G:=by
 cases r with
 |cons a b=>exact k _ _ rfl a b
theorem a8.consI{vs:List ae}{p:PV}{ps:List PV}(r:a8 W X h vs (p::ps)):∃v ws,vs=v::ws/\ Rep W X h v p/\ a8 W X h ws ps:=by
 cases r with
 |cons a b=>exact⟨_,_,rfl,a,b⟩
theorem a8.nilI{vs:List ae}(r:a8 W X h vs []):vs=[]:=by cases r;rfl
end
theorem a8.length{W:Wd}{X:Addr->Prop}{h:Heap}{vs:List ae}{ps:List PV}(r:a8 W X h vs ps):vs.length=ps.length:=r.ind (M:=λvs ps=>vs.length=ps.length) rfl λø ø i=>congrArg (· +1) i
theorem a8.append{W:Wd}{X:Addr->Prop}{h:Heap}{vs ws:List ae}{ps qs:List PV}(r:a8 W X h vs ps)(k:a8 W X h ws qs):a8 W X h (vs++ws) (ps++qs):=r.ind (M:=λvs ps=>a8 W X h (vs++ws) (ps++qs)) k λa ø i=> .cons a i
theorem a8.get{W:Wd}{X:Addr->Prop}{h:Heap}{vs:List ae}{ps:List PV}(r:a8 W X h vs ps){i:Nat}{p:PV}(e:ps[i]? =some p):∃v,vs[i]? =some v/\ Rep W X h v p:=
 r.ind (M:=λvs ps=>∀i,ps[i]? =some p->∃v,vs[i]? =some v/\ Rep W X h v p) (λø e=>am e) (λa ø ih i e=>by
  cases i with
  |zero=>obtain rfl:=aq e;exact⟨_,rfl,a⟩
  |succ i=>exact ih i e) i e
noncomputable def dc(a b:Array gC):Prop:=a.size<=b.size/\ ∀k,k<a.size->b[k]? =a[k]?
theorem dc.refl(a:Array gC):dc a a:=⟨bP _,λø ø=>rfl⟩
theorem dc.trans{a b c:Array gC}(x:dc a b)(y:dc b c):dc a c:=⟨aj x.1 y.1,λk hk=>(y.2 k (di hk x.1)).trans (x.2 k hk)⟩
noncomputable def lT(W:Wd)(h:Heap):Prop:=∀q∈W.tabs,∃ps,h.IsCode q.1 q.2 ps/\ h.TableAt q.1 q.2 ps
structure Inv(W:Wd)(s:ah):Prop where
 stays:W.base.StaysIn s.heap
 tabs:lT W s.heap
 gens:AllBare s.gens
noncomputable def fz:List String:=["list", "tuple", "list_iterator", "tuple_iterator", "str_ascii_iterator", "str_iterator", "generator"]
noncomputable def dn(o:Obj):Prop:=(∃T∈fz,o.cls= .type T)/\ ∀es ep,o.data≠ .dict es ep
structure After(W:Wd)(X:Addr->Prop)(s s':ah):Prop where
 inv:Inv W s'
 keep:∀b o,¬X b->s.heap.get? b=some o->s'.heap.get? b=some o
 ns:∀L m,s.heap.Ns L m->s'.heap.Ns L m
 gens:dc s.gens s'.gens
 os:s'.os=s.os
 drawn:s'.drawn=s.drawn
 live:∀b o,s.heap.get? b=some o->∃o',s'.heap.get? b=some o'
 solid:∀b o,dn o->s.heap.get? b=some o->s'.heap.get? b=some o
theorem After.refl{W:Wd}{X:Addr->Prop}{s:ah}(I:Inv W s):After W X s s:=⟨I,λø ø ø e=>e,λø ø e=>e,dc.refl _,rfl,rfl,λø o e=>⟨o,e⟩,λø ø ø e=>e⟩
theorem After.trans{W:Wd}{X:Addr->Prop}{s s' s'':ah}(x:After W X s s')(y:After W X s' s''):After W X s s'':=
 ⟨y.inv,λb o n e=>y.keep b o n (x.keep b o n e),λL m e=>y.ns L m (x.ns L m e),x.gens.trans y.gens,y.os.trans x.os,y.drawn.trans x.drawn,λb o e=>by obtain⟨o',e'⟩:=x.live b o e;exact y.live b o' e',λb o t e=>y.solid b o t (x.solid b o t e)⟩
theorem After.rep{W:Wd}{X:Addr->Prop}{s s':ah}(x:After W X s s'){v:ae}{p:PV}(r:Rep W X s.heap v p):Rep W X s'.heap v p:=r.mono x.keep λø ø ø n=>n
theorem After.reps{W:Wd}{X:Addr->Prop}{s s':ah}(x:After W X s s'){v:List ae}{p:List PV}(r:a8 W X s.heap v p):a8 W X s'.heap v p:=r.mono x.keep λø ø ø n=>n
theorem After.weaken{W:Wd}{X X':Addr->Prop}{s s':ah}(x:After W X s s')(hx:∀b o,s.heap.get? b=some o->¬X' b->¬X b):After W X' s s':=
 ⟨x.inv,λb o n e=>x.keep b o (hx b o e n) e,x.ns,x.gens,x.os,x.drawn,x.live,x.solid⟩
noncomputable def pt(W:Wd)(X:Addr->Prop)(l:List av)(h:Heap):Prop:=
 ∀env∈l,env.scope.kind≠ .module/\ ∃L m,env.frame=some L/\ W.base.get? L=none/\ h.Ns L m/\ X L
theorem pt.after{W:Wd}{X:Addr->Prop}{l:List av}{s s':ah}(f:pt W X l s.heap)(x:∀L m,s.heap.Ns L m->∃m',s'.heap.Ns L m'):pt W X l s'.heap:=λenv he=>by
 refine g' (f env he) λhk L m e1 e2 e3 e4=> ?_
 refine xE (x L m e3) λm' e3' => ?_
 exact⟨hk,L,m',e1,e2,e3',e4⟩
structure Ready(W:Wd)(X:Addr->Prop)(A:aA)(l:List av)(s:ah):Prop where
 inv:Inv W s
 frames:A.frames=some l
 guards:A.guards=some []
 handled:A.handled=none
 below:pt W X l s.heap
 xtabs:∀q∈W.tabs,X q.2
 xbase:∀b o,W.base.get? b=some o->¬X b
 xlt:∀b,X b->∃o,s.heap.get? b=some o
theorem Ready.after{W:Wd}{X:Addr->Prop}{A:aA}{l:List av}{s s':ah}(r:Ready W X A l s)(x:After W X s s'):Ready W X A l s':=
 ⟨x.inv,r.frames,r.guards,r.handled,r.below.after λL m e=>⟨m,x.ns L m e⟩,r.xtabs,r.xbase,λb hb=>by obtain⟨o,e⟩:=r.xlt b hb;exact x.live b o e⟩
noncomputable def nv(W:Wd)(X:Addr->Prop)(h:Heap)(L:Addr)(ρ:ak):Prop:=
 X L/\ ∃m,h.Ns L m/\ ∀x p,ρ.lookup x=some p->∃v,m x=some v/\ Rep W X h v p
theorem nv.after{W:Wd}{X:Addr->Prop}{s s':ah}{L:Addr}{ρ:ak}(r:nv W X s.heap L ρ)(x:After W X s s'):nv W X s'.heap L ρ:=by
 refine dN r λhX m hn hv=> ?_
 exact⟨hX,m,x.ns L m hn,λy p e=>by obtain⟨v,e1,e2⟩:=hv y p e;exact⟨v,e1,x.rep e2⟩⟩
structure Qd(W:Wd)(gen:Bool)(sc:Scope)(env:av):Prop where
 scope:env.scope=sc
 kind:sc.kind= .function
 globals:env.globals=mainGlobals
 builtins:env.builtins=builtinsNs
 code:gen=true->∃c P,env.code= .ref c/\ (c,P)∈W.tabs
 nocell:∀y∈sc.names,y.2≠ .cell
noncomputable def pu(sc:Scope)(ρ:ak):Prop:=∀x p,ρ.lookup x=some p->sc.names.lookup x=some .local
structure f8(W:Wd)(X:Addr->Prop)(l:List av)(e:Addr)(c:XC)(s s':ah):Prop where
 fly:∃B a0,(∀b o,¬X b->s.heap.get? b=some o->B.get? b=some o)/\ (∀b o,s.heap.get? b=some o->(∃o',B.get? b=some o') \/b∈l.filterMap (·.frame))/\
  (∀b o,dn o->s.heap.get? b=some o->B.get? b=some o)/\ W.base.StaysIn B/\ lT W B/\ vU B l e (W.excA c) a0 s'.heap
 ns:∀L m,s.heap.Ns L m->s'.heap.Ns L m
 gens:AllBare s'.gens/\ dc s.gens s'.gens
 os:s'.os=s.os
 drawn:s'.drawn=s.drawn
theorem lT.keeps{W:Wd}{h h':Heap}(t:lT W h)(k:∀b o,h.get? b=some o->h'.get? b=some o):lT W h':=λq hq=>by
 refine ay (t q hq) λps a b=> ?_
 exact⟨ps,a.keeps k,b.keeps k⟩
theorem f8.after{W:Wd}{X:Addr->Prop}{l:List av}{e:Addr}{c:XC}{s s':ah}(f:f8 W X l e c s s'):After W X s s':=by
 obtain⟨zn1,h5,h6,h8,h9⟩:=f
 refine mU zn1 λB a0 h1 h12 hs h2 h3 h4=> ?_
 refine⟨⟨λb o e=>h4.1 b o (h2 b o e),h3.keeps h4.1,h6.1⟩,λb o n e=>h4.1 b o (h1 b o n e),h5,h6.2,h8,h9,λb o e=> ?_,λb o t e=>h4.1 b o (hs b o t e)⟩
 rcases h12 b o e with ⟨o',e'⟩|hm
 ·exact⟨o',h4.1 _ _ e'⟩
 ·refine dN (h4.2.2.1.mem hm) λø o' e' ø=> ?_
  exact⟨o',e'⟩
theorem f8.before{W:Wd}{X:Addr->Prop}{l:List av}{e:Addr}{c:XC}{s₀ s s':ah}(x:After W X s₀ s)(f:f8 W X l e c s s'):f8 W X l e c s₀ s':=by
 obtain⟨zn2,h5,h6,h8,h9⟩:=f
 refine mU zn2 λB a0 h1 h12 hs h2 h3 h4=> ?_
 refine⟨⟨B,a0,λb o n e=>h1 b o n (x.keep b o n e),λb o e=> ?_,λb o t e=>hs b o t (x.solid b o t e),h2,h3,h4⟩,λL m e=>h5 L m (x.ns L m e),⟨h6.1,x.gens.trans h6.2⟩,h8.trans x.os,h9.trans x.drawn⟩
 refine xE (x.live b o e) λo' e' => ?_
 exact h12 b o' e'
noncomputable def Qe(W:Wd)(n:Nat)(f:ae)(args:List PV)(r:Res PV):Prop:=
 ∀(A:aA) (l:List av) (s:ah) (X:Addr->Prop) (vs:List ae) (Q E:ae->ah->Prop),Ready W X A l s->A.depth+n<=900->A.units+10*n<=9000->a8 W X s.heap vs args->
  (∀v p s',r= .ok p->After W X s s'->Rep W X s'.heap v p->Q v s')->
  (∀e c s',r= .exc c->f8 W X l e c s s'->E (.ref e) s')->
  wpAny W.M A (call f vs) Q E s
noncomputable def Qf(W:Wd)(n:Nat)(t:Sem ae)(s:ah)(X:Addr->Prop)(A:aA)(l:List av)(r:Res PV):Prop:=
 ∀(Q E:ae->ah->Prop),A.depth+n<=900->A.units+10*n<=9000->
  (∀v p s',r= .ok p->After W X s s'->Rep W X s'.heap v p->Q v s')->
  (∀e c s',r= .exc c->f8 W X l e c s s'->E (.ref e) s')->wpAny W.M A t Q E s
noncomputable def Qg(W:Wd)(n:Nat)(t:Sem Bool)(s:ah)(X:Addr->Prop)(A:aA)(l:List av)(r:Res Bool):Prop:=
 ∀(Q:Bool->ah->Prop) (E:ae->ah->Prop),A.depth+n<=900->A.units+10*n<=9000->
  (∀v s',r= .ok v->After W X s s'->Q v s')->
  (∀e c s',r= .exc c->f8 W X l e c s s'->E (.ref e) s')->wpAny W.M A t Q E s
end
section
theorem i9(x y:Str):ao (x++y)=ao x++ao y:=by
 show(x.cps++y.cps).toList=_
 simp[ao]
theorem b7(x:Str):(ao x).length=x.length:=by simp[ao,Str.length]
theorem E6{x y:Str}(h:ao x=ao y):x=y:=by
 cases x;cases y;simp[ao]at h;rw[h]
theorem E7(l:List Nat):ao ⟨l.toArray⟩=l:=rfl
section
variable{W:Wd}{X:Addr->Prop}{s:ah}
theorem Inv.ext{s s':ah}(I:Inv W s)(k:∀b o,s.heap.get? b=some o->s'.heap.get? b=some o)(g:s'.gens=s.gens):Inv W s':=
 ⟨λb o e=>k b o (I.stays b o e),I.tabs.keeps k,g▸I.gens⟩
theorem After.of_keeps{h':Heap}{tk:Nat}(I:Inv W s)(k:∀b o,s.heap.get? b=some o->h'.get? b=some o):After W X s {s with heap:=h',toks:=tk}:=
 ⟨I.ext k rfl,λb o ø e=>k b o e,λø ø e=>e.keeps k,dc.refl _,rfl,rfl,λb o e=>⟨o,k b o e⟩,λb o ø e=>k b o e⟩
theorem After.tok(I:Inv W s){tk:Nat}:After W X s {s with toks:=tk}:=After.of_keeps (h':=s.heap) I (λø ø e=>e)
theorem After.push(I:Inv W s)(o:Obj){tk:Nat}:After W X s {s with heap:=s.heap.push o,toks:=tk}:=
 After.of_keeps I (λø ø e=>b4 _ e)
end
noncomputable def fb(X:Addr->Prop)(s:ah):Prop:=∀b,X b->∃o,s.heap.get? b=some o
theorem fb.after{W:Wd}{X:Addr->Prop}{s s':ah}(x:fb X s)(a:After W X s s'):fb X s':=λb hb=>by obtain⟨o,e⟩:=x b hb;exact a.live b o e
theorem fb.fresh{X:Addr->Prop}{s:ah}(x:fb X s):¬X s.heap.objs.size:=λh=>by obtain⟨o,e⟩:=x _ h;exact js _ (eK e)
noncomputable def tB(h:Heap)(L:Addr):List (Addr×Obj):=(iU h.objs.size).filterMap λb=>if b=L then none else(h.get? b).map λo=>(b,o)
theorem E8{h:Heap}{L b:Addr}{o:Obj}:(b,o)∈tB h L↔b≠L/\ h.get? b=some o:=by
 unfold tB
 simp only[oM,jv]
 constructor
 ·intro zn1
  refine ay zn1 λa ø e=> ?_
  split at e
  ·exact am e
  ·rename_i hne
   cases q:h.get? a with
   |none=>rw[q]at e;exact am e
   |some x=>rw[q]at e;cases aq e;exact⟨hne,q⟩
 ·intro zn2
  refine xA zn2 λhne e=> ?_
  exact⟨b,eK e,by rw[if_neg hne,e];rfl⟩
noncomputable def tC:Heap:={}
theorem xp(b:Addr):tC.get? b=none:=rfl
theorem Qh{h:Heap}{L:Addr}{m:Str->Option ae}(n:h.Ns L m):Fr tC L h m:=⟨n,λb o e=>(by rw[xp]at e;cases e),dR _⟩
theorem Qi(h:Heap)(L:Addr):eL tC L h (tB h L):=λp hp=>by
 obtain⟨b,o⟩:=p
 refine xA (E8.mp hp) λh1 h2=> ?_
 exact⟨h2,h1,xp b⟩
section
variable{W:Wd}{X:Addr->Prop}{A:aA}{s:ah}{Q E:ae->ah->Prop}
theorem nw(xl:fb X s){vs:List ae}{ps:List PV}(r:a8 W X s.heap vs ps):Rep W X (s.heap.push {cls:= .type "tuple",data:= .seq vs.toArray}) (.ref s.heap.objs.size) (.tuple ps):=
 .tuple (et _ rfl) rfl rfl xl.fresh (by simpa using r.mono (λø ø ø e=>b4 _ e) λø ø ø n=>n)
theorem tD(xl:fb X s){vs:List ae}{ps:List PV}(r:a8 W X s.heap vs ps):Rep W X (s.heap.push {cls:= .type "list",data:= .seq vs.toArray}) (.ref s.heap.objs.size) (.list ps):=
 .list (et _ rfl) rfl rfl xl.fresh (by simpa using r.mono (λø ø ø e=>b4 _ e) λø ø ø n=>n)
theorem f9:aX<=sizeLine:=by decide+kernel
theorem xq{i:Int}(h:small i=true):Ps i<=2^20:=by
 unfold Ps
 split
 ·exact dR _
 ·have h3:i.natAbs<=iB:=of_decide_eq_true h
  have hb:iB.log2+1<=2^20:=by decide+kernel
  have:i.natAbs.log2<=iB.log2:=by
   refine cr (oN iB.log2 i.natAbs.log2) (λh=> ?_) (λh=> ?_)
   ·exfalso
    have h4:i.natAbs≠0:=λq=>by rw[q]at h;simp at h
    exact absurd (aj ((Nat.le_log2 h4 (k:=iB.log2+1)).mp h) h3) (Nat.not_le.mpr Nat.lt_log2_self)
   ·exact h
  exact aj (er this) hb
theorem xr{a:PV}{x:List Nat}(h:go a=some x):a= .str x:=by
 cases a with
 |str=>obtain rfl:=aq h;rfl
 |_=>exact am h
theorem tE{a:PV}{x:Int}(h:gq a=some x):a= .int x:=by
 cases a with
 |int=>obtain rfl:=aq h;rfl
 |_=>exact am h
theorem pw{a:PV}{x:List PV}(h:kC a=some x):a= .list x:=by
 cases a with
 |list=>obtain rfl:=aq h;rfl
 |_=>exact am h
theorem xt{a:PV}{x:List PV}(h:kF a=some x):a= .tuple x:=by
 cases a with
 |tuple=>obtain rfl:=aq h;rfl
 |_=>exact am h
theorem ny{h:Heap}{v:ae}{a:PV}{x:List Nat}(e:go a=some x)(r:Rep W X h v a):∃y t,x=ao y/\ v= .str y t:=by
 rw[xr e]at r;exact r.strI
theorem nz{h:Heap}{v:ae}{a:PV}{i:Int}(e:gq a=some i)(r:Rep W X h v a):∃t,v= .int i t:=by
 rw[tE e]at r;exact r.intI
theorem tF{h:Heap}{vs:List ae}{as:List PV}{a:PV}(e:i0 as=some a)(r:a8 W X h vs as):∃v,vs=[v]/\ Rep W X h v a:=by
 match as,e,r with
 |[b],e,r=>
  refine r.consE λv ws zq2 r1 r2=> ?_;subst zq2
  obtain rfl:=r2.nilI
  obtain rfl:=aq e
  exact⟨v,rfl,r1⟩
theorem eA{α:Type}{c:Prop}[Decidable c]{a b:α}(e:(if c then some a else none)=some b):c/\ a=b:=by
 by_cases h:c
 ·rw[if_pos h]at e;exact⟨h,aq e⟩
 ·rw[if_neg h]at e;exact am e
theorem kL{α:Type}{c:Prop}[Decidable c]{a:Option α}{b:α}(e:(if c then a else none)=some b):c/\ a=some b:=by
 by_cases h:c
 ·rw[if_pos h]at e;exact⟨h,e⟩
 ·rw[if_neg h]at e;exact am e
theorem lU{a b:PV}{p:Int×Int}(h:hW a b=some p):a= .int p.1/\ b= .int p.2:=by
 cases a with
 |int x=>cases b with
  |int y=>obtain rfl:=aq h;exact⟨rfl,rfl⟩
  |_=>exact am h
 |_=>exact am h
theorem xu{a b:PV}{p:Bool×Bool}(h:sJ a b=some p):a= .bool p.1/\ b= .bool p.2:=by
 cases a with
 |bool x=>cases b with
  |bool y=>obtain rfl:=aq h;exact⟨rfl,rfl⟩
  |_=>exact am h
 |_=>exact am h
theorem nE{a b:PV}{p:List Nat×List Nat}(h:iZ a b=some p):a= .str p.1/\ b= .str p.2:=by
 cases a with
 |str x=>cases b with
  |str y=>obtain rfl:=aq h;exact⟨rfl,rfl⟩
  |_=>exact am h
 |_=>exact am h
theorem pz{a b:PV}{p:List PV×List PV}(h:ni a b=some p):a= .tuple p.1/\ b= .tuple p.2:=by
 cases a with
 |tuple x=>cases b with
  |tuple y=>obtain rfl:=aq h;exact⟨rfl,rfl⟩
  |_=>exact am h
 |_=>exact am h
theorem pA{a b:PV}{p:List PV×List PV}(h:nj a b=some p):a= .list p.1/\ b= .list p.2:=by
 cases a with
 |list x=>cases b with
  |list y=>obtain rfl:=aq h;exact⟨rfl,rfl⟩
  |_=>exact am h
 |_=>exact am h
theorem E9{a b r:PV}(e:pg a b=some r):(∃x y,a= .int x/\ b= .int y/\ r= .int (x+y)) \/(∃x y,a= .str x/\ b= .str y/\ x.length+y.length<=aX/\ r= .str (x++y)) \/(∃x y,a= .tuple x/\ b= .tuple y/\ x.length+y.length<=aX/\ r= .tuple (x++y)) \/(∃x y,a= .list x/\ b= .list y/\ x.length+y.length<=aX/\ r= .list (x++y)):=by
 unfold pg at e
 cases h1:hW a b with
 |some p=>rw[h1]at e;obtain rfl:=aq e;exact .inl ⟨_,_,(lU h1).1,(lU h1).2,rfl⟩
 |none=>
  cases h2:iZ a b with
  |some p=>
   rw[h1,h2]at e
   have e:(if p.1.length+p.2.length<=aX then some (PV.str (p.1++p.2))else none)=some r:=e
   split at e
   ·rename_i hl;obtain rfl:=aq e;exact .inr (.inl ⟨_,_,(nE h2).1,(nE h2).2,hl,rfl⟩)
   ·exact am e
  |none=>
   cases h3:ni a b with
   |some p=>
    rw[h1,h2,h3]at e
    have e:(if p.1.length+p.2.length<=aX then some (PV.tuple (p.1++p.2))else none)=some r:=e
    split at e
    ·rename_i hl;obtain rfl:=aq e;exact .inr (.inr (.inl ⟨_,_,(pz h3).1,(pz h3).2,hl,rfl⟩))
    ·exact am e
   |none=>
    cases h4:nj a b with
    |some p=>
     rw[h1,h2,h3,h4]at e
     have e:(if p.1.length+p.2.length<=aX then some (PV.list (p.1++p.2))else none)=some r:=e
     split at e
     ·rename_i hl;obtain rfl:=aq e;exact .inr (.inr (.inr ⟨_,_,(pA h4).1,(pA h4).2,hl,rfl⟩))
     ·exact am e
    |none=>rw[h1,h2,h3,h4]at e;exact am e
theorem Fa(I:Inv W s)(xl:fb X s){va vb:ae}{a b r:PV}(e:pg a b=some r)(ra:Rep W X s.heap va a)(rb:Rep W X s.heap vb b)
  (h:∀v s',After W X s s'->Rep W X s'.heap v r->Q v s'):wpAny W.M A (binaryOp .Add va vb) Q E s:=by
 rcases E9 e with ⟨x,y,rfl,rfl,rfl⟩|⟨x,y,rfl,rfl,hl,rfl⟩|⟨x,y,rfl,rfl,hl,rfl⟩|⟨x,y,rfl,rfl,hl,rfl⟩
 ·refine ra.intE λø zq=> ?_;subst zq;refine rb.intE λø zq=> ?_;subst zq
  exact PyProof.Rows.add_int (h _ _ (After.tok I) (.int _ _))
 ·refine ra.strE λx t zq2 zq3=> ?_;subst zq2 zq3
  refine rb.strE λy u zq2 zq3=> ?_;subst zq2 zq3
  rw[b7,b7]at hl
  refine SB.add (λt' k=> ?_) (aj hl f9)
  refine h _ _ (After.tok I) ?_
  rw[<-i9]
  exact .str _ _
 ·refine ra.tupE λt o vs n zq4 e1 c1 d1 n1 r1=> ?_;subst zq4
  refine rb.tupE λt2 o2 ws k zq4 e2 c2 d2 n2 r2=> ?_;subst zq4
  obtain⟨cls,dd,data,sl⟩:=o
  obtain⟨cls2,dd2,data2,sl2⟩:=o2
  dsimp only at c1 d1 c2 d2
  subst c1 d1 c2 d2
  have hsz:vs.size+ws.size<=sizeLine:=by
   have l1:=r1.length
   have l2:=r2.length
   rw[oO]at l1 l2
   rw[l1,l2];exact aj hl f9
  by_cases hv:vs.isEmpty=true
  ·refine vV ⟨_,e1,rfl⟩ ⟨_,e2,rfl⟩ C5 C6 C7 C8 (C9 _ _)
    (tuple_addW0 t t2 vs ws n k dd dd2 sl sl2 hv) ⟨e1,e2,?_⟩
   have hv':vs= #[]:=by simpa using hv
   subst hv'
   cases r1
   exact h _ _ (After.refl I) (.tuple e2 rfl rfl n2 r2)
  ·by_cases hw:ws.isEmpty=true
   ·refine vV ⟨_,e1,rfl⟩ ⟨_,e2,rfl⟩ C5 C6 C7 C8 (C9 _ _)
     (tuple_addW1 t t2 vs ws n k dd dd2 sl sl2 hv hw) ⟨e1,e2,?_⟩
    have hw':ws= #[]:=by simpa using hw
    subst hw'
    cases r2
    refine h _ _ (After.refl I) ?_
    rw[kj]
    exact .tuple e1 rfl rfl n1 r1
   ·refine vV ⟨_,e1,rfl⟩ ⟨_,e2,rfl⟩ C5 C6 C7 C8 (C9 _ _)
     (tuple_addW2 t t2 vs ws n k dd dd2 sl sl2 hv hw hsz) ⟨e1,e2,?_⟩
    refine h _ _ (After.push I _) ?_
    have q:=nw xl (r1.append r2)
    rw[show(vs.toList++ws.toList).toArray=vs++ws by simp]at q
    exact q
 ·refine ra.lisE λt o vs n zq4 e1 c1 d1 n1 r1=> ?_;subst zq4
  refine rb.lisE λt2 o2 ws k zq4 e2 c2 d2 n2 r2=> ?_;subst zq4
  obtain⟨cls,dd,data,sl⟩:=o
  obtain⟨cls2,dd2,data2,sl2⟩:=o2
  dsimp only at c1 d1 c2 d2
  subst c1 d1 c2 d2
  have hsz:vs.size+ws.size<=sizeLine:=by
   have l1:=r1.length
   have l2:=r2.length
   rw[oO]at l1 l2
   rw[l1,l2];exact aj hl f9
  refine vV ⟨_,e1,rfl⟩ ⟨_,e2,rfl⟩ noFill_list_add seq_list_add PySem.F.slot_list_add PySem.F.entry_list_add (PySem.F.args_list_add_2 _ _) (list_addW t t2 vs ws n k dd dd2 sl sl2 hsz) ⟨e1,e2,?_⟩
  refine h _ _ (After.push I _) ?_
  have q:=tD xl (r1.append r2)
  rw[show(vs.toList++ws.toList).toArray=vs++ws by simp]at q
  exact q
theorem jL(I:Inv W s)(xl:fb X s){op:mH}{va vb:ae}{a b r:PV}(e:bJ op a b=some r)(ra:Rep W X s.heap va a)(rb:Rep W X s.heap vb b)
  (h:∀v s',After W X s s'->Rep W X s'.heap v r->Q v s'):wpAny W.M A (binaryOp op va vb) Q E s:=by
 cases op with
 |Add=>exact Fa I xl e ra rb h
 |Sub=>
  refine eZ e λp h1 zq2=> ?_;subst zq2
  refine xA (lU h1) λzq0 zq1=> ?_;subst zq0 zq1
  refine ra.intE λø zq=> ?_;subst zq;refine rb.intE λø zq=> ?_;subst zq
  exact PyProof.Rows.sub_int (h _ _ (After.tok I) (.int _ _))
 |Mult=>
  refine bl e λp h1 e2=> ?_
  refine xA (lU h1) λzq0 zq1=> ?_;subst zq0 zq1
  refine ra.intE λø zq=> ?_;subst zq;refine rb.intE λø zq=> ?_;subst zq
  split at e2
  ·rename_i hs
   obtain rfl:=aq e2
   refine xA (ju.mp hs) λh1 h2=> ?_
   exact PyProof.Rows.mul_int (h _ _ (After.tok I) (.int _ _)) (IntMulOk.of_bits (xq h1) (xq h2))
  ·exact am e2
 |Mod=>
  refine bl e λp h1 e2=> ?_
  refine xA (lU h1) λzq0 zq1=> ?_;subst zq0 zq1
  refine ra.intE λø zq=> ?_;subst zq;refine rb.intE λø zq=> ?_;subst zq
  split at e2
  ·rename_i hs
   obtain rfl:=aq e2
   refine mod_int' (vW hs.1) ?_
   rw[Int.fmod_eq_emod_of_nonneg _ (rn hs.1)]
   exact h _ _ (After.tok I) (.int _ _)
  ·exact am e2
 |_=>exact am e
end
end
section
theorem Fb(x:Str):(⟨(ao x).toArray⟩:Str)=x:=by cases x;simp[ao]
section
variable{W:Wd}{X:Addr->Prop}{h:Heap}
theorem Rep.reads{v:ae}{p:PV}(n:Nat)(r:Rep W X h v p):p.flat n=true->∃as,Reads h v p.py as:=
 Rep.rec (motive_1:=λv p ø=>∀n,p.flat n=true->∃as,Reads h v p.py as) (motive_2:=λvs ps ø=>∀n,(∀p∈ps,p.flat n=true)->∃as,ReadsAll h vs (PV.pys ps) as) (motive_3:=λø ø ø=>True)
  (λø ø=>⟨_,Reads.none⟩) (λb n k=>by cases n<;>exact bZ k) (λi t ø ø=>⟨_,Reads.int i t⟩)
  (λx t ø ø=>⟨_,(congrArg PyData.str (Fb x)).symm▸Reads.str x t⟩)
  (λe c d ø ø ih n k=>by
   cases n with
   |zero=>exact bZ k
   |succ n=>exact xE (ih n (ba.mp k)) λas q=>⟨as,Reads.tuple e c d q⟩)
  (λe c d ø ø ih n k=>by
   cases n with
   |zero=>exact bZ k
   |succ n=>exact xE (ih n (ba.mp k)) λas q=>⟨_,Reads.list e c d q⟩)
  (λø ø ø ø ø ø n k=>by cases n<;>exact bZ k)
  (λø ø=>⟨_,ReadsAll.nil⟩)
  (λø ø i1 i2 n k=>xE (i1 n (k _ (.head _))) λas q=>xE (i2 n λd hm=>k d (.tail _ hm)) λbs p=>⟨_,ReadsAll.cons q p⟩)
  trivial (λø ø ø ø=>trivial) r n
end
theorem nG:∀(n:Nat) (p:PV),p.flat n=true->p.py.canLay0=true/\ p.py.depth<=n:=by
 have str:∀s:List Nat,(s.all λc=>decide (c<1114112))=true->PyData.strOk ⟨s.toArray⟩=true:=λs h=>by
  unfold PyData.strOk
  simpa using h
 intro n
 induction n with
 |zero=>
  intro p h
  cases p with
  |none=>exact⟨rfl,bP _⟩
  |int i=>exact⟨rfl,bP _⟩
  |str s=>exact⟨str s h,bP _⟩
  |_=>exact bZ h
 |succ n ih=>
  have all:∀ps:List PV,(∀p∈ps,p.flat n=true)->C' (PV.pys ps)=true/\ vX (PV.pys ps)<=n:=by
   intro ps
   induction ps with
   |nil=>exact λø=>⟨rfl,dR _⟩
   |cons p ps hi=>
    intro h
    have h1:=ih p (h p (.head _))
    have h2:=hi λe he=>h e (.tail _ he)
    exact⟨by show(p.py.canLay0&&C' (PV.pys ps))=true;rw[h1.1,h2.1];rfl,Nat.max_le.mpr ⟨h1.2,h2.2⟩⟩
  intro p h
  cases p with
  |none=>exact⟨rfl,dR _⟩
  |int i=>exact⟨rfl,dR _⟩
  |str x=>exact⟨str x h,dR _⟩
  |tuple ds=>
   have q:=all ds (ba.mp h)
   exact⟨q.1,by show vX (PV.pys ds)+1<=n+1;exact er q.2⟩
  |list ds=>
   have q:=all ds (ba.mp h)
   exact⟨q.1,by show vX (PV.pys ds)+1<=n+1;exact er q.2⟩
  |_=>exact bZ h
theorem xv(a b:List Nat):((⟨a.toArray⟩:Str)==⟨b.toArray⟩)=(a==b):=by
 by_cases h:a=b
 ·subst h;simp
 ·have h1:(⟨a.toArray⟩:Str)≠⟨b.toArray⟩:=λe=>h (by injection e with e;simpa using e)
  rw[beq_eq_false_iff_ne.mpr h1,beq_eq_false_iff_ne.mpr h]
theorem pB{n:Nat}{p:PV}(h:p.flat n=true)(hn:n<=64):SeqAt.shaped p.py=true:=by
 refine xA (nG n p h) λh1 h2=> ?_
 unfold SeqAt.shaped
 rw[h1,Da]
 exact decide_eq_true (aj h2 hn)
end
section
theorem xw(x:List Nat):∀s:List Nat,ci x s=true↔∃i,i+x.length<=s.length/\ (s.drop i).take x.length=x
 |[]=>by
  cases x with
  |nil=>simp[ci]
  |cons c r=>simp[ci]
 |c::r=>by
  unfold ci
  rw[gZ,(xw x r),lu,Pt]
  constructor
  ·rintro (h|⟨i,h1,h2⟩)
   ·refine⟨0,?_,by rw[gD];exact h.symm⟩
    have:=congrArg vY h
    rw[jw]at this
    exact aj (bG ((eV _).trans this)) (mG _ _)
   ·exact⟨i+1,aj (bG (gX i 1 _)) (er h1),by rw[Db];exact h2⟩
  ·intro zn1
   obtain⟨i,h1,h2⟩:=zn1
   cases i with
   |zero=>left;rw[gD]at h2;exact h2.symm
   |succ i=>right;exact⟨i,Nat.le_of_succ_le_succ (aj (bG (gX i _ 1)) h1),by rw[Db]at h2;exact h2⟩
theorem xy(x y:Str):Txt.contains x y=ci (ao y) (ao x):=by
 rw[rC]
 unfold Txt.contains
 rw[StrLaws.found_iff,xw]
 simp only[b7,StrLaws.subAt_eq,beq_iff_eq]
 rfl
section
variable{W:Wd}{X:Addr->Prop}{A:aA}{s:ah}{E:ae->ah->Prop}
theorem jM{A:aA}(hu:A.units<=9000):A.units+65<cLine:=by
 have:=cLine_is
 exact bU (iq hu 65) (by decide+kernel)
theorem Fc{Q:ae->ah->Prop}{va vb:ae}{a b:PV}(ra:Rep W X s.heap va a)(rb:Rep W X s.heap vb b)(ha:a.flat 4=true)(hb:b.flat 4=true)(hu:A.units<=9000)(h:Q (.bool (a.same b)) s):
  wpAny W.M A (compareOp .Eq va vb) Q E s:=by
 refine xE (ra.reads 4 ha) λas qa=> ?_
 refine xE (rb.reads 4 hb) λbs qb=> ?_
 refine eq_dataH qa qb (pB ha (by decide)) (pB hb (by decide)) (iT (jM hu)) ?_
 exact h
theorem Fd{Q:ae->ah->Prop}{va vb:ae}{a b:PV}(ra:Rep W X s.heap va a)(rb:Rep W X s.heap vb b)(ha:a.flat 4=true)(hb:b.flat 4=true)(hu:A.units<=9000)(h:Q (.bool (!a.same b)) s):
  wpAny W.M A (compareOp .NotEq va vb) Q E s:=by
 refine xE (ra.reads 4 ha) λas qa=> ?_
 refine xE (rb.reads 4 hb) λbs qb=> ?_
 refine ne_dataH qa qb (pB ha (by decide)) (pB hb (by decide)) (iT (jM hu)) ?_
 exact h
theorem xz(xs:List PV)(x:PV):((PV.pys xs).any λy=>PyData.eqv y x.py)=xs.any λy=>y.same x:=by
 induction xs with
 |nil=>rfl
 |cons y ys ih=>
  show(PyData.eqv y.py x.py||(PV.pys ys).any _)=(y.same x||ys.any _)
  rw[ih];rfl
theorem xC(xs:List PV)(h:∀p∈xs,p.flat 4=true):C' (PV.pys xs)=true/\ vX (PV.pys xs)<=5:=by
 have q:=nG 5 (.list xs) (ba.mpr h)
 exact⟨q.1,Nat.le_of_succ_le q.2⟩
theorem Fe{v:ae}{xs:List PV}(r:Rep W X s.heap v (.list xs))(h:∀p∈xs,p.flat 4=true):∃as,Reads s.heap v (.list (PV.pys xs)) as:=
 r.reads 5 (ba.mpr h)
theorem Ff{v:ae}{xs:List PV}(r:Rep W X s.heap v (.tuple xs))(h:∀p∈xs,p.flat 4=true):∃as,Reads s.heap v (.tuple (PV.pys xs)) as:=
 r.reads 5 (ba.mpr h)
theorem tG{n:Nat}{p:PV}(h:p.flat n=true):p.same p=true:=SeqAt.eqv_refl p.py (nG n p h).1
theorem eE{vs:Array ae}{xs:List PV}{h:Heap}(r:a8 W X h vs.toList xs):vs.size=xs.length:=by have:=r.length;simpa using this
theorem xF{n:Nat}{xs:List PV}(h:n=xs.length):((iU (min n 0)).all (λø=>true)&&n==0)=xs.isEmpty:=by
 subst h
 cases xs<;>simp
theorem pC{va vb:ae}{a b:PV}{p:Int×Int}(e:hW a b=some p)(ra:Rep W X s.heap va a)(rb:Rep W X s.heap vb b):∃t u,va= .int p.1 t/\ vb= .int p.2 u:=by
 refine xA (lU e) λzq0 zq1=> ?_;subst zq0 zq1
 refine xE ra.intI λt zq1=> ?_;subst zq1
 refine xE rb.intI λu zq1=> ?_;subst zq1
 exact⟨t,u,rfl,rfl⟩
theorem xG{va vb:ae}{a b:PV}{x y:List Nat}(e:iZ a b=some (x,y))(ra:Rep W X s.heap va a)(rb:Rep W X s.heap vb b):∃x' t y' u,x=ao x'/\ y=ao y'/\ va= .str x' t/\ vb= .str y' u:=by
 refine xA (nE e) λzq0 zq1=> ?_;subst zq0 zq1
 refine ra.strE λx' t e1 zq3=> ?_;subst zq3
 refine rb.strE λy' u e2 zq3=> ?_;subst zq3
 exact⟨x',t,y',u,e1,e2,rfl,rfl⟩
theorem xH{h:Heap}{v:ae}{a:PV}(r:Rep W X h v a):(v==kl)=fX a:=by cases r<;>rfl
theorem xJ{a b:PV}{r:Bool}(e:lM a b=some r):(∃x y,a= .bool x/\ b= .bool y/\ r=(x==y)) \/(∃x y,a= .str x/\ b= .str y/\ r=(x==y)) \/(∃x,a= .tuple x/\ b= .tuple []/\ r=x.isEmpty) \/(∃x,a= .list x/\ b= .list []/\ r=x.isEmpty) \/(a.flat 4=true/\ b.flat 4=true/\ r=a.same b):=by
 unfold lM at e
 cases h1:sJ a b with
 |some p=>rw[h1]at e;obtain rfl:=aq e;exact .inl ⟨_,_,(xu h1).1,(xu h1).2,rfl⟩
 |none=>
  cases h2:iZ a b with
  |some p=>rw[h1,h2]at e;obtain rfl:=aq e;exact .inr (.inl ⟨_,_,(nE h2).1,(nE h2).2,rfl⟩)
  |none=>
   cases h3:(ni a b).bind λp=>if p.2.isEmpty then some p.1 else none with
   |some xs=>
    rw[h1,h2,h3]at e
    obtain rfl:=aq e
    refine bl h3 λp q1 q2=> ?_
    split at q2
    ·rename_i q3
     obtain rfl:=aq q2
     exact .inr (.inr (.inl ⟨_,(pz q1).1,by rw[(pz q1).2,gY.mp q3],rfl⟩))
    ·exact am q2
   |none=>
    cases h4:(nj a b).bind λp=>if p.2.isEmpty then some p.1 else none with
    |some xs=>
     rw[h1,h2,h3,h4]at e
     obtain rfl:=aq e
     refine bl h4 λp q1 q2=> ?_
     split at q2
     ·rename_i q3
      obtain rfl:=aq q2
      exact .inr (.inr (.inr (.inl ⟨_,(pA q1).1,by rw[(pA q1).2,gY.mp q3],rfl⟩)))
     ·exact am q2
    |none=>
     rw[h1,h2,h3,h4]at e
     have e:(if(a.flat 4&&b.flat 4)=true then some (a.same b)else none)=some r:=e
     split at e
     ·rename_i hf
      refine xA (ju.mp hf) λf1 f2=> ?_
      obtain rfl:=aq e
      exact .inr (.inr (.inr (.inr ⟨f1,f2,rfl⟩)))
     ·exact am e
theorem Fg{Q:ae->ah->Prop}{va vb:ae}{a b:PV}{r:Bool}(e:lM a b=some r)(ra:Rep W X s.heap va a)(rb:Rep W X s.heap vb b)(hu:A.units<=9000)
  (h:Q (.bool r) s):wpAny W.M A (compareOp .Eq va vb) Q E s:=by
 have hc:A.units<cLine:=bU (bf _ _) (jM hu)
 rcases xJ e with ⟨x,y,rfl,rfl,rfl⟩|⟨x,y,rfl,rfl,rfl⟩|⟨x,rfl,rfl,rfl⟩|⟨xs,rfl,rfl,rfl⟩|⟨f1,f2,rfl⟩
 ·obtain rfl:=ra.boolI;obtain rfl:=rb.boolI;exact eq_bool h
 ·refine ra.strE λø ø zq2 zq3=> ?_;subst zq2 zq3
  refine rb.strE λø ø zq2 zq3=> ?_;subst zq2 zq3
  exact PySem.P.eq_str h
 ·refine ra.tupE λt o vs n zq4 e1 c1 d1 n1 r1=> ?_;subst zq4
  refine rb.tupE λt2 o2 ws k zq4 e2 c2 d2 n2 r2=> ?_;subst zq4
  have z2:=eE r2
  refine SeqAt.RcAt.tuples (e:=λø=>true) ⟨_,e1,c1,_,d1⟩ ⟨_,e2,c2,_,d2⟩ hc (λj j1 j2=>by rw[z2]at j2;exact absurd j2 (oP _)) _ _ E Q ?_
  rw[z2,mJ,xF (eE r1)];exact h
 ·refine ra.lisE λt o vs n zq4 e1 c1 d1 n1 r1=> ?_;subst zq4
  refine rb.lisE λt2 o2 ws k zq4 e2 c2 d2 n2 r2=> ?_;subst zq4
  have z2:=eE r2
  have z1:=eE r1
  cases xs with
  |nil=>
   refine SeqAt.RcAt.lists (e:=λø=>true) ⟨_,e1,c1,_,d1⟩ ⟨_,e2,c2,_,d2⟩ (by rw[z1,z2]) hc (λj j1 j2=>by rw[z2]at j2;exact absurd j2 (oP _)) _ _ E Q ?_
   rw[z1];exact h
  |cons x xs=>
   exact SeqAt.RcAt.lists_lengths ⟨_,e1,c1,_,d1⟩ ⟨_,e2,c2,_,d2⟩ (by rw[z1,z2];rfl) hc _ _ E Q h
 ·exact Fc ra rb f1 f2 hu h
theorem Fh{Q:ae->ah->Prop}{va vb:ae}{a b:PV}{r:Bool}(e:lM a b=some r)(ra:Rep W X s.heap va a)(rb:Rep W X s.heap vb b)(hu:A.units<=9000)
  (h:Q (.bool !r) s):wpAny W.M A (compareOp .NotEq va vb) Q E s:=by
 have hc:A.units<cLine:=bU (bf _ _) (jM hu)
 rcases xJ e with ⟨x,y,rfl,rfl,rfl⟩|⟨x,y,rfl,rfl,rfl⟩|⟨x,rfl,rfl,rfl⟩|⟨xs,rfl,rfl,rfl⟩|⟨f1,f2,rfl⟩
 ·obtain rfl:=ra.boolI;obtain rfl:=rb.boolI;exact ne_bool h
 ·refine ra.strE λø ø zq2 zq3=> ?_;subst zq2 zq3
  refine rb.strE λø ø zq2 zq3=> ?_;subst zq2 zq3
  exact PySem.P.ne_str h
 ·refine ra.tupE λt o vs n zq4 e1 c1 d1 n1 r1=> ?_;subst zq4
  refine rb.tupE λt2 o2 ws k zq4 e2 c2 d2 n2 r2=> ?_;subst zq4
  have z2:=eE r2
  refine SeqAt.RcNeAt.tuples (e:=λø=>true) ⟨_,e1,c1,_,d1⟩ ⟨_,e2,c2,_,d2⟩ hc (λj j1 j2=>by rw[z2]at j2;exact absurd j2 (oP _)) _ _ E Q ?_
  rw[z2,mJ,xF (eE r1)];exact h
 ·refine ra.lisE λt o vs n zq4 e1 c1 d1 n1 r1=> ?_;subst zq4
  refine rb.lisE λt2 o2 ws k zq4 e2 c2 d2 n2 r2=> ?_;subst zq4
  have z2:=eE r2
  have z1:=eE r1
  cases xs with
  |nil=>
   refine SeqAt.RcNeAt.lists (e:=λø=>true) ⟨_,e1,c1,_,d1⟩ ⟨_,e2,c2,_,d2⟩ (by rw[z1,z2]) hc (λj j1 j2=>by rw[z2]at j2;exact absurd j2 (oP _)) _ _ E Q ?_
   rw[z1];exact h
  |cons x xs=>
   exact SeqAt.RcNeAt.lists_lengths ⟨_,e1,c1,_,d1⟩ ⟨_,e2,c2,_,d2⟩ (by rw[z1,z2];rfl) hc _ _ E Q h
 ·exact Fd ra rb f1 f2 hu h
theorem xK{v:PV}(h:fX v=true):v= .none:=by
 cases v with
 |none=>rfl
 |_=>exact bZ h
theorem Fi{Q:ae->ah->Prop}{va vb:ae}{a b:PV}{r:Bool}(e:sK a b=some r)(ra:Rep W X s.heap va a)(rb:Rep W X s.heap vb b)(hu:A.units<=9000)
  (h:Q (.bool r) s):wpAny W.M A (compareOp .In va vb) Q E s:=by
 have hroom:∀n m:Nat,n<=5->A.units+1+min n m<cLine:=λn m hn=>by
  have:=jM hu
  have:=rB n m
  exact bU (d7 (aj this hn) (A.units+1)) (bU (d7 (n:=6) (m:=65) (bz rfl) A.units) (jM hu))
 unfold sK at e
 cases h1:iZ a b with
 |some p=>
  obtain⟨x,y⟩:=p
  rw[h1]at e;obtain rfl:=aq e
  refine rY (xG h1 ra rb) λx' t y' u zq4 zq5 zq6 zq7=> ?_;subst zq4 zq5 zq6 zq7
  refine SB.contains ?_
  rw[xy];exact h
 |none=>
  cases h2:kC b with
  |some ys=>
   rw[h1,h2]at e
   obtain rfl:=pw h2
   have e:(if(a.flat 4&&ys.all (PV.flat 4))=true then some (ys.any λy=>y.same a)else none)=some r:=e
   split at e
   ·rename_i hf
    refine xA (ju.mp hf) λf1 f2=> ?_
    obtain rfl:=aq e
    have f2':=ba.mp f2
    refine xE (Fe rb f2') λas qc=> ?_
    refine xE (ra.reads 4 f1) λbs qx=> ?_
    have l:=xC _ f2'
    refine SeqAt.in_list_reads qc qx l.1 (nG 4 _ f1).1 (hroom _ _ l.2) ?_
    rw[xz];exact h
   ·exact am e
  |none=>
   cases h3:kF b with
   |some ys=>
    rw[h1,h2,h3]at e
    obtain rfl:=xt h3
    have e:(if(a.flat 4&&ys.all (PV.flat 4))=true then some (ys.any λy=>y.same a)else none)=some r:=e
    split at e
    ·rename_i hf
     refine xA (ju.mp hf) λf1 f2=> ?_
     obtain rfl:=aq e
     have f2':=ba.mp f2
     refine xE (Ff rb f2') λas qc=> ?_
     refine xE (ra.reads 4 f1) λbs qx=> ?_
     have l:=xC _ f2'
     refine SeqAt.in_tuple_reads qc qx l.1 (nG 4 _ f1).1 (hroom _ _ l.2) ?_
     rw[xz];exact h
    ·exact am e
   |none=>rw[h1,h2,h3]at e;exact am e
theorem kM{Q:ae->ah->Prop}{op:fi}{va vb:ae}{a b:PV}{r:Bool}(e:kG op a b=some r)(ra:Rep W X s.heap va a)(rb:Rep W X s.heap vb b)(hu:A.units<=9000)
  (h:Q (.bool r) s):wpAny W.M A (compareOp op va vb) Q E s:=by
 cases op with
 |Eq=>exact Fg e ra rb hu h
 |NotEq=>obtain⟨z,e2,rfl⟩:=mI.mp e;exact Fh e2 ra rb hu h
 |Lt=>obtain⟨p,h1,rfl⟩:=mI.mp e;obtain⟨t,u,rfl,rfl⟩:=pC h1 ra rb;exact PyProof.Rows.lt_int h
 |LtE=>obtain⟨p,h1,rfl⟩:=mI.mp e;obtain⟨t,u,rfl,rfl⟩:=pC h1 ra rb;exact PyProof.Rows.le_int h
 |Gt=>obtain⟨p,h1,rfl⟩:=mI.mp e;obtain⟨t,u,rfl,rfl⟩:=pC h1 ra rb;exact PyProof.Rows.gt_int h
 |GtE=>obtain⟨p,h1,rfl⟩:=mI.mp e;obtain⟨t,u,rfl,rfl⟩:=pC h1 ra rb;exact PyProof.Rows.ge_int h
 |Is=>
  have e:(if fX b=true then some (fX a)else none)=some r:=e
  split at e
  ·rename_i hb
   obtain rfl:=aq e
   obtain rfl:=xK hb
   obtain rfl:=rb.noneI
   exact PyProof.Rows.is_none_gen ((xH ra)▸h)
  ·exact am e
 |IsNot=>
  have e:(if fX b=true then some (!fX a)else none)=some r:=e
  split at e
  ·rename_i hb
   obtain rfl:=aq e
   obtain rfl:=xK hb
   obtain rfl:=rb.noneI
   exact PyProof.Rows.isnot_none_gen ((xH ra)▸h)
  ·exact am e
 |In=>exact Fi e ra rb hu h
 |NotIn=>
  refine eZ e λzn2 h1 zq2=> ?_;subst zq2
  obtain⟨x,y⟩:=zn2
  refine rY (xG h1 ra rb) λx' t y' u zq4 zq5 zq6 zq7=> ?_;subst zq4 zq5 zq6 zq7
  refine SB.notContains ?_
  rw[xy];exact h
end
end
section
section
variable{W:Wd}{X:Addr->Prop}{A:aA}{s:ah}{E:ae->ah->Prop}
theorem gt:aX=1048576:=by decide
theorem tH{Q:Bool->ah->Prop}(I:Inv W s){v:ae}{p:PV}{r:Bool}(e:ee p=some r)(ra:Rep W X s.heap v p)(h:∀s',After W X s s'->Q r s'):wpAny W.M A (truthy v) Q E s:=by
 have h63:(2:Int)^63=9223372036854775808:=by decide
 have ht:=gt
 cases ra with
 |none=>obtain rfl:=aq e;exact truthy_none (h _ (After.refl I))
 |bool b=>obtain rfl:=aq e;exact Dc (h _ (After.refl I))
 |int i t=>obtain rfl:=aq e;exact PyProof.Rows.truthy_int (h _ (After.refl I))
 |str x t=>
  simp only[ee]at e
  split at e
  ·rename_i hl
   obtain rfl:=aq e
   rw[b7]at hl
   refine PySem.P.truthy_str (Int.not_le.mpr (zl hl (by decide+kernel))) ?_
   have q:((x.length:Int) !=0)= !(ao x).isEmpty:=by
    rw[<-b7]
    cases ao x with
    |nil=>rfl
    |cons c r=>rw[gE,List.isEmpty_cons,Bool.not_false,bne_iff_ne];exact λh=>Dd _ (vZ h)
   rw[q];exact h _ (After.tok I)
  ·exact am e
 | @tuple t o vs n xs e1 c1 d1 n1 r1=>
  simp only[ee]at e
  split at e
  ·rename_i hl
   obtain rfl:=aq e
   have z:=eE r1
   refine truthy_tuple ⟨_,e1,c1,_,d1⟩ (zl (kz z hl) (by decide+kernel)) ?_
   have q:(!vs.isEmpty)= !xs.isEmpty:=by
    cases xs with
    |nil=>rw[mJ]at z;simp[v0,z]
    |cons c r=>rw[gE]at z;simp[v0,z]
   rw[q];exact h _ (After.tok I)
  ·exact am e
 | @list t o vs n xs e1 c1 d1 n1 r1=>
  simp only[ee]at e
  split at e
  ·rename_i hl
   obtain rfl:=aq e
   have z:=eE r1
   refine wpAny_truthy_list ⟨_,e1,c1,_,d1⟩ (zl (kz z hl) (by decide+kernel)) ?_
   have q:(!vs.isEmpty)= !xs.isEmpty:=by
    cases xs with
    |nil=>rw[mJ]at z;simp[v0,z]
    |cons c r=>rw[gE]at z;simp[v0,z]
   rw[q];exact h _ (After.tok I)
  ·exact am e
 |inst=>exact am e
theorem jN{value slice:ai}{o i:ae}{T id:String}{ops:List ae}{Q:ae->ah->Prop}(hT:s.TypeIs o T)
  (hl:typeLookup (.type T) "__getitem__" =pure (some (.builtin id))) (h:wpAny W.M A (getItem o i) Q E s)
  (hs:subscripted slice false o i=operate ops (getItem o i)):wpAny W.M A (subscriptTail value slice o i) Q E s:=by
 unfold subscriptTail
 refine aJ ?_
 rw[getitemInPython_of_ne hT.not_modules]
 refine aJ (De hT hl ?_)
 have fin:wpAny W.M A (subscripted slice false o i) (λr s₃=>wpAny W.M A (letTemporaryGo value o r>>=λø=>pure r) Q E s₃) E s:=by
  exact(hs)▸wpAny_operating (fQ h (λr s₃ h₃=>aJ (wpAny_letTemporaryGo (bk h₃))) λø ø x=>x)
 first
  |exact bk (aJ fin)
  |exact aJ (bk (aJ fin))
  |exact aJ fin
theorem Fj(x:Str)(i:Int)(h0:0<=i)(h:i.toNat<x.length):Txt.charAt x i=(ao x)[i.toNat]? :=by
 unfold Txt.charAt
 have:seqIndex? i x.length=some i.toNat:=by
  unfold seqIndex?
  simp only
  have h1:¬i<0:=vQ.mpr h0
  simp only[h1,if_false]
  have h2:¬(i<0 \/i≥(x.length:Int)):=not_or.mpr ⟨h1,Int.not_le.mpr ((vP h0).mp h)⟩
  first
   |rw[if_neg h2]
   |(simp only[h1,false_or]at h2 ⊢;simp;exact⟨h0,(vP h0).mp h⟩)
   |(simp;lia)
 rw[this]
 simp[ao]
theorem xM{h:Heap}{vs:Array ae}{xs:List PV}{k:Int}{r:PV}(r1:a8 W X h vs.toList xs)(e:i3 xs k=some r):
  ∃v,Rep W X h v r/\ ((0<=k/\ k<=aX/\ vs[k.toNat]? =some v) \/(k= -1/\ 0<vs.size/\ vs[vs.size-1]? =some v)):=by
 by_cases hk:0<=k/\ k<=aX
 ·rw[i3,if_pos hk]at e
  refine ay (r1.get e) λv hv rv=> ?_
  exact⟨v,rv, .inl ⟨hk.1,hk.2,by rw[<-hv,Pu]⟩⟩
 ·rw[i3,if_neg hk]at e
  refine xA (kL e) λhk1 e=> ?_
  rw[List.getLast?_eq_getElem?]at e
  refine ay (r1.get e) λv hv rv=> ?_
  have z:=eE r1
  refine⟨v,rv, .inr ⟨hk1,?_,by rw[z,<-hv,Pu]⟩⟩
  rw[z]
  cases xs with
  |nil=>exact am e
  |cons=>exact gB _
theorem Fk{n:Nat}{k:Int}(h:0<=k)(l:k.toNat<n):seqIndex? k n=some k.toNat:=by
 exact sz ((if_neg (vQ.mpr h)).trans (rE h).symm) l
theorem Fl{n:Nat}(h:0<n):seqIndex? (-1) n=some (n-1):=by
 exact sz ((if_pos (by decide)).trans (zm h)) (vO h (gB 0))
theorem Fm{α:Type}{vs:Array α}{k:Nat}{v:α}(h:vs[k]? =some v):k<vs.size:=by
 refine cr (oN k vs.size) (λq=> ?_) (λq=> ?_)
 ·exact q
 ·rw[v3 q]at h;exact am h
theorem xN{Q:ae->ah->Prop}(I:Inv W s){value slice:ai}{va vi:ae}{a i r:PV}(e:fu a i=some r)(ra:Rep W X s.heap va a)(ri:Rep W X s.heap vi i)
  (hs:∀o i,subscripted slice false o i=operate [o,i] (getItem o i))
  (h:∀v s',After W X s s'->Rep W X s'.heap v r->Q v s'):wpAny W.M A (subscriptTail value slice va vi) Q E s:=by
 have ht:=gt
 have h63:(2:Int)^63=9223372036854775808:=by decide
 cases a with
 |str xs=>
  refine bl e λk e1 e=> ?_
  refine xA (kL (c:=0<=k/\ k<=aX) e) λhk e=> ?_
  refine eZ e λc hc0 zq2=> ?_;subst zq2
  refine ra.strE λx t zq2 zq3=> ?_;subst zq2 zq3
  refine xE (nz e1 ri) λu zq1=> ?_;subst zq1
  have hlt:k.toNat<(ao x).length:=(v4.mp hc0).1
  have hc:=(Fj x k hk.1 (by rw[<-b7];exact hlt)).trans hc0
  refine jN (oQ s x t) Pv.lookup (SB.getItem ?_ (by rw[hc];rfl) ?_) (hs _ _)
  ·unfold fitsSsize
   simp
   exact⟨jr (by decide) hk.1,oA hk.2 (by decide+kernel)⟩
  ·have:Txt.item x k=⟨#[c]⟩:=by unfold Txt.item;rw[hc];rfl
   exact(this)▸h _ _ (After.tok I) (.str ⟨#[c]⟩ _)
 |tuple xs=>
  refine bl e λk e1 e=> ?_
  refine ra.tupE λt o vs n zq4 e2 c1 d1 n1 r1=> ?_;subst zq4
  refine xE (nz e1 ri) λu zq1=> ?_;subst zq1
  have hT:IsTup s.heap t vs:=⟨_,e2,c1,_,d1⟩
  obtain⟨v,rv,⟨p0,p1,hv⟩|⟨rfl,p0,hv⟩⟩:=xM r1 e
  ·exact jN hT.typeIs rF.lookup (getItem_tuple hT (jr (by decide) p0) (oA p1 (by decide+kernel)) (Fk p0 (Fm hv)) hv (h _ _ (After.refl I) rv)) (hs _ _)
  ·exact jN hT.typeIs rF.lookup (getItem_tuple hT (by decide) (by decide) (Fl p0) hv (h _ _ (After.refl I) rv)) (hs _ _)
 |list xs=>
  refine bl e λk e1 e=> ?_
  refine ra.lisE λt o vs n zq4 e2 c1 d1 n1 r1=> ?_;subst zq4
  refine xE (nz e1 ri) λu zq1=> ?_;subst zq1
  have hT:s.heap.IsList t vs:=⟨_,e2,c1,_,d1⟩
  obtain⟨v,rv,⟨p0,p1,hv⟩|⟨rfl,p0,hv⟩⟩:=xM r1 e
  ·exact jN hT.typeIs Df.lookup (wpAny_getItem_list hT p0 (oA p1 (by decide+kernel)) hv (h _ _ (After.refl I) rv)) (hs _ _)
  ·refine jN hT.typeIs Df.lookup (wpAny_getItem_list_neg hT (by decide) (wW p0) (by decide) ?_ (h _ _ (After.refl I) rv)) (hs _ _)
   exact(congrArg Int.toNat (zm p0):((-1:Int)+vs.size).toNat=vs.size-1)▸hv
 |_=>exact am e
end
end
section
noncomputable def fc:Option Nat->Nat
 |none=>0
 |some l=>l
noncomputable def gb(n:Nat):Option Nat->Nat
 |none=>n
 |some u=>min u n
theorem pD(n:Nat)(up:Option Nat):gb n up<=n:=by cases up with
 |none=>exact bP n
 |some u=>exact mG u n
theorem xO(lo up:Option Nat)(n:Nat):strSliceIndices (lo.map gn) (up.map gn) 1 n=strSliceIndices (some (min (fc lo) n:Nat)) (some (gb n up:Nat)) 1 n:=by
 show sliceRange _ _ 1=sliceRange (max 0 (min (if((min (fc lo) n:Nat):Int)<0 then((min (fc lo) n:Nat):Int)+n else(min (fc lo) n:Nat)) n)) (max 0 (min (if((gb n up:Nat):Int)<0 then((gb n up:Nat):Int)+n else(gb n up:Nat)) n)) 1
 rw[jC,jC,Nat.min_assoc,Nat.min_self,Dg (pD n up)]
 cases lo<;>cases up
 ·exact(congrArg (sliceRange · _ 1) (congrArg gn (Nat.zero_min n)).symm)
 ·exact((congrArg (sliceRange · _ 1) (congrArg gn (Nat.zero_min n)).symm).trans (congrArg (sliceRange _ · 1) (jC _ n)))
 ·exact congrArg (sliceRange · _ 1) (jC _ n)
 ·exact(congrArg (sliceRange · _ 1) (jC _ n)).trans (congrArg (sliceRange _ · 1) (jC _ n))
theorem tI{α:Type}(xs:List α)(lo up:Option Nat):fY xs lo up=(xs.drop (fc lo)).take (gb xs.length up-fc lo):=by
 have e:∀u:Nat,xs.take u=xs.take (min u xs.length):=λu=>by
  rw[<-List.take_take,Dh]
 cases lo with
 |none=>
  cases up with
  |none=>simp[fY,fc,gb]
  |some u=>simp only[fY,fc,gb,gD,rG];exact e u
 |some l=>
  cases up with
  |none=>
   simp only[fY,fc,gb]
   rw[Di (by simp)]
  |some u=>
   simp only[fY,fc,gb]
   rw[e u,Dj]
theorem xP(a b n:Nat)(h:¬min a n<=b):strSliceIndices (some ((min a n:Nat):Int)) (some (b:Int)) 1 n=[]:=by
 show sliceRange (max 0 (min (if((min a n:Nat):Int)<0 then((min a n:Nat):Int)+n else(min a n:Nat)) n)) (max 0 (min (if(b:Int)<0 then(b:Int)+n else b) n)) 1=[]
 rw[jC,jC,Nat.min_assoc,Nat.min_self]
 unfold sliceRange
 rw[if_pos (by decide),if_neg (λq=>h (dz (di (mF.mp q) (rB b n))))]
 rfl
theorem Fo(x:Str)(lo up:Option Nat):(strSliceIndices (lo.map gn) (up.map gn) 1 x.length).filterMap (x.cps[·]?)=fY (ao x) lo up:=by
 rw[xO,tI,b7]
 by_cases h:min (fc lo) x.length<=gb x.length up
 ·rw[StrLaws.sliced_plain x h (pD x.length up)]
  show List.take _ (List.drop _ (ao x))=_
  rcases Nat.le_total (fc lo) x.length with q|q
  ·rw[Dg q]
  ·rw[Nat.min_eq_right q]
   have l:=b7 x
   rw[rH (bG l),rH (kz ‹_› ‹_›)]
   simp
 ·have h1:gb x.length up-fc lo=0:=Dk (aj (dz (Nat.lt_of_not_le h)) (rB _ _))
  rw[h1,List.take_zero,xP _ _ _ h];rfl
theorem Fp(n:Nat)(lo up:Option Nat):(strSliceIndices (lo.map gn) (up.map gn) 1 n).length=gb n up-min (fc lo) n:=by
 rw[xO]
 by_cases h:min (fc lo) n<=gb n up
 ·rw[StrLaws.strSliceIndices_plain h (pD n up)];simp
 ·rw[xP _ _ _ h];exact(Dk (dz (Nat.lt_of_not_le h))).symm
section
variable{W:Wd}{X:Addr->Prop}{A:aA}{s:ah}{E:ae->ah->Prop}
theorem Fq{Q:ae->ah->Prop}(I:Inv W s){x:Str}{t:bE}{a:Addr}{l u:Option (Int×bE)}{lo up:Option Nat}(hl:l.map (·.1)=lo.map gn)(hu:u.map (·.1)=up.map gn)
  (hs:s.heap.IsSlice a l u none) (hz:x.length<=sizeLine) (h:∀v s',After W X s s'->Rep W X s'.heap v (.str (fY (ao x) lo up))->Q v s'):wpAny W.M A (getItem (.str x t) (.ref a)) Q E s:=by
 refine wpAny_getItem_str_slice hs rfl ?_
 have hp:slicePicked x l u none=strSliceIndices (lo.map gn) (up.map gn) 1 x.length:=by
  unfold slicePicked
  rw[hl,hu];rfl
 have pk:=Fo x lo up
 unfold sliceMade
 rw[hp]
 split
 ·rename_i hq
  have hq':(strSliceIndices (lo.map gn) (up.map gn) 1 x.length).length=x.length:=by simpa using hq
  rw[Fp]at hq'
  have hu':=pD x.length up
  have c2:(ao x).length=x.length:=b7 x
  have:fY (ao x) lo up=ao x:=by
   rw[tI,c2]
   by_cases hx:x.length=0
   ·have:ao x=[]:=oR ‹_›
    rw[this];simp
   ·have z:fc lo=0:=Ek hq' hu' hx
    rw[z,gD,rG,Di (aj (bG (c2.trans hq'.symm)) (cM _ _))]
  refine h _ _ (After.refl I) ?_
  rw[this];exact .str _ _
 ·refine⟨?_,?_⟩
  ·skip
   rw[<-b7,E7,pk,tI,jw,eu,b7]
   exact aj (mG _ _) (aj (cM _ _) hz)
  ·refine h _ _ (After.tok I) ?_
   exact(pk)▸ .str ⟨_⟩ _
end
end
section
open AutoSeq1 (wpAny_loadPart')
open PySem.Builtin in
theorem Fs:Meets (Builtin.«tuple.__new__» ⟨[.type "tuple"],[]⟩)
   (λø R s=>R (.ok (.ret (.ref s.heap.objs.size))) {s with heap:=s.heap.push {cls:= .type "tuple",data:= .seq #[]}}):=
 .of_wp λprog w A R s h=>by
  obtain⟨hp,g,d,tk,os⟩:=s
  have hsub:=sub_tuple_self
  have hinit:=init_tuple_lookup
  have hmh:=madeHere_tuple
  wp_walk
  all_goals exact⟨_,rfl,h⟩
noncomputable def Qj:List aY:=[.tup, .bas]
noncomputable def blt:List Str:=["len", "int", "str", "repr", "tuple", "list", "any", "isinstance", "ValueError", "type", "super", "range"]
structure aZ(W:Wd):Prop where
 kin:W.K.In W.base
 g:W.base.Ns mainGlobals W.mg
 b:W.base.Ns builtinsNs W.mb
 mbv:∀x:Str,x≠ "__name__" ->W.mb x=bootBuiltins x
 nolimit:W.base.NoLimit
 nogl:∀x∈blt,W.mg x=none
 tupN:W.mg "TupleType" =some (.ref (W.clsA .tup))
 basN:W.mg "BasicType" =some (.ref (W.clsA .bas))
 kit:∀c d:aY,kitOne W.K (.ref (W.clsA c)) (.ref (W.clsA d))=some (c==d)
 kitS:∀c:aY,kitOne W.K (.ref (W.clsA c)) (.type "str")=some false
 pget:∀c:aY,plainGet W.K (W.clsA c) "__class__" =true
 hdict:∀c:aY,hasDictIn W.K (W.clsA c)=true
 fcls:∀c:aY,findIn W.K (.ref (W.clsA c)) "__class__" =some (some (.builtin "object.__class__"))
 scls:specialIn W.K (.builtin "object.__class__") "__get__" =some (some (.builtin "getset_descriptor.__get__"))
 tcls:takesIn W.K (.builtin "object.__class__")=some true
 mcls:∀c:aY,mroIn W.K (W.clsA c) (.type "object")=some true
 ga:∀c:aY,findIn W.K (.ref (W.clsA c)) "__getattribute__" =some (some (.builtin "object.__getattribute__"))
 fld:∀c:aY,∀a∈dP,findIn W.K (.ref (W.clsA c)) a=some none
 bfor:∀(A:aA) (s:ah) (Q:Addr->ah->Prop) (E:ae->ah->Prop),Inv W s->Q builtinsNs s->wpAny W.M A (builtinsFor mainGlobals builtinsNs) Q E s
 tabInj:∀q∈W.tabs,∀q'∈W.tabs,q.2=q'.2->q=q'
 cd:∀c:aY,∃cd,clsIn W.K (W.clsA c)=some cd/\ cd.hasDict=true
section
variable{W:Wd}{X:Addr->Prop}{A:aA}{s:ah}{E:ae->ah->Prop}
theorem Inv.kin(O:aZ W)(I:Inv W s):W.K.In s.heap:=O.kin.keeps I.stays
theorem Inv.g(O:aZ W)(I:Inv W s):s.heap.Ns mainGlobals W.mg:=O.g.keeps I.stays
theorem Inv.b(O:aZ W)(I:Inv W s):s.heap.Ns builtinsNs W.mb:=O.b.keeps I.stays
theorem Inv.nolimit(O:aZ W)(I:Inv W s):s.heap.NoLimit:=O.nolimit.keeps I.stays
theorem kN{h:Heap}{x d C:Addr}{es:List eU}{n:Nat}(h1:h.get? x=some (instObj C d))(h2:h.get? d=some (dictOf es n)):PySem.W.InstAt h x (instObj C d) C (some (dictOf es n)):=
 ⟨h1,rfl,rfl,h2⟩
theorem Ft{Q:ae->ah->Prop}(O:aZ W)(I:Inv W s){v:ae}{p:PV}{t:Str}{r:Bool}(e:dO p t=some r)(ra:Rep W X s.heap v p)(h:∀s',After W X s s'->Q (.bool r) s'):
  ∃tv,((t= "str" /\ tv= .type "str") \/(t= "int" /\ tv= .type "int") \/(t= "tuple" /\ tv= .type "tuple") \/(t= "TupleType" /\ tv= .ref (W.clsA .tup)) \/(t= "BasicType" /\ tv= .ref (W.clsA .bas)))/\
   wpAny W.M A (call (.builtin "isinstance") [v,tv]) Q E s:=by
 have fin:∀b,b=r->∀tk,Q (.bool b) {s with toks:=tk}:=λb e tk=>e▸h _ (After.tok I)
 have own:∀{x d:Addr} {c:aY} {es:List eU} {n:Nat} (_:s.heap.get? x=some (instObj (W.clsA c) d)) (_:s.heap.get? d=some (dictOf es n)) (k:ae) (b:Bool),kitOne W.K (.ref (W.clsA c)) k=some b->b=r->
   wpAny W.M A (call (.builtin "isinstance") [.ref x,k]) Q E s:=λ{x d c es n} e1 e2 k b hk hb=>
  kia_one (kitx_own (O.pget c) (O.hdict c) (O.fcls c) O.scls O.tcls (O.mcls c)) (I.kin O) (kN e1 e2) hk (by simp) (fin b hb)
 unfold dO at e
 split at e
 ·rename_i ht
  refine⟨.type "str", .inl ⟨ht,rfl⟩,?_⟩
  cases p with
  |str y=>refine ra.strE λx u zq zr=> ?_;subst zq zr;obtain rfl:=aq e;exact IsiPair.str_str (h _ (After.refl I))
  |inst c fs=>refine ra.instE λx d es n zq e1 e2 ø ø ø=> ?_;subst zq;obtain rfl:=aq e;exact own e1 e2 _ false (O.kitS _) rfl
  |_=>exact am e
 ·split at e
  ·rename_i ht
   refine⟨.type "int", .inr (.inl ⟨ht,rfl⟩),?_⟩
   cases p with
   |int i=>obtain⟨u,rfl⟩:=ra.intI;obtain rfl:=aq e;exact IsiPair.int_int (h _ (After.refl I))
   |none=>obtain rfl:=ra.noneI;obtain rfl:=aq e;exact IsiPair.NoneType_int (h _ (After.tok I))
   |tuple xs=>refine ra.tupE λa o ws n zq e1 c1 ø ø ø=> ?_;subst zq;obtain rfl:=aq e;exact IsiPair.tuple_int e1 c1 (h _ (After.tok I))
   |_=>exact am e
  ·split at e
   ·rename_i ht
    refine⟨.type "tuple", .inr (.inr (.inl ⟨ht,rfl⟩)),?_⟩
    cases p with
    |int i=>obtain⟨u,rfl⟩:=ra.intI;obtain rfl:=aq e;exact IsiPair.int_tuple (h _ (After.tok I))
    |none=>obtain rfl:=ra.noneI;obtain rfl:=aq e;exact IsiPair.NoneType_tuple (h _ (After.tok I))
    |tuple xs=>refine ra.tupE λa o ws n zq e1 c1 ø ø ø=> ?_;subst zq;obtain rfl:=aq e;exact IsiPair.tuple_tuple e1 c1 (h _ (After.refl I))
    |_=>exact am e
   ·split at e
    ·rename_i ht
     refine⟨.ref (W.clsA .tup), .inr (.inr (.inr (.inl ⟨ht,rfl⟩))),?_⟩
     cases p with
     |inst c fs=>refine ra.instE λx d es n zq e1 e2 ø ø ø=> ?_;subst zq;exact own e1 e2 _ _ (O.kit _ _) (by cases c<;>exact aq e)
     |_=>exact am e
    ·split at e
     ·rename_i ht
      refine⟨.ref (W.clsA .bas), .inr (.inr (.inr (.inr ⟨ht,rfl⟩))),?_⟩
      cases p with
      |inst c fs=>refine ra.instE λx d es n zq e1 e2 ø ø ø=> ?_;subst zq;exact own e1 e2 _ _ (O.kit _ _) (by cases c<;>exact aq e)
      |_=>exact am e
     ·exact am e
end
end
section
theorem Fu(x l:List Nat):(l.take x.length==x)=x.isPrefixOf l:=by
 rw[rC,beq_iff_eq,lu,Pt]
 exact eq_comm
theorem pF(x y:Str)(i:Nat):subAt x y i=(ao y).isPrefixOf ((ao x).drop i):=by
 rw[StrLaws.subAt_eq,<-Fu,b7];rfl
theorem xQ{x l:List Nat}(h:x.isPrefixOf l=true):x.length<=l.length:=(lu.mp h).length_le
theorem Fv(x y:Str):Txt.startswith x y=(ao y).isPrefixOf (ao x):=by
 unfold Txt.startswith
 rw[pF,gD]
 cases h:(ao y).isPrefixOf (ao x)with
 |false=>simp
 |true=>have:=xQ h;rw[b7,b7]at this;simpa using this
theorem Fw(x y:Str):Txt.endswith x y=(ao y).isSuffixOf (ao x):=by
 unfold Txt.endswith
 rw[pF]
 have l1:=b7 x
 have l2:=b7 y
 rw[rC,aI,decide_eq_true_eq,lu,lw,List.suffix_iff_eq_drop,l1,l2]
 constructor
 ·intro zn1
  obtain⟨h1,h2⟩:=zn1
  have:=h2.eq_of_length (by rw[eu,l1,l2,v5 (eV y.length▸h1)])
  exact this
 ·intro h
  have h3:=congrArg vY h
  rw[eu]at h3
  refine⟨by rw[l1,l2]at h3;rw[eV,h3];exact cM _ _,?_⟩
  rw[<-h];exact List.prefix_refl _
theorem xR(x:List Nat):∀(s:List Nat) (k j:Nat),i5 x s k=some j->k<=j/\ x.isPrefixOf (s.drop (j-k))=true/\ ∀m,m<j-k->x.isPrefixOf (s.drop m)=false
 |[],k,j,h=>by
  unfold i5 at h
  split at h
  ·rename_i hx
   obtain rfl:=aq h
   simp at hx;subst hx
   simp
  ·exact am h
 |c::r,k,j,h=>by
  unfold i5 at h
  split at h
  ·rename_i hx
   obtain rfl:=aq h
   simp[hx]
  ·rename_i hx
   refine bM (xR x r (k+1) j h) λh1 h2 h3=> ?_
   have e:j-k=(j-(k+1))+1:=su ‹_›
   refine⟨aj (bf _ _) ‹_›,by rw[e];simpa using h2,λm hm=> ?_⟩
   cases m with
   |zero=>exact v6.mpr hx
   |succ m=>simpa using h3 m (Pw (Nat.lt_of_lt_of_eq hm e))
theorem Fx{x y:Str}{k:Nat}(h:i5 (ao y) (ao x) 0=some k):∃r,occurrences x y 0 x.length 1=k::r:=by
 refine bM (xR _ _ _ _ h) λø h2 h3=> ?_
 rw[rG]at h2 h3
 have at_k:StrLaws.At x y x.length k \/x.length<k:=by
  refine cr (oN x.length k) (λq=> ?_) (λq=> ?_)
  ·exact .inr q
  ·refine .inl ⟨?_,by rw[pF];exact h2⟩
   have:=xQ h2
   rw[eu,b7,b7]at this
   exact ir _ _▸Ph q this
 have at_k:StrLaws.At x y x.length k:=by
  refine cr (at_k) (λq=> ?_) (λq=> ?_)
  ·exact q
  ·exfalso
   have e:(ao x).drop k=[]:=rH (by rw[b7];exact dz ‹_›)
   rw[e]at h2
   have:=h3 x.length q
   rw[rH (by rw[b7];lia)]at this
   rw[this]at h2;exact bZ h2
 rcases StrLaws.occ_head x y 1 (bz (by rfl))with ⟨_,hn⟩|⟨i,r,e,ha,hn⟩
 ·exact absurd at_k (hn k)
 ·refine⟨r,?_⟩
  have:i=k:=by
   rcases Nat.lt_trichotomy i k with q|q|q
   ·have z:=h3 i q
    have:=ha.2
    rw[pF,z]at this;exact bZ this
   ·exact q
   ·exact absurd at_k (hn k q)
  rw[e,this]
theorem xS(c:Nat):∀w:List Nat,c∉w->bK c w=[w]
 |[],_=>rfl
 |d::r,h=>by
  rw[bS,not_or]at h
  rw[bK,if_neg (λe=>h.1 e.symm),xS c r h.2]
theorem xT(c:Nat)(r:List Nat):∀w:List Nat,c∉w->bK c (w++c::r)=w::bK c r
 |[],_=>by rw[v7,bK,if_pos rfl]
 |d::w,h=>by
  rw[bS,not_or]at h
  rw[mK,bK,if_neg (λe=>h.1 e.symm),xT c r w h.2]
theorem xU(c:Nat):∀ws:List (List Nat),ws≠[]->(∀w∈ws,c∉w)->bK c (aG [c] ws)=ws
 |[],h,_=>absurd rfl h
 |[w],_,k=>xS c w (k w (fR ..))
 |w::v::r,_,k=>by
  rw[aG,bY,List.singleton_append,xT c _ w (k w (fR ..)),xU c (v::r) (by simp) λu hu=>k u (dS _ hu)]
theorem pG(sep:Str):∀l:List Str,ao (Str.join sep l)=aG (ao sep) (l.map ao)
 |[]=>rfl
 |[x]=>rfl
 |x::y::r=>by
  show ao (x++sep++Str.join sep (y::r))=_
  rw[i9,i9,pG sep (y::r)];rfl
theorem Fy(x:Str)(c:Nat):(Txt.split x ⟨#[c]⟩).map ao=bK c (ao x):=by
 have e:ao x=aG [c] ((Txt.split x ⟨#[c]⟩).map ao):=by
  conv=>lhs;rw[<-(StrLaws.join_split x ⟨#[c]⟩)]
  rw[pG];rfl
 rw[e]
 refine(xU c _ ?_ ?_).symm
 ·intro q
  have h0:Txt.split x ⟨#[c]⟩=[]:=List.map_eq_nil_iff.mp q
  unfold Txt.split at h0
  split at h0
  ·exact m8 h0
  ·split at h0
   ·exact m8 h0
   ·have:=congrArg vY h0
    rw[length_partsBetween]at this
    simp at this
 ·intro w hw
  refine ay (iw.mp hw) λp hp zq2=> ?_;subst zq2
  exact(StrLaws.split_free x c) p hp
theorem pH:∀(s:List Nat) (a:Nat),(∀c∈s,48<=c)->s.foldl (λ(n:Int) (c:Nat)=>n*10+((c:Int)-48)) (a:Int)=((s.foldl (λacc c=>acc*10+(c-48)) a:Nat):Int)
 |[],_,_=>rfl
 |c::r,a,h=>by
  have hc:=h c (fR ..)
  rw[km,km,<-pH r _ λd hd=>h d (dS _ hd)]
  congr 1
  exact(congrArg (λz=>(a:Int)*10+z) (C1 hc)).symm
theorem Fz{x:Str}(h:(ao x).all bc=true)(h1:(ao x).isEmpty=false)(h2:(ao x).length<=300):PySem.intText? x=some (aM (ao x)):=by
 have hd:NumText.AllDigits x.cps.toList:=λc hc=>by
  have:=ba.mp h c hc
  simpa[bc] using this
 rw[PySem.intText_digits hd (by intro q;rw[ao,q]at h1;exact kA h1) (by rw[b7]at h2;exact aL ‹_› (by rfl))]
 congr 1
 have:=pH (ao x) 0 λc hc=>(hd c hc).1
 exact this.symm
end
section
section
variable{W:Wd}{X:Addr->Prop}{A:aA}{s:ah}{E:ae->ah->Prop}
theorem FA{h:Heap}{v:ae}{x:PV}{ps:List PV}{ws:List (List Nat)}(r:Rep W X h v x)(e:cV (x::ps)=some ws):∃y u zs,v= .str y u/\ cV ps=some zs/\ ws=ao y::zs:=by
 cases r with
 |str y u=>
  have e:(cV ps).map (ao y:: ·)=some ws:=e
  cases q:cV ps with
  |none=>rw[q]at e;exact am e
  |some zs=>rw[q]at e;obtain rfl:=aq e;exact⟨y,u,zs,rfl,rfl,rfl⟩
 |_=>exact am e
theorem FD{h:Heap}{vs:List ae}{xs:List PV}{ws:List (List Nat)}(r:a8 W X h vs xs)(e:cV xs=some ws):∃l:List (Str×bE),vs=strValues l/\ (l.map (·.1)).map ao=ws:=
 r.ind (M:=λvs xs=>∀ws,cV xs=some ws->∃l:List (Str×bE),vs=strValues l/\ (l.map (·.1)).map ao=ws) (λø e=>by obtain rfl:=aq e;exact⟨[],rfl,rfl⟩)
  (λa ø ih ws e=>by
   refine gH (FA a e) λy u zs zq3 q zq5=> ?_;subst zq3 zq5
   refine ay (ih _ q) λl e1 e2=> ?_
   exact⟨(y,u)::l,by rw[e1];rfl,by rw[<-e2];rfl⟩) ws e
theorem xV{h:Heap}:∀(l:List (Str×bE)),a8 W X h (strValues l) (((l.map (·.1)).map ao).map .str)
 |[]=> .nil
 |(x,t)::r=> .cons (.str x t) (xV r)
theorem xW(sep:Str):∀(l:List Str) (a:Nat),(l.foldl (λacc (p:Str)=>acc+p.length+sep.length) a)<=a+(aG (ao sep) (l.map ao)).length+sep.length
 |[],a=>aj (bf a _) (bf _ _)
 |[x],a=>by simp only[km,Dl,fm,rI,aG,b7];exact bP _
 |x::y::r,a=>by
  rw[km]
  have:=xW sep (y::r) (a+x.length+sep.length)
  rw[fm,fm,aG,cC,cC,b7,b7]
  rw[fm]at this
  exact aj this (bG (congrArg (· +sep.length) (by rw[gW,gW,gW])))
theorem xX{sep:Str}{l:List Str}(h:(ao sep).length+(aG (ao sep) (l.map ao)).length<=aX):JoinOk sep l=true:=by
 unfold JoinOk tooLong
 have h1:=xW sep l 0
 have h2:=f9
 rw[b7]at h
 simp only[lz,decide_eq_false_iff_not,List.foldl_toArray,gt_iff_lt]
 exact Nat.not_lt.mpr (aj h1 (aj (bG (by rw[eV,ir])) (aj h h2)))
noncomputable def iE(m:Str):String:=if m=aa "endswith" then "str.endswith" else if m=aa "startswith" then "str.startswith" else if m=aa "split" then "str.split" else if m=aa "index" then "str.index" else if m=aa "join" then "str.join" else ""
theorem xY:iE (aa "endswith")= "str.endswith" :=by decide+kernel
theorem xZ:iE (aa "startswith")= "str.startswith" :=by decide+kernel
theorem ya:iE (aa "split")= "str.split" :=by decide+kernel
theorem yb:iE (aa "index")= "str.index" :=by decide+kernel
theorem yc:iE (aa "join")= "str.join" :=by decide+kernel
theorem yd{m:Str}{x:Str}{t:bE}{pl:Sem Bool}(hm:i8.contains m=true){P:ae×List ae->ah->Prop}(hp:P (.builtin (iE m),[.str x t]) s):wpAny W.M A (getMethod (.str x t) m pl) P E s:=by
 have:m=aa "endswith" \/m=aa "startswith" \/m=aa "split" \/m=aa "index" \/m=aa "join" :=by
  simpa[i8] using hm
 rcases this with h|h|h|h|h<;>subst h
 ·rw[xY]at hp;exact GM.endswith hp
 ·rw[xZ]at hp;exact GM.startswith hp
 ·rw[ya]at hp;exact GM.split hp
 ·rw[yb]at hp;exact GM.index hp
 ·rw[yc]at hp;exact GM.join hp
theorem FE{Q:ae->ah->Prop}(I:Inv W s)(xl:fb X s){x:Str}{t u:bE}{c:Nat}(hz:(ao x).length<=aX)
  (h:∀v s',After W X s s'->Rep W X s'.heap v (.list ((bK c (ao x)).map .str))->Q v s'):
  wpAny W.M A (call (.builtin "str.split") [.str x t, .str ⟨#[c]⟩ u]) Q E s:=by
 have hsl:=f9
 rw[b7]at hz
 have hy:((⟨#[c]⟩:Str).length==0)=false:=rfl
 have hx:x.length<=sizeLine:=aj hz hsl
 have fin:∀(l:List (Str×bE)) (tk:Nat),l.map (·.1)=Txt.split x ⟨#[c]⟩->Q (.ref s.heap.objs.size) {s with toks:=tk,heap:=s.heap.push {cls:= .type "list",data:= .seq (strValues l).toArray}}:=λl tk hl=>by
  refine h _ _ (After.push I _) ?_
  rw[<-Fy,<-hl]
  exact tD xl (xV l)
 have hw:=split_weight x ⟨#[c]⟩ (bP 1)
 cases h1:(decide (x.length<(⟨#[c]⟩:Str).length)||decide (strKind x<strKind ⟨#[c]⟩))
 ·cases hf:(occurrences x ⟨#[c]⟩ 0 x.length (x.length+1)).isEmpty
  ·have hsp:Txt.split x ⟨#[c]⟩=partsBetween x (occurrences x ⟨#[c]⟩ 0 x.length (x.length+1)) (⟨#[c]⟩:Str).length:=by
    unfold Txt.split;rw[if_neg (by rw[h1];decide),if_neg (by rw[hf];decide)]
   refine call_meets Dm (oQ _ _ _) Dn (Do _ _) (meets_str_split_sep x _ t u h1 hy hf hx (by rw[<-hsp];have h9:aX+1<=sizeLine:=(by decide+kernel);exact aj (bV _ _) (aj hw (aj (er hz) h9)))) ?_
   rw[strsFrom_eq]
   exact fin (numbered s.toks _) _ ((numbered_texts _ _).trans hsp.symm)
  ·exact call_meets Dm (oQ _ _ _) Dn (Do _ _) (meets_str_split_not_found x _ t u h1 hy hf)
    (fin [(x,t)] s.toks ((if_neg (ne_true_of_eq_false h1)).trans (if_pos hf)).symm)
 ·exact call_meets Dm (oQ _ _ _) Dn (Do _ _) (meets_str_split_cannot_occur x _ t u h1)
   (fin [(x,t)] s.toks (if_pos h1).symm)
theorem FF{Q:ae->ah->Prop}(I:Inv W s)(xl:fb X s){m:Str}{x:Str}{t:bE}{a:PV}{va:ae}{r:PV}(e:nn m (ao x) a=some r)(ra:Rep W X s.heap va a)
  (h:∀v s',After W X s s'->Rep W X s'.heap v r->Q v s'):
  wpAny W.M A (call (.builtin (iE m)) [.str x t,va]) Q E s:=by
 unfold nn at e
 split at e
 ·rename_i hm;subst hm
  refine eZ e λy e1 zq2=> ?_;subst zq2
  refine dX (ny e1 ra) λy u zq2 zq3=> ?_;subst zq2 zq3
  rw[xY];exact SC.endswith (h _ _ (After.refl I) (by rw[Fw];exact .bool _))
 ·split at e
  ·rename_i hm;subst hm
   refine eZ e λy e1 zq2=> ?_;subst zq2
   refine dX (ny e1 ra) λy u zq2 zq3=> ?_;subst zq2 zq3
   rw[xZ];exact SC.startswith (h _ _ (After.refl I) (by rw[Fv];exact .bool _))
  ·split at e
   ·rename_i hm;subst hm
    refine bl e λy e1 e=> ?_
    refine dX (ny e1 ra) λy u zq2 zq3=> ?_;subst zq2 zq3
    cases hy:ao y with
    |nil=>rw[hy]at e;exact am e
    |cons c w=>
     rw[hy]at e
     refine xA (kL e) λhw e=> ?_
     refine xA (eA e) λhz zq1=> ?_;subst zq1
     rw[gY.mp hw]at hy
     obtain rfl:y=⟨#[c]⟩:=E6 hy
     rw[ya]
     exact FE I xl hz h
   ·split at e
    ·rename_i hm;subst hm
     refine bl e λy e1 e=> ?_
     refine dX (ny e1 ra) λy u zq2 zq3=> ?_;subst zq2 zq3
     refine eZ e λk q zq2=> ?_;subst zq2
     refine xE (Fx q) λrest ho=> ?_
     rw[yb];exact SC.index ho (h _ _ (After.tok I) (.int _ _))
    ·split at e
     ·rename_i hm;subst hm
      refine bl e λxs e1 e=> ?_
      refine bl e λws hws e=> ?_
      refine xA (eA e) λhlen zq1=> ?_;subst zq1
      rw[pw e1]at ra
      refine ra.lisE λa o vs' n zq4 e1 c1 d1 n1 r1=> ?_;subst zq4
      refine ay (FD r1 hws) λl hl1 zq2=> ?_;subst zq2
      rw[yc];refine SC.join (l:=l) ⟨_,e1,c1,_,by rw[d1,<-hl1]⟩ rfl (xX hlen) λt' k=>h _ _ (After.tok I) ?_
      have:aG (ao x) ((l.map (·.1)).map ao)=ao (Txt.join x (l.map (·.1))):=by
       unfold Txt.join;rw[Px,pG]
      rw[this];exact .str _ _
     ·exact am e
theorem ye{Q:ae->ah->Prop}(I:Inv W s)(xl:fb X s){m:Str}{x:Str}{t:bE}{args:List PV}{vs:List ae}{r:PV}(e:cn m (ao x) args=some r)(ra:a8 W X s.heap vs args)
  (h:∀v s',After W X s s'->Rep W X s'.heap v r->Q v s'):
  wpAny W.M A (call (.builtin (iE m)) (.str x t::vs)) Q E s:=by
 refine bl e λa e0 e=> ?_
 refine ay (tF e0 ra) λva zq1 rr=> ?_;subst zq1
 exact FF I xl e rr h
end
end
section
set_option exponentiation.threshold 2000
section
variable{W:Wd}{X:Addr->Prop}{A:aA}{s:ah}{E:ae->ah->Prop}
theorem FG(n:Nat)(hn:1<=n):Dp none (some (-1)) 1 (n:Int)=(0,((n-1:Nat):Int)):=by
 unfold Dp
 have h1:¬((1:Int)<0):=by decide
 have h2:((-1:Int)<0):=by decide
 simp only[h1,h2,if_false,if_true]
 congr 1
 exact Ej hn
theorem FH(n:Nat)(hn:1<=n):v8 0 ((n-1:Nat):Int) 1=n-1:=by
 unfold v8
 have h1:(1:Int)>0:=by decide
 simp only[h1,if_true,Int.ediv_one]
 exact El (n-1)
theorem FI{sl:Addr}{n:Nat}{u:bE}{Q:Int×Int×Nat->ah->Prop}(hs:s.heap.IsSliceOf sl .none (.int (-1) u) .none)(hn:1<=n)(h:Q (0,1,n-1) s):
  wpAny W.M A (Py (.ref sl) (pure (n:Int))) Q E s:=by
 refine bA (id hs) λos hos hcs hds=> ?_
 unfold Py Builtin.Slice.sliceFields
 refine aJ (aJ (rJ hos hds (x:= .none) rfl (aJ (rJ hos hds (x:= .int (-1) u) rfl (aJ (rJ hos hds (x:= .none) rfl (bk ?_)))))))
 refine aJ (slicePart_none ?_)
 rw[if_neg (by decide)]
 refine aJ (slicePart_none (aJ (slicePart_int (aJ (bk ?_)))))
 show wpAny _ _ (match Dp none (some (-1)) 1 (n:Int)with|(lo,hi)=>pure (lo,(1:Int),v8 lo hi 1)) _ _ s
 rw[FG n hn]
 show wpAny _ _ (pure ((0:Int),(1:Int),v8 0 ((n-1:Nat):Int) 1)) _ _ s
 rw[FH n hn]
 exact bk h
theorem FJ(xs:Array ae):((iU (xs.size-1)).filterMap λ(k:Nat)=>xs[((0:Int)+(k:Int)*1).toNat]?).toArray=(xs.toList.dropLast).toArray:=by
 have e:(λ(k:Nat)=>xs[((0:Int)+(k:Int)*1).toNat]?)=λk=>xs[0+k]? :=by
  funext k
  have:((0:Int)+(k:Int)*1).toNat=0+k:=ir _ _
  rw[this]
 rw[e]
 have:=pick_run xs 0 (xs.size-1)
 rw[List.filterMap_map]at this
 have e2:((λx=>xs[x]?)∘λx=>0+x)=λk=>xs[0+k]? :=rfl
 rw[e2]at this
 rw[this,gD,Dq,oO]
theorem FK{t sl:Addr}{items:Array ae}{u:bE}{Q:ae->ah->Prop}(ht:IsTup s.heap t items)(hs:s.heap.IsSliceOf sl .none (.int (-1) u) .none)(h1:1<=items.size)
  (h:Q (.ref s.heap.objs.size) {s with heap:=s.heap.push {cls:= .type "tuple",data:= .seq (items.toList.dropLast).toArray}})
  (hsz:items.size<=sizeLine):wpAny W.M A (getItem (.ref t) (.ref sl)) Q E s:=by
 have hdrop:sizeOk (.seq (items.toList.dropLast).toArray):=by
  show(items.toList.dropLast).toArray.size<=sizeLine
  rw[oS,Dr,oO]
  exact aj (cM _ _) ‹_›
 refine bA (id hs) λos hos hcs hds=> ?_
 have hTs:s.TypeIs (.ref sl) "slice" :=⟨os,hos,hcs⟩
 unfold getItem
 try with_reducible refine iV ?_
 first|refine aJ (bk ?_)|skip
 refine aJ (wpAny_sequenceKey ht.typeIs (by decide) ?_)
 refine aJ (wpAny_callSpecial?_slot (name:=aa "__getitem__") ht.typeIs rF
  (wpAny_call_entry rF ht.typeIs entry_tuple_getitem ?_ (args_tuple_getitem _ _)))
 show wpAny _ _ (Builtin.Tuple.tupleItemsOf (.ref t)>>=_) _ _ s
 refine aJ (tupleItemsOf_ ht ?_)
 refine aJ (wpAny_typeOf hTs ?_)
 rw[if_pos (by decide)]
 refine aJ (FI hs h1 ?_)
 have hno:¬(((0:Int)==0&&(1:Int)==1&&(items.size-1)==items.size)=true):=by
  have:((items.size-1)==items.size)=false:=by rw[beq_eq_false_iff_ne];exact Ed ‹_›
  rw[this];simp
 show wpAny _ _ (if((0:Int)==0&&(1:Int)==1&&(items.size-1)==items.size)=true then _ else _) _ _ s
 rw[if_neg hno,FJ items]
 first
  |exact aJ (m:=v9 _) (rK (bk ⟨_,rfl,bk h⟩) hdrop)
  |exact aJ (m:=v9 _) (rK (aJ (bk (bk ⟨_,rfl,bk h⟩))) hdrop)
  |exact aJ (aJ (m:=v9 _) (rK (bk (bk ⟨_,rfl,bk h⟩)) hdrop))
  |exact aJ (aJ (m:=v9 _) (rK (bk ⟨_,rfl,bk h⟩) hdrop))
theorem a8.dropLast{h:Heap}{vs:List ae}{ps:List PV}(r:a8 W X h vs ps):a8 W X h vs.dropLast ps.dropLast:=
 r.ind (M:=λvs ps=>a8 W X h vs.dropLast ps.dropLast) .nil λa b i=>by
  cases b with
  |nil=>exact .nil
  |cons=>exact .cons a i
theorem yf{h:Heap}{v:ae}{p:PV}{b:Option Nat}(e:gr p=some b)(r:Rep W X h v p):∃l:Option (Int×bE),v=partValue l/\ l.map (·.1)=b.map gn:=by
 cases p with
 |none=>obtain rfl:=aq e;obtain rfl:=r.noneI;exact⟨none,rfl,rfl⟩
 |int i=>
  refine xA (eA (c:=0<=i/\ i<=aX) e) λhi zq1=> ?_;subst zq1
  refine xE r.intI λt zq1=> ?_;subst zq1
  exact⟨some (i,t),rfl,congrArg some (rE hi.1).symm⟩
 |_=>exact am e
theorem FL{a:PV}(h:fX a=true):a= .none:=by
 cases a with
 |none=>rfl
 |_=>exact bZ h
theorem yg{Q:ae->ah->Prop}(I:Inv W s)(xl:fb X s){value slice:ai}{ops:List ae}{va vl vu:ae}{a l u r:PV}{sl:Addr}(e:gJ a l u=some r)
  (ra:Rep W X s.heap va a) (rl:Rep W X s.heap vl l) (ru:Rep W X s.heap vu u) (hsl:s.heap.get? sl=some {cls:= .type "slice",data:= .fields #[vl,vu, .none]})
  (hs:subscripted slice false va (.ref sl)=operate ops (getItem va (.ref sl)))
  (h:∀v s',After W X s s'->Rep W X s'.heap v r->Q v s'):wpAny W.M A (subscriptTail value slice va (.ref sl)) Q E s:=by
 have hsz:=f9
 cases a with
 |tuple xs=>
  refine xA (kL (c:=fX l=true) e) λhl e=> ?_
  refine bl e λi hi e=> ?_
  refine xA (kL (c:=i= -1) e) λzq0 e=> ?_;subst zq0
  refine xA (eA (c:=(!xs.isEmpty&&decide (xs.length<=aX))=true) e) λhx zq1=> ?_;subst zq1
  refine xE (nz hi ru) λt zq1=> ?_;subst zq1
  rw[FL hl]at rl
  obtain rfl:=rl.noneI
  refine ra.tupE λa o vs n zq4 e1 c1 d1 n1 r1=> ?_;subst zq4
  rw[aI,decide_eq_true_eq]at hx
  have z:=eE r1
  have hpos:1<=xs.length:=by
   cases xs with
   |nil=>cases hx.1
   |cons c r=>exact gB _
  have hT:IsTup s.heap a vs:=⟨_,e1,c1,_,d1⟩
  exact jN hT.typeIs rF.lookup (FK hT ⟨_,hsl,rfl,rfl⟩ (Ei z hpos) (h _ _ (After.push I _) (nw xl r1.dropLast)) (aj (bG z) (aj hx.2 hsz))) hs
 |str xs=>
  refine bl e λlo hlo e=> ?_
  refine bl e λup hup e=> ?_
  refine xA (eA (c:=xs.length<=aX) e) λhx zq1=> ?_;subst zq1
  refine ra.strE λx t zq2 zq3=> ?_;subst zq2 zq3
  refine ay (yf hlo rl) λl1 zq1 hl=> ?_;subst zq1
  refine ay (yf hup ru) λu1 zq1 hu=> ?_;subst zq1
  rw[b7]at hx
  exact jN (oQ s x t) Pv.lookup (Fq I hl hu ⟨_,hsl,rfl,rfl⟩ (aj ‹_› ‹_›) h) hs
 |_=>exact am e
theorem tJ{α:Type}{c:Prop}[Decidable c]{a b:α}(e:(if c then some a else none)=some b):c/\ some a=some b:=by
 by_cases h:c
 ·rw[if_pos h]at e;exact⟨h,e⟩
 ·rw[if_neg h]at e;exact am e
theorem tK{i:Int}(h:small i=true):i.natAbs.log2<1920:=by
 have h1:i.natAbs<=iB:=of_decide_eq_true h
 unfold iB at h1
 rcases Nat.eq_zero_or_pos i.natAbs with q|q
 ·rw[q];decide
 ·have:i.natAbs.log2<1001:=(Nat.log2_lt (mL q)).mpr (bU h1 (Nat.pow_lt_pow_right (by decide) (by decide)))
  exact aL ‹_› (by rfl)
theorem FM:checkTypeCall "tuple" ⟨[],[]⟩=pure ():=by kernel_rfl
theorem FN:checkBuiltinCall "tuple.__new__" ⟨[.type "tuple"],[]⟩=pure ():=by kernel_rfl
theorem FO{Q:ae->ah->Prop}(I:Inv W s){a r:PV}{va:ae}(e:ph a=some r)(ra:Rep W X s.heap va a)(h:∀v s',After W X s s'->Rep W X s'.heap v r->Q v s'):wpAny W.M A (call (.builtin "len") [va]) Q E s:=by
 have hsz:=f9
 have ht:=gt
 have h63:(2:Int)^63=9223372036854775808:=by decide
 cases a with
 |str x=>
  refine xA (eA (c:=x.length<=aX) e) λhx zq1=> ?_;subst zq1
  refine ra.strE λy t zq2 zq3=> ?_;subst zq2 zq3
  rw[b7]at h hx
  exact P.len_str (Int.not_le.mpr (zl hx (by decide+kernel))) (h _ _ (After.tok I) (.int _ _))
 |tuple x=>
  refine xA (eA (c:=x.length<=aX) e) λhx zq1=> ?_;subst zq1
  refine ra.tupE λa o ws n zq4 e1 c1 d1 n1 r1=> ?_;subst zq4
  have z:=eE r1
  rw[<-z]at h
  exact PyProof.Rows.len_tuple ⟨_,e1,c1,_,d1⟩ (zl (kz z hx) (by decide+kernel)) (h _ _ (After.tok I) (.int _ _))
 |list x=>
  refine xA (eA (c:=x.length<=aX) e) λhx zq1=> ?_;subst zq1
  refine ra.lisE λa o ws n zq4 e1 c1 d1 n1 r1=> ?_;subst zq4
  have z:=eE r1
  rw[<-z]at h
  exact call_len_list ⟨_,e1,c1,_,d1⟩ (zl (kz z hx) (by decide+kernel)) (h _ _ (After.tok I) (.int _ _))
 |_=>exact am e
theorem FP{Q:ae->ah->Prop}(I:Inv W s){a r:PV}{va:ae}(e:sN a=some r)(ra:Rep W X s.heap va a)(h:∀v s',After W X s s'->Rep W X s'.heap v r->Q v s'):wpAny W.M A (call (.type "int") [va]) Q E s:=by
 refine bl e λx e1 e=> ?_
 refine xA (eA e) λhx zq1=> ?_;subst zq1
 refine dX (ny e1 ra) λy t zq2 zq3=> ?_;subst zq2 zq3
 rw[aI,aI,decide_eq_true_eq,lz]at hx
 exact KIN.call_text (Fz hx.1.1 hx.1.2 hx.2) (by have:=hx.2;rw[b7]at this;exact aL ‹_› (by rfl)) (h _ _ (After.tok I) (.int _ _))
theorem FQ{Q:ae->ah->Prop}(I:Inv W s){a r:PV}{va:ae}(e:sP a=some r)(ra:Rep W X s.heap va a)(h:∀v s',After W X s s'->Rep W X s'.heap v r->Q v s'):wpAny W.M A (call (.type "str") [va]) Q E s:=by
 refine bl e λi e1 e=> ?_
 refine xA (eA e) λhi zq1=> ?_;subst zq1
 refine xE (nz e1 ra) λt zq1=> ?_;subst zq1
 exact P.str_of_int (tK hi) (h _ _ (After.tok I) (.str _ _))
theorem FR{Q:ae->ah->Prop}(I:Inv W s)(hg:A.guards=some [])(hu:A.units<=9000){a r:PV}{va:ae}(e:sQ a=some r)(ra:Rep W X s.heap va a)(h:∀v s',After W X s s'->Rep W X s'.heap v r->Q v s'):wpAny W.M A (call (.builtin "repr") [va]) Q E s:=by
 obtain⟨xs,e1,e⟩:=Ds.mp e
 rw[pw e1]at ra
 obtain⟨b,-,-,-,rfl,-⟩:=id ra.lisI
 have fin:∀(d:Str),(PV.list xs).flat 4=true->(PV.list xs).py.showable=true->(PV.list xs).py.hasDict=false->(PV.list xs).py.depth<=5->(PV.list xs).py.shown=d->d.length<=sizeLine->r= .str (ao d)->
   wpAny W.M A (call (.builtin "repr") [.ref b]) Q E s:=by
  intro d k1 k2 k3 k4 k5 k6 k7
  obtain⟨as,rd⟩:=ra.reads 4 k1
  subst k5
  exact repr_of_reads' rd k2 (PyData.noDict_hsm k3) hg (bU (d7 (aj (er k4) (bz rfl)) A.units) (jM hu)) (λø ø e=>e) (λh' u tk hk=>h _ _ (After.of_keeps I hk) (k7▸ .str _ _)) k6
 cases xs with
 |nil=>exact fin (aa "[]") rfl rfl rfl (by decide) rfl (by decide+kernel) (aq e).symm
 |cons q qs=>
  obtain⟨hq,e⟩:=kL (c:=qs.isEmpty=true) e
  obtain rfl:=gY.mp hq
  obtain⟨i,e2,e⟩:=Ds.mp e
  obtain⟨hi,rfl⟩:=eA e
  obtain rfl:=tE e2
  have hl:=tK hi
  refine fin (aa "[" ++aa (toString i)++aa "]") rfl (by show(decide (i.natAbs.log2<1920)&&true)=true;rw[decide_eq_true hl];rfl) rfl (bz rfl) ?_ ?_ ?_
  ·skip
   rfl
  ·have e9:=int_text_length_le (k:=1920) (by decide) hl
   have e8:(aa (toString i)).length=(toString i).length:=PySem.ofString_length _
   have e7:∀a b:Str,(a++b).length=a.length+b.length:=Str.length_append
   rw[e7,e7,e8,mM]
   show 1+_+1<=_
   exact aj (er (d7 e9 1)) (bz rfl)
  ·rw[i9,i9];rfl
theorem FS{Q:ae->ah->Prop}(I:Inv W s)(xl:fb X s){args:List PV}{vs:List ae}{r:PV}(e:sR args=some r)(ra:a8 W X s.heap vs args)(h:∀v s',After W X s s'->Rep W X s'.heap v r->Q v s'):wpAny W.M A (call (.type "tuple") vs) Q E s:=by
 have hsz:=f9
 cases args with
 |nil=>
  obtain rfl:=ra.nilI
  obtain rfl:=aq e
  refine callType_new F.called_tuple (by decide) FM FN (λobj=>F.args_object_init_1 obj) F.entry_tuple_new Fs ⟨⟨_,et _ rfl,rfl⟩,?_⟩
  exact h _ _ (After.push I _) (nw xl .nil)
 |cons b bs=>
  refine bl e λa e0 e=> ?_
  refine ay (tF e0 ra) λva zq1 rr=> ?_;subst zq1
  refine bl e λxs e1 e=> ?_
  refine xA (eA e) λhx zq1=> ?_;subst zq1
  rw[pw e1]at rr
  refine rr.lisE λa o ws n zq4 e1 c1 d1 n1 r1=> ?_;subst zq4
  have z:=eE r1
  refine call_tuple_list ⟨_,e1,c1,_,d1⟩ (λh' hk=>h _ _ (After.of_keeps I λb o e=>b4 _ (hk b o e)) ?_) (sy ‹_› ‹_› (by rfl))
  refine .tuple (vs:=ws) (n:=0) (et _ rfl) rfl rfl (λhx=> ?_) (r1.mono (λø ø ø e=>b4 _ (hk _ _ e)) λø ø ø n=>n)
  refine xE (xl _ hx) λo e=> ?_
  exact js _ (eK (hk _ _ e))
theorem FT{Q:ae->ah->Prop}(I:Inv W s)(xl:fb X s){a r:PV}{va:ae}(e:sS a=some r)(ra:Rep W X s.heap va a)(h:∀v s',After W X s s'->Rep W X s'.heap v r->Q v s'):wpAny W.M A (call (.type "list") [va]) Q E s:=by
 have hsz:=f9
 refine bl e λxs e1 e=> ?_
 refine xA (eA e) λhx zq1=> ?_;subst zq1
 rw[xt e1]at ra
 refine ra.tupE λa o ws n zq4 e1 c1 d1 n1 r1=> ?_;subst zq4
 have z:=eE r1
 refine call_list_seq a (.inr rfl) e1 c1 d1 (λh' c' hk hn=>h _ _ (After.of_keeps I hk) ?_) (sy ‹_› ‹_› (by rfl))
 exact .list hn rfl rfl xl.fresh (r1.mono (λø ø ø e=>hk _ _ e) λø ø ø n=>n)
theorem tL{Q:ae->ah->Prop}(I:Inv W s)(xl:fb X s)(hg:A.guards=some [])(hu:A.units<=9000){f:Str}{args:List PV}{vs:List ae}{r:PV}(e:da f args=some r)(ra:a8 W X s.heap vs args)
  (h:∀v s',After W X s s'->Rep W X s'.heap v r->Q v s'):∃fv,f0 f=some fv/\ wpAny W.M A (call fv vs) Q E s:=by
 have one:∀{g:PV->Option PV},(i0 args).bind g=some r->∃a va,vs=[va]/\ Rep W X s.heap va a/\ g a=some r:=λe=>by
  refine bl e λa e0 e=> ?_
  refine ay (tF e0 ra) λva zq1 rr=> ?_;subst zq1
  exact⟨a,va,rfl,rr,e⟩
 unfold da at e
 unfold f0
 split at e
 ·rename_i hf
  obtain⟨a,va,rfl,ra,e⟩:=one e
  exact⟨_,if_pos hf,FO I e ra h⟩
 rename_i hf1
 rw[if_neg hf1]
 split at e
 ·rename_i hf
  obtain⟨a,va,rfl,ra,e⟩:=one e
  exact⟨_,if_pos hf,FP I e ra h⟩
 rename_i hf1
 rw[if_neg hf1]
 split at e
 ·rename_i hf
  obtain⟨a,va,rfl,ra,e⟩:=one e
  exact⟨_,if_pos hf,FQ I e ra h⟩
 rename_i hf1
 rw[if_neg hf1]
 split at e
 ·rename_i hf
  obtain⟨a,va,rfl,ra,e⟩:=one e
  exact⟨_,if_pos hf,FR I hg hu e ra h⟩
 rename_i hf1
 rw[if_neg hf1]
 split at e
 ·rename_i hf
  exact⟨_,if_pos hf,FS I xl e ra h⟩
 rename_i hf1
 rw[if_neg hf1]
 split at e
 ·rename_i hf
  obtain⟨a,va,rfl,ra,e⟩:=one e
  exact⟨_,if_pos hf,FT I xl e ra h⟩
 exact am e
end
end
section
noncomputable def cQ{γ β:Type}(W:Wd)(X:Addr->Prop)(l:List av)(R:Heap->γ->β->Prop)(s:ah)(r:Res β)(Q:γ->ah->Prop)(E:ae->ah->Prop):Prop:=
 (∀v p s',r= .ok p->After W X s s'->R s'.heap v p->Q v s')/\ (∀e c s',r= .exc c->f8 W X l e c s s'->E (.ref e) s')
noncomputable def SC{γ β:Type}(W:Wd)(X:Addr->Prop)(l:List av)(R:Heap->γ->β->Prop)(n:Nat)(A:aA)(t:Sem γ)(s:ah)(r:Res β):Prop:=
 r≠ .stuck->A.depth+n<=900->A.units+10*n<=9000->∀Q E,cQ W X l R s r Q E->wpAny W.M A t Q E s
noncomputable def RV(W:Wd)(X:Addr->Prop)(h:Heap)(v:ae)(p:PV):Prop:=Rep W X h v p
noncomputable def RB(_:Heap)(v:Bool)(p:Bool):Prop:=v=p
noncomputable def RL(W:Wd)(X:Addr->Prop)(h:Heap)(v:List ae)(p:List PV):Prop:=a8 W X h v p
section
variable{g:Bool}{W:Wd}{X:Addr->Prop}{A:aA}{s:ah}{l:List av}{n:Nat}
theorem cQ.after{γ β:Type}{R:Heap->γ->β->Prop}{s s₁:ah}{r:Res β}{Q:γ->ah->Prop}{E:ae->ah->Prop}(F:cQ W X l R s r Q E)(a:After W X s s₁):cQ W X l R s₁ r Q E:=
 ⟨λv p s' e b q=>F.1 v p s' e (a.trans b) q,λe c s' h f=>F.2 e c s' h (f.before a)⟩
theorem cQ.ok{γ β:Type}{R:Heap->γ->β->Prop}{s s₁:ah}{p:β}{v:γ}{Q:γ->ah->Prop}{E:ae->ah->Prop}(F:cQ W X l R s (.ok p) Q E)(a:After W X s s₁)(h:R s₁.heap v p):Q v s₁:=F.1 v p s₁ rfl a h
theorem fC{α β:Type}{r:Res α}{f:α->Res β}(h:r.bind f≠ .stuck):r≠ .stuck:=λe=>h (by rw[e];rfl)
theorem SC.step{γ β γ' β':Type}{R:Heap->γ->β->Prop}{R':Heap->γ'->β'->Prop}{r1:Res β}{f:β->Res β'}{t1:Sem γ}(h1:SC W X l R n A t1 s r1)(hne:r1.bind f≠ .stuck)(hd:A.depth+n<=900)(hu:A.units+10*n<=9000)
  {Q:γ'->ah->Prop} {E:ae->ah->Prop} (F:cQ W X l R' s (r1.bind f) Q E) {K:γ->ah->Prop}
  (hK:∀v p s₁,r1= .ok p->After W X s s₁->R s₁.heap v p->f p≠ .stuck->cQ W X l R' s₁ (f p) Q E->K v s₁):wpAny W.M A t1 K E s:=by
 refine h1 (fC hne) hd hu K E ⟨λv p s' e a q=> ?_,λe c s' h fl=> ?_⟩
 ·subst e
  exact hK v p s' rfl a q hne (F.after a)
 ·subst h
  exact F.2 e c s' rfl fl
theorem eF{α:Type}{o:Option α}(h:aE o≠ .stuck):∃a,o=some a:=by
 cases o with
 |none=>exact absurd rfl h
 |some a=>exact⟨a,rfl⟩
structure jO(g:Bool)(W:Wd)(sc:Scope)(env:av):Prop where
 code:g=true->∃c P,env.code= .ref c/\ (c,P)∈W.tabs
 scope:env.scope.kind= .function
 names:∀x k,sc.names.lookup x=some k->k≠ .cell->k≠ .free->env.kindOf x=some k
 globals:env.globals=mainGlobals
 builtins:env.builtins=builtinsNs
 nocell:∀y∈env.scope.names,y.2≠ .cell
structure Here(g:Bool)(W:Wd)(X:Addr->Prop)(A:aA)(l:List av)(s:ah)(sc:Scope)(env:av)(ρ:ak):Prop where
 ready:Ready W X A l s
 envk:jO g W sc env
 loc:nv W X s.heap env.locals ρ
 kinds:pu sc ρ
theorem Here.after{sc:Scope}{env:av}{ρ:ak}{s s₁:ah}(H:Here g W X A l s sc env ρ)(a:After W X s s₁):Here g W X A l s₁ sc env ρ:=
 ⟨H.ready.after a,H.envk,H.loc.after a,H.kinds⟩
noncomputable def aN(g:Bool)(W:Wd)(n:Nat)(E:Ev):Prop:=
 (∀sc e X A l s env ρ,Here g W X A l s sc env ρ->SC W X l (RV W X) n A (eval e env) s (E.ev sc e ρ))/\
 (∀sc e X A l s env ρ,Here g W X A l s sc env ρ->SC W X l RB n A (isTrue e env (eval e env)) s (E.tst sc e ρ))
variable{sc:Scope}{env:av}{ρ:ak}
theorem FU(H:Here g W X A l s sc env ρ){c:jt}{k:Nat}{p:ax}:SC W X l (RV W X) n A (eval (.Constant c k p) env) s (match c with
  | .none=> .ok .none
  | .bool b=> .ok (.bool b)
  | .int i=> .ok (.int i)
  | .str x=> .ok (.str (ao x))
  |_=> .stuck):=λhne hd hu Q E F=>by
 cases c with
 |none=>exact wpAny_Constant_none (F.ok (After.refl H.ready.inv) .none)
 |bool b=>exact wpAny_Constant_bool (F.ok (After.refl H.ready.inv) (.bool b))
 |int i=>exact d8 (F.ok (After.tok H.ready.inv) (.int i _))
 |str x=>exact kn (F.ok (After.tok H.ready.inv) (.str x _))
 |_=>exact absurd rfl hne
theorem FV(H:Here g W X A l s sc env ρ){x:Str}{p:ax}{v:PV}(hv:ρ.lookup x=some v)(hd:(x==("__debug__" :Str))=false):SC W X l (RV W X) n A (eval (.Name x p) env) s (.ok v):=λhne ø ø Q E F=>by
 refine dN H.loc λhX m hn hl=> ?_
 refine ay (hl x v hv) λw e1 e2=> ?_
 exact dT (dM H.envk.scope (H.envk.names _ _ (H.kinds x v hv) (by decide) (by decide)) hn e1 (F.ok (After.refl H.ready.inv) e2)) hd
theorem ja(H:Here g W X A l s sc env ρ){x:Str}(h:cj sc x=true):env.kindOf x=some .globalImplicit:=
 H.envk.names _ _ (cN h) (by decide) (by decide)
theorem pI(O:aZ W)(H:Here g W X A l s sc env ρ){x:Str}{p:ax}{v:ae}{Q E:ae->ah->Prop}(hk:env.kindOf x=some .globalImplicit)(hd:(x==("__debug__" :Str))=false) (hv:W.mg x=some v) (h:Q v s):
  wpAny W.M A (eval (.Name x p) env) Q E s:=
 Calls.Name_function_global H.envk.scope hk (Calls.loadGlobal_global (H.envk.globals▸H.ready.inv.g O) hv h) hd
theorem kO(O:aZ W)(H:Here g W X A l s sc env ρ){x:Str}{p:ax}{v:ae}{Q E:ae->ah->Prop}(hk:env.kindOf x=some .globalImplicit)(hd:(x==("__debug__" :Str))=false) (hm:W.mg x=none) (hv:W.mb x=some v) (h:Q v s):
  wpAny W.M A (eval (.Name x p) env) Q E s:=
 Calls.Name_function_global H.envk.scope hk (Calls.loadGlobal_builtin (H.envk.globals▸H.ready.inv.g O) hm (H.envk.builtins▸H.ready.inv.b O) hv h) hd
theorem FW{E₀:Ev}(hE:aN g W n E₀)(O:aZ W)(H:Here g W X A l s sc env ρ){a b:ai}{op:mH}{p:ax}:
  SC W X l (RV W X) n A (eval (.BinOp a op b p) env) s ((E₀.ev sc a ρ).bind λx=>(E₀.ev sc b ρ).bind λy=>aE (bJ op x y)):=λhne hd hu Q E F=>by
 refine fU ((hE.1 sc a X A l s env ρ H).step hne hd hu F λva x s₁ ø a1 r1 ne1 F1=> ?_)
 refine(hE.1 sc b X A l s₁ env ρ (H.after a1)).step ne1 hd hu F1 λvb y s₂ ø a2 r2 ne2 F2=> ?_
 refine xE (eF ne2) λz hz=> ?_
 rw[hz]at F2
 have H2:=(H.after a1).after a2
 exact jL H2.ready.inv H2.ready.xlt hz (a2.rep r1) r2 (λv s' a3 r3=>F2.ok a3 r3)
theorem FX{E₀:Ev}(hE:aN g W n E₀)(H:Here g W X A l s sc env ρ){a:ai}{p:ax}:
  SC W X l (RV W X) n A (eval (.UnaryOp .Not a p) env) s ((E₀.ev sc a ρ).bind λv=>(aE (ee v)).bind λt=> .ok (.bool !t)):=λhne hd hu Q E F=>by
 refine wb ((hE.1 sc a X A l s env ρ H).step hne hd hu F λva x s₁ ø a1 r1 ne1 F1=> ?_)
 refine xE (eF (fC ne1)) λz hz=> ?_
 rw[hz]at F1
 exact PyProof.Rows.not_of (tH a1.inv hz r1 λs' a2=>F1.1 _ _ _ rfl a2 (.bool _))
theorem FY{E₀:Ev}(hE:aN g W n E₀)(H:Here g W X A l s sc env ρ){t b o:ai}{p:ax}:
  SC W X l (RV W X) n A (eval (.IfExp t b o p) env) s ((E₀.tst sc t ρ).bind λc=>if c then E₀.ev sc b ρ else E₀.ev sc o ρ):=λhne hd hu Q E F=>by
 refine wpAny_IfExp ((hE.2 sc t X A l s env ρ H).step hne hd hu F λc c' s₁ ø a1 r1 ne1 F1=> ?_)
 subst r1
 cases c with
 |true=>exact hE.1 sc b X A l s₁ env ρ (H.after a1) ne1 hd hu Q E F1
 |false=>exact hE.1 sc o X A l s₁ env ρ (H.after a1) ne1 hd hu Q E F1
theorem yh{e:ai}{r:List ai}(h:(e.ctorIdx !=22)=true):starEach (e::r) env=(false,eval e env)::starEach r env:=by
 cases e<;>first|rfl|exact bZ h
theorem tM:∀{es:List ai},bv es=true->starEach es env=es.map λe=>(false,eval e env)
 |[],_=>rfl
 |e::r,h=>by
  have h:=ew (a:=e.ctorIdx !=22) (b:=bv r) h
  rw[yh h.1,(tM (es:=r) h.2)];rfl
noncomputable def eG(env:av)(es:List ai):List (Bool×Sem ae):=es.map λe=>(false,eval e env)
theorem nH(es:List ai):(eG env es).any (·.1)=false:=by simp[eG]
theorem dY(pos:ax){es:List ai}(h:bv es=true):backTo pos (starEach es env)=eG env es:=by
 rw[tM h]
 unfold eG
 unfold backTo
 simp
theorem pJ{E₀:Ev}(hE:aN g W n E₀):∀(es:List ai) (s:ah),Here g W X A l s sc env ρ->SC W X l (RL W X) n A (spliced (eG env es)) s (bL (E₀.ev sc) es ρ)
 |[],s,H=>λhne hd hu Q E F=>Calls.spliced_nil (cQ.ok F (After.refl H.ready.inv) .nil)
 |e::r,s,H=>λhne hd hu Q E F=>by
  refine Calls.spliced_cons ((hE.1 sc e X A l s env ρ H).step hne hd hu F λv x s₁ ø a1 r1 ne1 F1=> ?_)
  refine(pJ hE r s₁ (H.after a1)).step ne1 hd hu F1 λvs xs s₂ ø a2 r2 ne2 F2=> ?_
  exact cQ.ok F2 (After.refl a2.inv) (.cons (a2.rep r1) r2)
theorem tN{ev:ai->ak->Res PV}:∀{es:List ai} {xs:List PV},bL ev es ρ= .ok xs->xs.length=es.length
 |[],xs,h=>by obtain rfl:=dk h;rfl
 |e::r,xs,h=>by
  unfold bL at h
  cases h1:ev e ρ with
  |ok v=>
   rw[h1,eM]at h
   cases h2:bL ev r ρ with
   |ok vs=>rw[h2,eM]at h;obtain rfl:=dk h;rw[gE,gE,tN h2]
   |exc c=>rw[h2,w7]at h;exact jD h
   |stuck=>rw[h2,w8]at h;exact iA h
  |exc c=>rw[h1,w7]at h;exact jD h
  |stuck=>rw[h1,w8]at h;exact iA h
theorem yi{es:List ai}(h:es.length<=64):es.length<=sizeLine:=aj h (by decide+kernel)
theorem FZ{E₀:Ev}(hE:aN g W n E₀)(H:Here g W X A l s sc env ρ){es:List ai}{k:Nat}{p:ax}(hs:bv es=true)(hl:es.length<=64):
  SC W X l (RV W X) n A (eval (.Tuple es k p) env) s ((bL (E₀.ev sc) es ρ).bind λvs=> .ok (.tuple vs)):=λhne hd hu Q E F=>by
 refine wpAny_Tuple ?_
 rw[dY p hs]
 refine(pJ hE es s H).step hne hd hu F λvs xs s₁ h1 a1 r1 ne1 F1=>⟨?_,?_⟩
 ·rw[r1.length,tN h1];exact yi hl
 ·exact cQ.ok F1 (After.push a1.inv _) (nw (H.after a1).ready.xlt r1)
theorem Ga{E₀:Ev}(hE:aN g W n E₀)(H:Here g W X A l s sc env ρ){es:List ai}{p:ax}(hs:bv es=true)(hl:es.length<=64):
  SC W X l (RV W X) n A (eval (.List es p) env) s ((bL (E₀.ev sc) es ρ).bind λvs=> .ok (.list vs)):=λhne hd hu Q E F=>by
 refine wpAny_List ?_
 rw[dY p hs]
 refine(pJ hE es s H).step hne hd hu F λvs xs s₁ h1 a1 r1 ne1 F1=>⟨?_,?_⟩
 ·rw[r1.length,tN h1];exact yi hl
 ·exact cQ.ok F1 (After.push a1.inv _) (tD (H.after a1).ready.xlt r1)
end
end
section
noncomputable def ce(W:Wd)(fv:ae):Prop:=∀(A:aA) (E:ae->ah->Prop) (s:ah) (pos:ax) (first:List ae) (args:List (Bool×Sem ae)) (Q:ae->ah->Prop),args.any (·.1)=false->
 wpAny W.M A (evalArgs fv true args []) (λa s₁=>Inv W s₁/\ wpAny W.M A (call fv (first++a.pos) a.kw) Q E s₁) E s->wpAny W.M A (callWith pos fv first args []) Q E s
noncomputable def gc(W:Wd)(n:Nat)(fv:ae)(args:List PV)(r:Res PV):Prop:=
 ∀(A:aA) (l:List av) (s:ah) (X:Addr->Prop) (vs:List ae),Ready W X A l s->a8 W X s.heap vs args->SC W X l (RV W X) n A (call fv vs) s r
structure bu(W:Wd)(n:Nat)(C:Calls):Prop where
 fn:∀f,jF.contains f=true->∃fv,W.mg f=some fv/\ ce W fv/\ ∀args,gc W n fv args (C.fn f args)
 meth:∀c m,hZ.contains m=true->∃fv,(∀(A:aA) (E:ae->ah->Prop) (s:ah) (x d:Addr) (es:List eU) (k:Nat) (pl:Sem Bool) (P:ae×List ae->ah->Prop),Inv W s->
   s.heap.get? x=some (instObj (W.clsA c) d)->s.heap.get? d=some (dictOf es k)->shadowIn (some (dictOf es k)) m=some false->P (fv,[.ref x]) s->wpAny W.M A (getMethod (.ref x) m pl) P E s)/\ ce W fv/\ ∀args,gc W n fv args (C.meth c m args)
 eq:∀c fs d gs,∀(A:aA) (l:List av) (s:ah) (X:Addr->Prop) (va vb:ae),Ready W X A l s->Rep W X s.heap va (.inst c fs)->Rep W X s.heap vb (.inst d gs)->
   SC W X l (RV W X) n A (compareOp .Eq va vb) s (C.meth c (aa "__eq__") [.inst c fs, .inst d gs])
 prop:∀c a fs,dP.contains a=false->∀(A:aA) (l:List av) (s:ah) (X:Addr->Prop) (va:ae),Ready W X A l s->Rep W X s.heap va (.inst c fs)->
   SC W X l (RV W X) n A (getAttr va a true) s (C.prop c a (.inst c fs))
 glob:∀x v,C.glob x=some v->∃y t,W.mg x=some (.str y t)/\ v= .str (ao y)
section
variable{g:Bool}{W:Wd}{X:Addr->Prop}{A:aA}{s:ah}{l:List av}{n:Nat}{sc:Scope}{env:av}{ρ:ak}{C:Calls}
theorem yj{a:PV}{x:Bool}(h:sL a=some x):a= .bool x:=by
 cases a with
 |bool y=>obtain rfl:=aq h;rfl
 |_=>exact am h
theorem yk{a:PV}{x:aY×List (Str×PV)}(h:sM a=some x):a= .inst x.1 x.2:=by
 cases a with
 |inst c fs=>obtain rfl:=aq h;rfl
 |_=>exact am h
theorem Gb{op:fi}{a b:PV}{c:aY}(h:sV op a b=some c):op= .Eq/\ ∃fs d gs,a= .inst c fs/\ b= .inst d gs:=by
 refine xA (kL h) λho h=> ?_
 refine bl h λp hp h=> ?_
 refine eZ h λq hq h=> ?_
 subst h
 exact⟨ho,_,_,_,yk hp,yk hq⟩
noncomputable def RT(_:Heap)(v:ae)(b:Bool):Prop:=v= .bool b
theorem Gc(hC:bu W n C){op:fi}{va vb:ae}{a b:PV}(H:Ready W X A l s)(ra:Rep W X s.heap va a)(rb:Rep W X s.heap vb b):SC W X l RT n A (compareOp op va vb) s (bn C op a b):=λhne hd hu Q E F=>by
 unfold bn at hne F
 cases hi:sV op a b with
 |some c=>
  rw[hi]at hne F
  refine xA (Gb hi) λho hx=> ?_
  refine dj hx λfs d gs ha hb=> ?_
  subst ho ha hb
  refine(hC.eq c fs d gs A l s X va vb H ra rb).step hne hd hu F λv p s₁ ø a1 r1 ne1 F1=> ?_
  refine xE (eF ne1) λt ht=> ?_
  rw[ht]at F1
  rw[yj ht]at r1
  exact F1.1 _ _ _ rfl (After.refl a1.inv) r1.boolI
 |none=>
  rw[hi]at hne F
  refine xE (eF hne) λz hz=> ?_
  rw[hz]at F
  exact kM hz ra rb (aj (bf _ _) ‹_›) (F.1 _ _ _ rfl (After.refl H.inv) rfl)
end
end
section
section
variable{g:Bool}{W:Wd}{X:Addr->Prop}{A:aA}{s:ah}{l:List av}{n:Nat}{sc:Scope}{env:av}{ρ:ak}{C:Calls}{E₀:Ev}
theorem pK{op:fi}{r:ai}(h:cW r=true):behindInMarks op r=false:=by
 cases r<;>first|rfl|exact bZ h
theorem Res.bind_assoc{α β γ:Type}(r:Res α)(f:α->Res β)(g:β->Res γ):(r.bind f).bind g=r.bind λa=>(f a).bind g:=by cases r<;>rfl
theorem iF{b:Bool}{Q:Bool->ah->Prop}{E:ae->ah->Prop}(h:Q b s):wpAny W.M A (truthy (.bool b)) Q E s:=Dc h
theorem lV(hE:aN g W n E₀)(hC:bu W n C){γ β:Type}{R:Heap->γ->β->Prop}{op:fi}{va:ae}{a:PV}{r:ai}{f:PV×Bool->Res β}(H:Here g W X A l s sc env ρ)(ra:Rep W X s.heap va a)
  (hne:(gK C (E₀.ev sc) op a r ρ).bind f≠ .stuck) (hd:A.depth+n<=900) (hu:A.units+10*n<=9000) {Q:γ->ah->Prop} {E:ae->ah->Prop} (F:cQ W X l R s ((gK C (E₀.ev sc) op a r ρ).bind f) Q E)
  {K:ae->ae->ah->Prop} (hK:∀vb b t s₁,After W X s s₁->Rep W X s₁.heap vb b->f (b,t)≠ .stuck->cQ W X l R s₁ (f (b,t)) Q E->K vb (.bool t) s₁):
  wpAny W.M A (eval r env) (λvb s₁=>wpAny W.M A (compareOp op va vb) (λc s₂=>K vb c s₂) E s₁) E s:=by
 unfold gK at hne F
 rw[Res.bind_assoc]at hne F
 refine(hE.1 sc r X A l s env ρ H).step hne hd hu F λvb b s₁ ø a1 r1 ne1 F1=> ?_
 rw[Res.bind_assoc]at ne1 F1
 refine(Gc hC (H.after a1).ready (a1.rep ra) r1).step ne1 hd hu F1 λc t s₂ ø a2 r2 ne2 F2=> ?_
 cases r2
 exact hK vb b t s₂ (a1.trans a2) (a2.rep r1) ne2 F2
theorem yl{C:Calls}{ev:ai->ak->Res PV}{l:ai}{ops:List fi}{rs:List ai}{ρ:ak}(h:fZ C ev l ops rs ρ≠ .stuck):
  (∃op r,ops=[op]/\ rs=[r]/\ cW r=true/\ fZ C ev l ops rs ρ=lN C ev l op r ρ) \/(∃op op' r r',ops=[op,op']/\ rs=[r,r']/\ cW r' =true/\ fZ C ev l ops rs ρ=lO C ev l op op' r r' ρ):=by
 cases ops with
 |nil=>exact absurd rfl h
 |cons op ops=>cases rs with
  |nil=>exact absurd rfl h
  |cons r rs=>cases ops with
   |nil=>
    by_cases q:rs.isEmpty=true/\ cW r=true
    ·exact .inl ⟨op,r,rfl,by rw[gY.mp q.1],q.2,if_pos q⟩
    ·exact absurd (if_neg q) h
   |cons op' ops=>cases rs with
    |nil=>exact absurd rfl h
    |cons r' rs=>
     by_cases q:ops.isEmpty=true/\ rs.isEmpty=true/\ cW r' =true
     ·exact .inr ⟨op,op',r,r',by rw[gY.mp q.1],by rw[gY.mp q.2.1],q.2.2,if_pos q⟩
     ·exact absurd (if_neg q) h
theorem Gd(hE:aN g W n E₀)(hC:bu W n C)(H:Here g W X A l s sc env ρ){a:ai}{ops:List fi}{rs:List ai}{p:ax}:
  SC W X l (RV W X) n A (eval (.Compare a ops rs p) env) s ((fZ C (E₀.ev sc) a ops rs ρ).bind λt=> .ok (.bool t)):=λhne hd hu Q E F=>by
 rcases yl (fC hne)with ⟨op,r,rfl,rfl,hr,e⟩|⟨op,op',r,r',rfl,rfl,hr,e⟩
 ·rw[e,lN,Res.bind_assoc]at hne F
  refine Dt (hm:=pK hr) ((hE.1 sc a X A l s env ρ H).step hne hd hu F λva x s₁ ø a1 r1 ne1 F1=> ?_)
  rw[Res.bind_assoc]at ne1 F1
  refine lV hE hC (H.after a1) r1 ne1 hd hu F1 λvb b t s₂ a2 r2 ne2 F2=> ?_
  exact F2.1 _ _ _ rfl (After.refl a2.inv) (.bool t)
 ·rw[e,lO,Res.bind_assoc]at hne F
  refine Compare_chain (hm:=pK hr) ((hE.1 sc a X A l s env ρ H).step hne hd hu F λva x s₁ ø a1 r1 ne1 F1=> ?_)
  rw[Res.bind_assoc]at ne1 F1
  refine chain_link (lV hE hC (H.after a1) r1 ne1 hd hu F1 λvb b t s₂ a2 r2 ne2 F2=> ?_)
  refine iF ?_
  cases t with
  |true=>
   simp only[if_true]at ne2 F2 ⊢
   refine chain_last ?_
   rw[Res.bind_assoc]at ne2 F2
   refine lV hE hC ((H.after a1).after a2) r2 ne2 hd hu F2 λvb b t s₃ a3 r3 ne3 F3=> ?_
   exact F3.1 _ _ _ rfl (After.refl a3.inv) (.bool t)
  |false=>exact F2.1 _ _ _ rfl (After.refl a2.inv) (.bool false)
theorem Ge(hE:aN g W n E₀)(hC:bu W n C)(H:Here g W X A l s sc env ρ){a:ai}{ops:List fi}{rs:List ai}{p:ax}{wh:Sem ae}:
  SC W X l RB n A (isTrue (.Compare a ops rs p) env wh) s (fZ C (E₀.ev sc) a ops rs ρ):=λhne hd hu Q E F=>by
 rcases yl hne with ⟨op,r,rfl,rfl,hr,e⟩|⟨op,op',r,r',rfl,rfl,hr,e⟩
 ·rw[e,lN]at hne F
  refine oU (hm:=pK hr) ((hE.1 sc a X A l s env ρ H).step hne hd hu F λva x s₁ ø a1 r1 ne1 F1=> ?_)
  refine lV hE hC (H.after a1) r1 ne1 hd hu F1 λvb b t s₂ a2 r2 ne2 F2=> ?_
  exact iF (F2.1 _ _ _ rfl (After.refl a2.inv) rfl)
 ·rw[e,lO]at hne F
  refine isTrue_chain (hm:=pK hr) ((hE.1 sc a X A l s env ρ H).step hne hd hu F λva x s₁ ø a1 r1 ne1 F1=> ?_)
  refine test_link (lV hE hC (H.after a1) r1 ne1 hd hu F1 λvb b t s₂ a2 r2 ne2 F2=> ?_)
  refine iF ?_
  cases t with
  |true=>
   simp only[if_true]at ne2 F2 ⊢
   refine test_last ?_
   refine lV hE hC ((H.after a1).after a2) r2 ne2 hd hu F2 λvb b t s₃ a3 r3 ne3 F3=> ?_
   exact iF (F3.1 _ _ _ rfl (After.refl a3.inv) rfl)
  |false=>exact F2.1 _ _ _ rfl (After.refl a2.inv) rfl
theorem tO(hE:aN g W n E₀){op:BoolOp}{p:ax}:∀(es:List ai) (s:ah),Here g W X A l s sc env ρ->SC W X l (RV W X) n A (eval (.BoolOp op es p) env) s (fw (E₀.ev sc) op es ρ)
 |[],s,H=>λhne=>absurd rfl hne
 |[e],s,H=>λhne hd hu Q E F=>BoolOp_one (hE.1 sc e X A l s env ρ H hne hd hu Q E F)
 |e::e'::r,s,H=>λhne hd hu Q E F=>by
  have step:∀{K:ae->Bool->ah->Prop},(∀va t s₂,After W X s s₂->(∃x,Rep W X s₂.heap va x/\ (if jE op t then .ok x else fw (E₀.ev sc) op (e'::r) ρ)≠ .stuck/\ cQ W X l (RV W X) s₂ (if jE op t then .ok x else fw (E₀.ev sc) op (e'::r) ρ) Q E)->K va t s₂)->wpAny W.M A (eval e env) (λv s₁=>wpAny W.M A (truthy v) (λc s₂=>K v c s₂) E s₁) E s:=λ{K} hK=>by
   refine(hE.1 sc e X A l s env ρ H).step hne hd hu F λva x s₁ ø a1 r1 ne1 F1=> ?_
   refine xE (eF (fC ne1)) λz hz=> ?_
   rw[hz]at F1 ne1
   refine tH a1.inv hz r1 λs₂ a2=>hK va z s₂ (a1.trans a2) ⟨x,a2.rep r1,ne1,cQ.after F1 a2⟩
  cases op with
  |And=>
   refine BoolOp_and (step λva t s₂ a2 hx=> ?_)
   refine bA hx λx r2 ne2 F2=> ?_
   cases t with
   |true=>exact tO hE (e'::r) s₂ (H.after a2) ne2 hd hu Q E F2
   |false=>exact F2.1 _ _ _ rfl (After.refl a2.inv) r2
  |Or=>
   refine BoolOp_or (step λva t s₂ a2 hx=> ?_)
   refine bA hx λx r2 ne2 F2=> ?_
   cases t with
   |false=>exact tO hE (e'::r) s₂ (H.after a2) ne2 hd hu Q E F2
   |true=>exact F2.1 _ _ _ rfl (After.refl a2.inv) r2
theorem tP(hE:aN g W n E₀){op:BoolOp}{p:ax}{wh:Sem ae}:∀(es:List ai) (s:ah),Here g W X A l s sc env ρ->SC W X l RB n A (isTrue (.BoolOp op es p) env wh) s (i6 (E₀.tst sc) op es ρ)
 |[],s,H=>λhne hd hu Q E F=>by
  cases op with
  |And=>exact isTrue_and_nil (F.1 _ _ _ rfl (After.refl H.ready.inv) rfl)
  |Or=>exact isTrue_or_nil (F.1 _ _ _ rfl (After.refl H.ready.inv) rfl)
 |e::r,s,H=>λhne hd hu Q E F=>by
  cases op with
  |And=>
   refine isTrue_and ((hE.2 sc e X A l s env ρ H).step hne hd hu F λc t s₁ ø a1 r1 ne1 F1=> ?_)
   subst r1
   cases c with
   |true=>exact tP hE r s₁ (H.after a1) ne1 hd hu Q E F1
   |false=>exact F1.1 _ _ _ rfl (After.refl a1.inv) rfl
  |Or=>
   refine isTrue_or ((hE.2 sc e X A l s env ρ H).step hne hd hu F λc t s₁ ø a1 r1 ne1 F1=> ?_)
   subst r1
   cases c with
   |false=>exact tP hE r s₁ (H.after a1) ne1 hd hu Q E F1
   |true=>exact F1.1 _ _ _ rfl (After.refl a1.inv) rfl
theorem ym(hE:aN g W n E₀)(H:Here g W X A l s sc env ρ)(e:ai)(he:isTrue e env (eval e env)=(do let v<-eval e env;standAt e.pos;holding [v] (truthy v))):SC W X l RB n A (isTrue e env (eval e env)) s ((E₀.ev sc e ρ).bind λv=>aE (ee v)):=λhne hd hu Q E F=>by
 refine isTrue_plain (he:=he) ((hE.1 sc e X A l s env ρ H).step hne hd hu F λva x s₁ ø a1 r1 ne1 F1=> ?_)
 refine xE (eF ne1) λz hz=> ?_
 rw[hz]at F1
 exact tH a1.inv hz r1 λs₂ a2=>F1.1 _ _ _ rfl a2 rfl
theorem Gf(hE:aN g W n E₀)(H:Here g W X A l s sc env ρ)(x:ai)(p:ax):SC W X l RB n A (isTrue (.UnaryOp .Not x p) env (eval (.UnaryOp .Not x p) env)) s ((E₀.tst sc x ρ).bind λt=> .ok !t):=λhne hd hu Q E F=>by
 refine isTrue_not ((hE.2 sc x X A l s env ρ H).step hne hd hu F λc t s₁ ø a1 r1 ne1 F1=> ?_)
 subst r1
 exact F1.1 _ _ _ rfl (After.refl a1.inv) rfl
theorem Gg(hE:aN g W n E₀)(H:Here g W X A l s sc env ρ)(t b o:ai)(p:ax):SC W X l RB n A (isTrue (.IfExp t b o p) env (eval (.IfExp t b o p) env)) s ((E₀.tst sc t ρ).bind λc=>if c then E₀.tst sc b ρ else E₀.tst sc o ρ):=λhne hd hu Q E F=>by
 refine isTrue_IfExp ((hE.2 sc t X A l s env ρ H).step hne hd hu F λc t s₁ ø a1 r1 ne1 F1=> ?_)
 subst r1
 cases c with
 |true=>exact hE.2 sc b X A l s₁ env ρ (H.after a1) ne1 hd hu Q E F1
 |false=>exact hE.2 sc o X A l s₁ env ρ (H.after a1) ne1 hd hu Q E F1
theorem yn(hE:aN g W n E₀)(hC:bu W n C)(H:Here g W X A l s sc env ρ)(e:ai):SC W X l RB n A (isTrue e env (eval e env)) s (xi C E₀ sc e ρ):=by
 cases e with
 |UnaryOp op x p=>
  cases op with
  |Not=>exact Gf hE H x p
  |_=>exact ym hE H _ rfl
 |BoolOp op vs p=>exact tP hE _ s H
 |IfExp t b o p=>exact Gg hE H t b o p
 |Compare l ops rs p=>exact Ge hE hC H
 |_=>exact ym hE H _ rfl
end
end
section
section
variable{g:Bool}{W:Wd}{X:Addr->Prop}{A:aA}{s:ah}{l:List av}{n:Nat}{sc:Scope}{env:av}{ρ:ak}{C:Calls}{E₀:Ev}
theorem yo(hE:aN g W n E₀)(H:Here g W X A l s sc env ρ)(o:Option ai):SC W X l (RV W X) n A (evalPart o env) s (match o with|some e=>E₀.ev sc e ρ|none=> .ok .none):=by
 cases o with
 |none=>exact λhne hd hu Q E F=>bk (F.1 _ _ _ rfl (After.refl H.ready.inv) .none)
 |some e=>exact hE.1 sc e X A l s env ρ H
theorem Gh(hE:aN g W n E₀)(H:Here g W X A l s sc env ρ){v:ai}{lo up:Option ai}{p pos:ax}:
  SC W X l (RV W X) n A (eval (.Subscript v (.Slice lo up none p) pos) env) s ((E₀.ev sc v ρ).bind λa=>
   (match lo with|some e=>E₀.ev sc e ρ|none=> .ok .none).bind λl=>
   (match up with|some e=>E₀.ev sc e ρ|none=> .ok .none).bind λu=>aE (gJ a l u)):=λhne hd hu Q E F=>by
 refine oV ((hE.1 sc v X A l s env ρ H).step hne hd hu F λva x s₁ ø a1 r1 ne1 F1=> ?_)
 refine wpAny_Slice ((yo hE (H.after a1) lo).step ne1 hd hu F1 λvl y s₂ ø a2 r2 ne2 F2=> ?_)
 refine(yo hE ((H.after a1).after a2) up).step ne2 hd hu F2 λvu z s₃ ø a3 r3 ne3 F3=> ?_
 refine bk (a:=kl) ?_
 refine xE (eF ne3) λq hq=> ?_
 rw[hq]at F3
 have H3:=((H.after a1).after a2).after a3
 have a4:After W X s₃ {s₃ with heap:=s₃.heap.push {cls:= .type "slice",data:= .fields #[vl,vu, .none]}}:=After.push H3.ready.inv _
 have H4:=H3.after a4
 refine yg (ops:=[.ref s₃.heap.objs.size,va]) H4.ready.inv H4.ready.xlt hq (a4.rep (a3.rep (a2.rep r1))) (a4.rep (a3.rep r2)) (a4.rep r3) (et _ rfl) rfl λv s' a5 r5=> ?_
 exact F3.1 _ _ _ rfl (a4.trans a5) r5
theorem Gi(hE:aN g W n E₀)(H:Here g W X A l s sc env ρ){v i:ai}{pos:ax}(hi:∀a b c p,i≠ .Slice a b c p):
  SC W X l (RV W X) n A (eval (.Subscript v i pos) env) s ((E₀.ev sc v ρ).bind λa=>(E₀.ev sc i ρ).bind λk=>aE (fu a k)):=λhne hd hu Q E F=>by
 refine oV ((hE.1 sc v X A l s env ρ H).step hne hd hu F λva x s₁ ø a1 r1 ne1 F1=> ?_)
 refine(hE.1 sc i X A l s₁ env ρ (H.after a1)).step ne1 hd hu F1 λvi y s₂ ø a2 r2 ne2 F2=> ?_
 refine xE (eF ne2) λq hq=> ?_
 rw[hq]at F2
 refine xN a2.inv hq (a2.rep r1) r2 (λo i' => ?_) λv s' a5 r5=>F2.1 _ _ _ rfl a5 r5
 cases i with
 |Slice a b c p=>exact absurd rfl (hi a b c p)
 |_=>rfl
theorem pL(hE:aN g W n E₀)(H:Here g W X A l s sc env ρ){f:ae}{es:List ai}{γ β:Type}{R:Heap->γ->β->Prop}{g:List PV->Res β}(hne:(bL (E₀.ev sc) es ρ).bind g≠ .stuck)(hd:A.depth+n<=900)(hu:A.units+10*n<=9000)
  {Q:γ->ah->Prop} {E:ae->ah->Prop} (F:cQ W X l R s ((bL (E₀.ev sc) es ρ).bind g) Q E) {K:Args->ah->Prop}
  (hK:∀vs xs s₁,After W X s s₁->a8 W X s₁.heap vs xs->g xs≠ .stuck->cQ W X l R s₁ (g xs) Q E->K ⟨vs,[]⟩ s₁):wpAny W.M A (evalArgs f true (eG env es) []) K E s:=by
 have key:=(pJ hE es s H).step hne hd hu F (K:=λvs s₁=>K ⟨vs,[]⟩ s₁) λvs xs s₁ ø a1 r1 ne1 F1=>hK vs xs s₁ a1 r1 ne1 F1
 cases es with
 |nil=>exact evalArgs_nil3 (by
   have:=key
   unfold eG at this
   simp only[rI]at this
   obtain h:=hK [] [] s (After.refl H.ready.inv) .nil hne F
   exact h)
 |cons e r=>exact Calls.evalArgs_plain key
theorem jb(id:String):ce W (.builtin id):=λA E s pos first args Q ha h=>Calls.callWith_builtin ha (fQ h (λø ø x=>x.2) λø ø x=>x)
theorem gu(T:String):ce W (.type T):=λA E s pos first args Q ha h=>PySem.callWith_type ha (fQ h (λø ø x=>x.2) λø ø x=>x)
theorem Gj{a:Addr}{o:Obj}{fd:dA}(h1:W.base.get? a=some o)(h2:o.data= .func fd):ce W (.ref a):=λA E s pos first args Q ha h=>
 Calls.callWith_function (o:=o) (fd:=fd) (fQ h (λx s₁ y=>⟨⟨y.1.stays _ _ h1,h2⟩,y.2⟩) λø ø x=>x)
theorem Gk(O:aZ W)(H:Here g W X A l s sc env ρ){f:Str}{p:ax}{fv:ae}{Q E:ae->ah->Prop}(hg:cj sc f=true)(hdb:(f==("__debug__" :Str))=false) (hf:f0 f=some fv) (h:Q fv s):wpAny W.M A (eval (.Name f p) env) Q E s:=by
 have key:f∈blt/\ W.mb f=some fv/\ ce W fv:=by
  unfold f0 at hf
  split at hf
  ·rename_i e;subst e;obtain rfl:=aq hf;exact⟨by simp[blt],(O.mbv _ (by decide+kernel)).trans (by kernel_rfl),jb _⟩
  ·split at hf
   ·rename_i e;subst e;obtain rfl:=aq hf;exact⟨by simp[blt],(O.mbv _ (by decide+kernel)).trans (by kernel_rfl),gu _⟩
   ·split at hf
    ·rename_i e;subst e;obtain rfl:=aq hf;exact⟨by simp[blt],(O.mbv _ (by decide+kernel)).trans (by kernel_rfl),gu _⟩
    ·split at hf
     ·rename_i e;subst e;obtain rfl:=aq hf;exact⟨by simp[blt],(O.mbv _ (by decide+kernel)).trans (by kernel_rfl),jb _⟩
     ·split at hf
      ·rename_i e;subst e;obtain rfl:=aq hf;exact⟨by simp[blt],(O.mbv _ (by decide+kernel)).trans (by kernel_rfl),gu _⟩
      ·split at hf
       ·rename_i e;subst e;obtain rfl:=aq hf;exact⟨by simp[blt],(O.mbv _ (by decide+kernel)).trans (by kernel_rfl),gu _⟩
       ·exact am hf
 exact kO O H (ja H hg) hdb (O.nogl f key.1) key.2.1 h
theorem Gl{f:Str}{fv:ae}(hf:f0 f=some fv):ce W fv:=by
 unfold f0 at hf
 split at hf
 ·obtain rfl:=aq hf;exact jb _
 ·split at hf
  ·obtain rfl:=aq hf;exact gu _
  ·split at hf
   ·obtain rfl:=aq hf;exact gu _
   ·split at hf
    ·obtain rfl:=aq hf;exact jb _
    ·split at hf
     ·obtain rfl:=aq hf;exact gu _
     ·split at hf
      ·obtain rfl:=aq hf;exact gu _
      ·exact am hf
theorem Gm(O:aZ W)(hE:aN g W n E₀)(hC:bu W n C)(H:Here g W X A l s sc env ρ){f:Str}{p pos:ax}{es:List ai}(hg:cj sc f=true)(hdb:(f==("__debug__" :Str))=false) (hs:bv es=true) (hca:pi f=true):
  SC W X l (RV W X) n A (eval (.Call (.Name f p) es [] pos) env) s ((bL (E₀.ev sc) es ρ).bind λvs=>i7 C f vs):=λhne hd hu Q E F=>by
 refine gF rfl ?_
 rw[dY pos hs]
 unfold i7 at hne F
 cases hb:f0 f with
 |some fv=>
  simp only[hb]at hne F
  refine Gk O H hg hdb hb ?_
  refine Gl hb A E s pos [] _ Q (nH es) (pL hE H hne hd hu F λvs xs s₁ a1 r1 ne1 F1=>⟨a1.inv,?_⟩)
  refine xE (eF ne1) λr hr=> ?_
  rw[hr]at F1
  refine ay (tL (Q:=Q) (E:=E) a1.inv (H.after a1).ready.xlt H.ready.guards (aj (bf _ _) ‹_›) hr r1 λv s' a2 r2=>F1.1 _ _ _ rfl a2 r2) λfv' h1 h2=> ?_
  rw[hb]at h1
  obtain rfl:=aq h1
  exact h2
 |none=>
  simp only[hb]at hne F
  have hf:jF.contains f=true:=by simpa[pi,hb] using hca
  refine bA (hC.fn f hf) λfv hv hc hk=> ?_
  refine pI O H (ja H hg) hdb hv ?_
  refine hc A E s pos [] _ Q (nH es) (pL hE H hne hd hu F λvs xs s₁ a1 r1 ne1 F1=>⟨a1.inv,?_⟩)
  exact hk xs A l s₁ X vs (H.after a1).ready r1 ne1 hd hu Q E F1
theorem Gn(O:aZ W)(hE:aN g W n E₀)(H:Here g W X A l s sc env ρ){e:ai}{f t:Str}{p p' pos:ax}(hf:f=aa "isinstance") (hg:cj sc f=true) (hs:bv [e]=true) (ht:cj sc t=true):
  SC W X l (RV W X) n A (eval (.Call (.Name f p) [e, .Name t p'] [] pos) env) s ((E₀.ev sc e ρ).bind λv=>(aE (dO v t)).bind λb=> .ok (.bool b)):=λhne hd hu Q E F=>by
 subst hf
 refine gF rfl ?_
 have he:starEach [e,jx t p'] env=[(false,eval e env),(false,eval (.Name t p') env)]:=yh (ew hs).1
 rw[he]
 refine kO O H (ja H hg) (by decide+kernel) (O.nogl _ (by simp[blt])) ((O.mbv _ (by decide+kernel)).trans (by kernel_rfl:bootBuiltins "isinstance" =some (.builtin "isinstance"))) ?_
 refine jb (W:=W) "isinstance" A E s pos [] _ Q rfl (Calls.evalArgs_plain (Calls.spliced_cons ((hE.1 sc e X A l s env ρ H).step hne hd hu F λva x s₁ ø a1 r1 ne1 F1=> ?_)))
 refine xE (eF (fC ne1)) λb hb=> ?_
 rw[hb]at F1
 have H1:=H.after a1
 refine ay (Ft (Q:=Q) (E:=E) (A:=A) O a1.inv hb r1 λs' a2=>F1.1 _ _ _ rfl a2 (.bool _)) λtv hc hw=> ?_
 refine Calls.spliced_cons ?_
 have fin:∀u,u=tv->wpAny W.M A (spliced []) (λvs s₂=>Inv W s₂/\ wpAny W.M A (call (.builtin "isinstance") ([]++(⟨va::u::vs,[]⟩:Args).pos) (⟨va::u::vs,[]⟩:Args).kw) Q E s₂) E s₁:=λu hu' =>by
  subst hu'
  exact Calls.spliced_nil ⟨a1.inv,hw⟩
 have hk:=ja H1 ht
 rcases hc with ⟨h1,h2⟩|⟨h1,h2⟩|⟨h1,h2⟩|⟨h1,h2⟩|⟨h1,h2⟩
 ·subst h1;exact kO O H1 hk (by decide+kernel) (O.nogl _ (by simp[blt])) ((O.mbv _ (by decide+kernel)).trans (by kernel_rfl:bootBuiltins "str" =some (.type "str"))) (fin _ h2.symm)
 ·subst h1;exact kO O H1 hk (by decide+kernel) (O.nogl _ (by simp[blt])) ((O.mbv _ (by decide+kernel)).trans (by kernel_rfl:bootBuiltins "int" =some (.type "int"))) (fin _ h2.symm)
 ·subst h1;exact kO O H1 hk (by decide+kernel) (O.nogl _ (by simp[blt])) ((O.mbv _ (by decide+kernel)).trans (by kernel_rfl:bootBuiltins "tuple" =some (.type "tuple"))) (fin _ h2.symm)
 ·subst h1;exact pI O H1 hk (by decide+kernel) O.tupN (fin _ h2.symm)
 ·subst h1;exact pI O H1 hk (by decide+kernel) O.basN (fin _ h2.symm)
end
end
section
section
variable{g:Bool}{W:Wd}{X:Addr->Prop}{A:aA}{s:ah}{l:List av}{n:Nat}{sc:Scope}{env:av}{ρ:ak}{C:Calls}{E₀:Ev}
theorem yq{o:ai}{a:Str}{w:Sem ae}(h:fy o=true):attributeBase o a env w=w:=by
 cases o<;>first|rfl|exact bZ h
theorem pM{o:ai}{name:Str}{apos pos:ax}{es:List ai}{Q E:ae->ah->Prop}(hb:fy o=true)(hs:bv es=true)(hl:es.length<29)(hline:(apos.endLine==pos.line)=true)
  (h:wpAny W.M A (eval o env) (λov s₁=>∀pl,wpAny W.M A (getMethod ov name pl) (λp s₂=>wpAny W.M A (callWith pos p.1 p.2 (eG env es) []) Q E s₂) E s₁) E s):
  wpAny W.M A (eval (.Call (.Attribute o name apos) es [] pos) env) Q E s:=by
 rw[arm_eval_Call,yq hb,dY pos hs]
 refine aJ (fQ h (λov s₁ h₁=> ?_) λø ø e=>e)
 refine aJ (lA ?_)
 have hform:methodCallForm (es.length+([]:List Keyword).length) (eG env es) (backToKw pos (keywordEach [] env))=true:=by
  unfold methodCallForm
  have h1:(eG env es).all (λx=> !x.1)=true:=by simp[eG]
  have h2:(backToKw pos (keywordEach [] env))=[]:=rfl
  rw[h1,h2]
  simp
  exact aL ‹_› (by rfl)
 have hpos:methodCallPos true o env apos pos=pure pos:=by unfold methodCallPos;simp[hline]
 unfold methodCall
 rw[hform]
 refine aJ (iV (fQ (h₁ _) (λp s₂ h₂=> ?_) λø ø e=>e))
 exact aJ (wpAny_of_eq hpos h₂)
theorem Go(hE:aN g W n E₀){pos:ax}{m:Str}{x:Str}{t:bE}{es:List ai}{pl:Sem Bool}(hm:i8.contains m=true)(H:Here g W X A l s sc env ρ)(hne:((bL (E₀.ev sc) es ρ).bind λvs=>aE (cn m (ao x) vs))≠ .stuck)
  (hd:A.depth+n<=900) (hu:A.units+10*n<=9000) {Q E:ae->ah->Prop} (F:cQ W X l (RV W X) s ((bL (E₀.ev sc) es ρ).bind λvs=>aE (cn m (ao x) vs)) Q E):
  wpAny W.M A (getMethod (.str x t) m pl) (λp s₂=>wpAny W.M A (callWith pos p.1 p.2 (eG env es) []) Q E s₂) E s:=by
 refine yd hm ?_
 refine jb (W:=W) (iE m) A E s pos [.str x t] _ Q (nH es) (pL hE H hne hd hu F λvs xs s₁ a1 r1 ne1 F1=>⟨a1.inv,?_⟩)
 refine xE (eF ne1) λr hr=> ?_
 rw[hr]at F1
 exact ye a1.inv (H.after a1).ready.xlt hr r1 λv s' a2 r2=>F1.1 _ _ _ rfl a2 r2
theorem yr{h:Heap}{a:Str}{es:List eU}{fs:List (Str×PV)}(r:dm W X h es fs):(∀v,fs.lookup a=some v->∃e,es.find? (·.key.isStr a)=some e/\ Rep W X h e.val v)/\ (fs.lookup a=none->es.find? (·.key.isStr a)=none/\ es.any (·.refKey)=false):=
 r.ind (M:=λes fs=>(∀v,fs.lookup a=some v->∃e,es.find? (·.key.isStr a)=some e/\ Rep W X h e.val v)/\ (fs.lookup a=none->es.find? (·.key.isStr a)=none/\ es.any (·.refKey)=false)) ⟨λv e=>(by exact am e),λø=>⟨rfl,rfl⟩⟩
  (λ{hs y t v es p fs} r _ ih=>by
   have ks:(gG y t).isStr a=(a==y):=by
    show(y==a)=(a==y)
    rw[rC,beq_iff_eq,beq_iff_eq];exact eq_comm
   rw[ch,List.find?_cons]
   simp only[ks]
   cases q:a==y with
   |true=>exact⟨λw e=>by obtain rfl:=aq e;exact⟨_,rfl,r⟩,λe=>lK e⟩
   |false=>
    refine⟨λw e=>ih.1 w e,λe=>⟨(ih.2 e).1,?_⟩⟩
    rw[rL,(ih.2 e).2];rfl)
theorem Gp{h:Heap}{a:Str}{es:List eU}{k:Nat}{fs:List (Str×PV)}{p:PV}(r:dm W X h es fs)(e:fs.lookup a=some p):∃v,lookIn a (dictOf es k)=some (some v)/\ Rep W X h v p:=by
 refine ay ((yr r).1 p e) λen h1 h2=> ?_
 refine⟨en.val,?_,h2⟩
 unfold lookIn dictOf
 simp only[h1]
theorem Gq{h:Heap}{a:Str}{es:List eU}{k:Nat}{fs:List (Str×PV)}(r:dm W X h es fs)(e:fs.lookup a=none):lookIn a (dictOf es k)=some none:=by
 refine xA ((yr r).2 e) λh1 h2=> ?_
 unfold lookIn dictOf
 simp only[h1]
 simp[h2]
theorem yt{h:Heap}{v:ae}{p:PV}(r:Rep W X h v p):handedIn v=true:=by cases r<;>rfl
theorem Gr(O:aZ W)(hE:aN g W n E₀)(hC:bu W n C)(H:Here g W X A l s sc env ρ){o:ai}{a:Str}{p:ax}(hb:fy o=true):
  SC W X l (RV W X) n A (eval (.Attribute o a p) env) s ((E₀.ev sc o ρ).bind λov=>match ov with
   | .inst c fs=>if dP.contains a then aE (fs.lookup a)else C.prop c a (.inst c fs)
   |_=> .stuck):=λhne hd hu Q E F=>by
 have e:eval (.Attribute o a p) env=(do
  let ov<-attributeBase o a env (eval o env)
  standAt p.atName
  let r<-holding [ov] (getAttr ov a true)
  letTemporaryGo o ov r
  pure r):=rfl
 rw[e,yq hb]
 refine aJ ((hE.1 sc o X A l s env ρ H).step hne hd hu F λvo x s₁ ø a1 r1 ne1 F1=> ?_)
 refine aJ (lA ?_)
 cases x with
 |inst c fs=>
  dsimp only at ne1 F1
  have fin:wpAny W.M A (getAttr vo a true) Q E s₁->wpAny W.M A (holding [vo] (getAttr vo a true)>>=λr=>letTemporaryGo o vo r>>=λø=>pure r) Q E s₁:=λh=>
   aJ (iV (fQ h (λr s₃ h₃=>aJ (wpAny_letTemporaryGo (bk h₃))) λø ø x=>x))
  refine fin ?_
  split at ne1
  ·rename_i hf
   simp only[hf,if_true]at F1
   refine xE (eF ne1) λq hq=> ?_
   rw[hq]at F1
   refine r1.instE λx d es k zq4 e1 e2 n1 n2 fl=> ?_;subst zq4
   refine ay (Gp (k:=k) fl hq) λv hv rv=> ?_
   refine ay (O.cd c) λcd hcd hhd=> ?_
   have hfo:findObj W.K (W.clsA c) (some (dictOf es k)) a=some (.value v):=by
    unfold findObj
    rw[hcd,O.fld c a (by simpa using hf)]
    simp only[Option.bind_some]
    unfold PySem.W.ownOf
    rw[hhd,if_pos rfl];simp only[hv]
    rfl
   exact get_value (a1.inv.kin O) (kN e1 e2) (O.ga c) hfo (yt rv) (F1.1 _ _ _ rfl (After.tok a1.inv) rv)
  ·rename_i hf
   simp only[hf,if_false]at F1
   exact hC.prop c a fs (by simpa using hf) A l s₁ X vo (H.after a1).ready r1 ne1 hd hu Q E F1
 |_=>exact absurd rfl ne1
end
end
section
structure tQ(W:Wd)(X:Addr->Prop)(h h₁:Heap)(I:Addr)(fp:List Addr)(P:Nat->ae->Prop)(St:Nat->Heap->Prop)(xs:List PV):Prop where
 walks:∀A':aA,A'.handled=none->Walks iu W.w A' I fp [I] xs.length P St
 start:St 0 h₁
 fps:∀b∈fp,b=I \/∃o,h.get? b=some o/\ ¬X b/\ dn o
 own:∀i h',St i h'->∃o,h'.get? I=some o/\ dn o/\ ∀m,¬h'.Ns I m
 vals:∀i v,P i v->∃p,xs[i]? =some p/\ Rep W X h v p
 few:xs.length<=aX
section
variable{g:Bool}{W:Wd}{X:Addr->Prop}{A:aA}{s:ah}{l:List av}{n:Nat}{sc:Scope}{env:av}{ρ:ak}{C:Calls}{E₀:Ev}
theorem kP{h:Heap}{a:Addr}{o:Obj}(e:h.get? a=some o)(hd:∀es ep,o.data≠ .dict es ep)(m:Str->Option ae):¬h.Ns a m:=λ⟨o',es,ep,e',d,_⟩=>by
 rw[e]at e';cases e'
 exact hd _ _ d
theorem pN{v:ae}{p:PV}{xs:List PV}(e:bQ p=some xs)(r:Rep W X s.heap v p){Q E:ae->ah->Prop}
  (h:∀o fp P St,dn o->tQ W X s.heap (s.heap.push o) s.heap.objs.size fp P St xs->Q (.ref s.heap.objs.size) {s with heap:=s.heap.push o}):wpAny W.M A (pyIter v) Q E s:=by
 unfold bQ at e
 cases r with
 |none=>exact am e
 |bool=>exact am e
 |int=>exact am e
 |inst=>exact am e
 |str x t=>
  refine xA (tJ e) λhx e=> ?_
  obtain rfl:=aq e
  have hl:((ao x).map λc=>PV.str [c]).length=x.cps.size:=by simp[ao]
  have hv:∀i v,SignAt x i v->∃p,((ao x).map λc=>PV.str [c])[i]? =some p/\ Rep W X s.heap v p:=λi v hs=>by
   refine dX hs λc u h1 zq3=> ?_;subst zq3
   refine⟨.str [c],?_, .str ⟨#[c]⟩ u⟩
   rw[lB]
   have:(ao x)[i]? =some c:=by simpa[ao] using h1
   rw[this];rfl
  cases ha:x.cps.all (· <128)
  ·refine wpAny_pyIter_wide ha (h _ [s.heap.objs.size] (SignAt x) (λi h' =>h'.IsStrIter s.heap.objs.size "str_iterator" x t i) ⟨⟨_,by simp[fz],rfl⟩,by intro ø ø q;cases q⟩
    ⟨λA' hA=>hl▸Walks.strWide hA _ x t,⟨_,et _ rfl,rfl,rfl⟩,λb hb=> .inl (by simpa using hb),λi h' st=> ?_,hv,by simpa using hx⟩)
   refine bA st λo h1 h2 h3=> ?_
   exact⟨o,h1,⟨⟨_,by simp[fz],h2⟩,by rw[h3];intro ø ø q;cases q⟩,kP h1 (by rw[h3];intro ø ø q;cases q)⟩
  ·refine wpAny_pyIter_ascii ha (h _ [s.heap.objs.size] (SignAt x) (λi h' =>h'.IsStrIter s.heap.objs.size "str_ascii_iterator" x t i) ⟨⟨_,by simp[fz],rfl⟩,by intro ø ø q;cases q⟩
    ⟨λA' hA=>hl▸Walks.strAscii hA _ x t,⟨_,et _ rfl,rfl,rfl⟩,λb hb=> .inl (by simpa using hb),λi h' st=> ?_,hv,by simpa using hx⟩)
   refine bA st λo h1 h2 h3=> ?_
   exact⟨o,h1,⟨⟨_,by simp[fz],h2⟩,by rw[h3];intro ø ø q;cases q⟩,kP h1 (by rw[h3];intro ø ø q;cases q)⟩
 | @tuple a o vs k _ e1 c1 d1 n1 r1=>
  refine xA (tJ e) λhx e=> ?_
  cases aq e
  have z:=eE r1
  have hne:a≠s.heap.objs.size:=λq=>js _ (q▸eK e1)
  refine wpAny_pyIter_tuple ⟨_,e1,c1,_,d1⟩ (h _ [s.heap.objs.size,a] (λi v=>vs[i]? =some v) (λi h' =>h'.IsTupleIter s.heap.objs.size a i/\ h'.IsTuple a vs) ⟨⟨_,by simp[fz],rfl⟩,by intro ø ø q;cases q⟩
   ⟨λA' hA=>z▸Walks.tuple hA _ a hne vs,⟨⟨_,et _ rfl,rfl,rfl⟩,⟨_,b4 _ e1,c1,_,d1⟩⟩,λb hb=> ?_,λi h' st=> ?_,λi v hv=> ?_,hx⟩)
  ·rcases bS.mp hb with q|q
   ·exact .inl q
   ·rw[dw]at q;subst q;exact .inr ⟨_,e1,n1,⟨_,by simp[fz],c1⟩,by rw[d1];intro ø ø q;cases q⟩
  ·refine bA st.1 λo h1 h2 h3=> ?_
   exact⟨o,h1,⟨⟨_,by simp[fz],h2⟩,by rw[h3];intro ø ø q;cases q⟩,kP h1 (by rw[h3];intro ø ø q;cases q)⟩
  ·have hlt:i<xs.length:=by
    rw[<-z]
    rcases oN i vs.size with q|q
    ·exact q
    ·rw[v3 q]at hv;exact am hv
   refine ay (r1.get (fV hlt)) λv' h1 h2=> ?_
   have:vs.toList[i]? =some v:=by simpa using hv
   rw[this]at h1;obtain rfl:=aq h1
   exact⟨_,fV hlt,h2⟩
 | @list a o vs k _ e1 c1 d1 n1 r1=>
  refine xA (tJ e) λhx e=> ?_
  cases aq e
  have z:=eE r1
  have hne:a≠s.heap.objs.size:=λq=>js _ (q▸eK e1)
  refine wpAny_pyIter_list ⟨_,e1,c1,_,d1⟩ (h _ [s.heap.objs.size,a] (λi v=>vs[i]? =some v) (λi h' =>h'.IsListIter s.heap.objs.size a i/\ h'.IsList a vs) ⟨⟨_,by simp[fz],rfl⟩,by intro ø ø q;cases q⟩
   ⟨λA' hA=>z▸Walks.list hA _ a hne vs,⟨⟨_,et _ rfl,rfl,rfl⟩,⟨_,b4 _ e1,c1,_,d1⟩⟩,λb hb=> ?_,λi h' st=> ?_,λi v hv=> ?_,hx⟩)
  ·rcases bS.mp hb with q|q
   ·exact .inl q
   ·rw[dw]at q;subst q;exact .inr ⟨_,e1,n1,⟨_,by simp[fz],c1⟩,by rw[d1];intro ø ø q;cases q⟩
  ·refine bA st.1 λo h1 h2 h3=> ?_
   exact⟨o,h1,⟨⟨_,by simp[fz],h2⟩,by rw[h3];intro ø ø q;cases q⟩,kP h1 (by rw[h3];intro ø ø q;cases q)⟩
  ·have hlt:i<xs.length:=by
    rw[<-z]
    rcases oN i vs.size with q|q
    ·exact q
    ·rw[v3 q]at hv;exact am hv
   refine ay (r1.get (fV hlt)) λv' h1 h2=> ?_
   have:vs.toList[i]? =some v:=by simpa using hv
   rw[this]at h1;obtain rfl:=aq h1
   exact⟨_,fV hlt,h2⟩
end
structure be(W:Wd)(X:Addr->Prop)(C:Addr)(s s':ah):Prop where
 inv:Inv W s'
 keep:∀b o,¬X b->s.heap.get? b=some o->s'.heap.get? b=some o
 ns:∀L m,L≠C->s.heap.Ns L m->s'.heap.Ns L m
 gens:dc s.gens s'.gens
 os:s'.os=s.os
 drawn:s'.drawn=s.drawn
 live:∀b o,s.heap.get? b=some o->∃o',s'.heap.get? b=some o'
 solid:∀b o,dn o->s.heap.get? b=some o->s'.heap.get? b=some o
section
variable{g:Bool}{W:Wd}{X X':Addr->Prop}{C:Addr}{s s₁ s':ah}
theorem After.moves(a:After W X s s'):be W X C s s':=⟨a.inv,a.keep,λL m ø e=>a.ns L m e,a.gens,a.os,a.drawn,a.live,a.solid⟩
theorem be.weaken(m:be W X C s s')(hx:∀b o,s.heap.get? b=some o->¬X' b->¬X b):be W X' C s s':=
 ⟨m.inv,λb o k e=>m.keep b o (hx b o e k) e,m.ns,m.gens,m.os,m.drawn,m.live,m.solid⟩
theorem be.trans(m:be W X C s s₁)(a:be W X C s₁ s'):be W X C s s':=
 ⟨a.inv,λb o k e=>a.keep b o k (m.keep b o k e),λL f hL e=>a.ns L f hL (m.ns L f hL e),m.gens.trans a.gens,a.os.trans m.os,a.drawn.trans m.drawn,λb o e=>by obtain⟨o',e'⟩:=m.live b o e;exact a.live b o' e',λb o t e=>a.solid b o t (m.solid b o t e)⟩
theorem be.after(m:be W X C s s₁)(a:After W X s₁ s'):be W X C s s':=m.trans a.moves
theorem be.close(m:be W X' C s s')(hx:∀b o,s.heap.get? b=some o->¬X b->¬X' b)(hC:s.heap.get? C=none):After W X s s':=
 ⟨m.inv,λb o k e=>m.keep b o (hx b o e k) e,λL f e=>m.ns L f (λq=>by obtain⟨o,_,_,e',_⟩:=e;rw[q,hC]at e';cases e') e,m.gens,m.os,m.drawn,m.live,m.solid⟩
theorem be.chg(m:be W X C s s₁){B:Addr}{h':Heap}{tk:Nat}(I:Inv W s)(hB:s.heap.get? B=none)(ext:eW B s₁.heap h')(hns:B=C \/∀f,¬s₁.heap.Ns B f)(hX:∀q∈W.tabs,∃o,s.heap.get? q.2=some o):
  be W X C s {s₁ with heap:=h',toks:=tk}:=by
 have ne:∀b o,s.heap.get? b=some o->b≠B:=λb o e q=>by rw[q,hB]at e;exact am e
 refine⟨⟨λb o e=>ext b o (ne b o (I.stays b o e)) (m.inv.stays b o e),λq hq=> ?_,m.inv.gens⟩,λb o k e=>ext b o (ne b o e) (m.keep b o k e),λL f hL e=> ?_,m.gens,m.os,m.drawn,λb o e=> ?_,λb o t e=>ext b o (ne b o e) (m.solid b o t e)⟩
 ·refine ay (m.inv.tabs q hq) λps h1 h2=> ?_
  have n2:q.2≠B:=by obtain⟨o,e⟩:=hX q hq;exact ne _ _ e
  have n1:q.1≠B:=by
   refine ay (I.tabs q hq) λps' k1 ø=> ?_
   refine rZ k1 λo ø ø ø ø ø ø ø ø ø e ø=> ?_
   exact ne _ _ e
  exact⟨ps,h1.extBut ext n1 n2,h2.extBut ext n1 n2⟩
 ·have e1:=m.ns L f hL e
  have hLB:L≠B:=by
   refine dj e λo ø ø e' ø=> ?_
   exact ne _ _ e'
  exact e1.at' λo e2=>ext L o hLB e2
 ·refine xE (m.live b o e) λo' e' => ?_
  exact⟨o',ext b o' (ne b o e) e'⟩
theorem Ready.move{A:aA}{l:List av}(R:Ready W X A l s)(m:be W X' C s s')(hC:s.heap.get? C=none)(up:∀b,X b->X' b)(down:∀b,X' b->X b \/(s.heap.get? b=none/\ ∃o,s'.heap.get? b=some o)):Ready W X' A l s' where
 inv:=m.inv
 frames:=R.frames
 guards:=R.guards
 handled:=R.handled
 below:=λenv he=>by
  refine g' (R.below env he) λk L f e1 e2 e3 e4=> ?_
  refine⟨k,L,f,e1,e2,m.ns L f (λq=> ?_) e3,up _ e4⟩
  refine dj e3 λo ø ø e' ø=> ?_
  rw[q,hC]at e';cases e'
 xtabs:=λq hq=>up _ (R.xtabs q hq)
 xbase:=λb o e hx=>by
  rcases down b hx with h|⟨h,_⟩
  ·exact R.xbase b o e h
  ·rw[R.inv.stays b o e]at h;exact lK h
 xlt:=λb hx=>by
  rcases down b hx with h|⟨_,h⟩
  ·refine xE (R.xlt b h) λo e=> ?_
   exact m.live b o e
  ·exact h
end
end
section
theorem yu{α:Type}{r:Res α}(h:ca r≠ .stuck):∃a,r= .ok a/\ ca r= .ok a:=by
 cases r with
 |ok a=>exact⟨a,rfl,rfl⟩
 |exc c=>exact absurd rfl h
 |stuck=>exact absurd rfl h
theorem nJ{α β:Type}{r:Res α}{f:α->Res β}(h:(ca r).bind f≠ .stuck):∃a,r= .ok a/\ ca r= .ok a/\ (ca r).bind f=f a:=by
 refine ay (yu (fC h)) λa h1 h2=> ?_
 exact⟨a,h1,h2,by rw[h2];rfl⟩
theorem yv{α:Type}{f:α->Res Bool}:∀{l r:List α},iC f l= .ok r->(∀v∈l,∃b,f v= .ok b)/\ r=l.filter λv=>match f v with| .ok b=>b|_=>false
 |[],r,h=>by obtain rfl:=dk h;exact⟨λv hv=>absurd hv (by simp),rfl⟩
 |a::l,r,h=>by
  unfold iC at h
  cases h1:f a with
  |ok b=>
   rw[h1,eM]at h
   cases h2:iC f l with
   |ok bs=>
    rw[h2,eM]at h
    refine xA (yv h2) λk1 k2=> ?_
    refine⟨λv hv=> ?_,?_⟩
    ·refine cr (bS.mp hv) (λq=> ?_) (λq=> ?_)
     ·subst q;exact⟨b,h1⟩
     ·exact k1 v q
    ·rw[wc,h1]
     obtain rfl:=dk h
     cases b<;>simp[k2]
   |exc c=>rw[h2]at h;exact jD h
   |stuck=>rw[h2]at h;exact iA h
  |exc c=>rw[h1]at h;exact jD h
  |stuck=>rw[h1]at h;exact iA h
theorem yw{α β:Type}{f:α->Res β}:∀{l:List α} {r:List β},fx f l= .ok r->(∀v∈l,∃b,f v= .ok b)/\ r=l.filterMap λv=>match f v with| .ok b=>some b|_=>none
 |[],r,h=>by obtain rfl:=dk h;exact⟨λv hv=>absurd hv (by simp),rfl⟩
 |a::l,r,h=>by
  unfold fx at h
  cases h1:f a with
  |ok b=>
   rw[h1,eM]at h
   cases h2:fx f l with
   |ok bs=>
    rw[h2,eM]at h
    obtain rfl:=dk h
    refine xA (yw h2) λk1 k2=> ?_
    refine⟨λv hv=> ?_,?_⟩
    ·refine cr (bS.mp hv) (λq=> ?_) (λq=> ?_)
     ·subst q;exact⟨b,h1⟩
     ·exact k1 v q
    ·rw[we,h1]
     simp only
     rw[<-k2]
   |exc c=>rw[h2]at h;exact jD h
   |stuck=>rw[h2]at h;exact iA h
  |exc c=>rw[h1]at h;exact jD h
  |stuck=>rw[h1]at h;exact iA h
structure tR(E:Ev)(csc:Scope)(x:Str)(elt:ai)(ifs:List ai)(items:List PV)(g:PV->Option PV):Prop where
 plain:hY csc=true
 loc:bR csc x=true
 dot:(x !=aa ".0")=true
 each:∀v∈items,match g v with
  |none=>iD E csc x ifs v= .ok false
  |some y=>iD E csc x ifs v= .ok true/\ E.ev csc elt [(x,v)]= .ok y
theorem pO{E:Ev}{csc:Scope}{x:Str}{elt:ai}{ifs:List ai}{items:List PV}(h:cq E csc x elt ifs items≠ .stuck):
  ∃g,tR E csc x elt ifs items g/\ cq E csc x elt ifs items= .ok (items.filterMap g):=by
 unfold cq at h ⊢
 split at h
 case isFalse=>exact absurd rfl h
 rename_i hp
 rw[aI,aI]at hp
 rw[if_pos (by rw[hp.1.1,hp.1.2,hp.2];rfl)]
 refine bA (nJ h) λvs h1 h2 h3=> ?_
 rw[h3]at h ⊢
 refine ay (yu h) λys h4 h5=> ?_
 rw[h5]
 refine xA (yv h1) λk1 k2=> ?_
 refine xA (yw h4) λk3 k4=> ?_
 refine⟨λv=>match iD E csc x ifs v with
  | .ok true=>(match E.ev csc elt [(x,v)]with| .ok y=>some y|_=>none)
  |_=>none,⟨hp.1.1,hp.1.2,hp.2,λv hv=> ?_⟩,?_⟩
 ·refine xE (k1 v hv) λb hb=> ?_
  rw[hb]
  cases b with
  |false=>rfl
  |true=>
   refine xE (k3 v (by rw[k2,Du,hb];exact⟨hv,rfl⟩)) λy hy=> ?_
   simp[hy]
 ·congr 1
  rw[k4,k2,List.filterMap_filter]
  congr 1
  funext v
  cases iD E csc x ifs v with
  |ok b=>cases b with
   |false=>simp
   |true=>simp;cases E.ev csc elt [(x,v)]<;>rfl
  |exc c=>simp
  |stuck=>simp
section
variable{g:Bool}{W:Wd}{X:Addr->Prop}{A:aA}{s:ah}{l:List av}{n:Nat}{sc:Scope}{env:av}{ρ:ak}{C:Calls}{E₀:Ev}
theorem kQ{csc:Scope}(h:hY csc=true):csc.kind= .function/\ csc.isCoroutine=false/\ (∀y∈csc.names,y.2≠ .cell)/\ (∀y∈csc.names,y.2≠ .free)/\ (∀y∈csc.names,y.2= .local->csc.names.lookup y.1=some .local):=by
 unfold hY at h
 simp only[aI,ba,bne_iff_ne,gZ,beq_iff_eq,lz]at h
 refine xA h λzn1 h3=> ?_
 refine xA zn1 λh1 h2=> ?_
 refine⟨h1,h2,λy hy=>(h3 y hy).1.1,λy hy=>(h3 y hy).1.2,λy hy e=> ?_⟩
 refine cr ((h3 y hy).2) (λq=> ?_) (λq=> ?_)
 ·exact absurd e q
 ·exact q
theorem tS{i:ai}(h:cW i=true)(env:av)(x:ae):foldedSetIterable i env x=pure x:=by
 cases i<;>first|rfl|exact bZ h
theorem Gs{csc:Scope}{Cm:Addr}(K:jO g W sc env)(hp:hY csc=true):jO false W csc (compEnv csc Cm env) where
 code:=λh=>wg h
 scope:=(kQ hp).1
 names:=λx k e ø ø=>e
 globals:=K.globals
 builtins:=K.builtins
 nocell:=(kQ hp).2.2.1
theorem Gu{csc:Scope}{x:Str}{v:ae}{p:PV}{X':Addr->Prop}{s:ah}{Cm:Addr}{m:Str->Option ae}(K:jO g W sc env)(hp:hY csc=true)(hl:bR csc x=true)(R:Ready W X' A l s)(hX:X' Cm)(hn:s.heap.Ns Cm m)(hv:m x=some v)(r:Rep W X' s.heap v p):
  Here false W X' A l s csc (compEnv csc Cm env) [(x,p)]:=by
 refine⟨R,Gs K hp,⟨hX,m,hn,λy q e=> ?_⟩,λy q e=> ?_⟩
 ·rw[ch]at e
  cases h:y==x with
  |true=>rw[h]at e;obtain rfl:=aq e;rw[cN h];exact⟨v,hv,r⟩
  |false=>rw[h]at e;exact am e
 ·rw[ch]at e
  cases h:y==x with
  |true=>rw[cN h];exact cN hl
  |false=>rw[h]at e;exact am e
theorem yx(hE:aN g W n E₀){csc:Scope}{x:Str}{ifs:List ai}{p:PV}{b:Bool}{cenv:av}{X':Addr->Prop}{s:ah}(H:Here g W X' A l s csc cenv [(x,p)])(e:iD E₀ csc x ifs p= .ok b)(hd:A.depth+n<=900)(hu:A.units+10*n<=9000)
  {Q:Bool->ah->Prop} {E:ae->ah->Prop} (h:∀s',After W X' s s'->Q b s'):
  wpAny W.M A (forIn ifs true λc r=>if r=true then do let ok<-isTrue c cenv (eval c cenv);pure (ForInStep.yield ok)else pure (ForInStep.yield r)) Q E s:=by
 cases ifs with
 |nil=>obtain rfl:=dk e;exact wpAny_tests_nil (h s (After.refl H.ready.inv))
 |cons t r=>
  cases r with
  |nil=>
   have e:E₀.tst csc t [(x,p)]= .ok b:=e
   refine wpAny_tests_one (hE.2 csc t X' A l s cenv _ H ((e)▸λq=>nomatch q) hd hu Q E ⟨λv q s' e1 a r=> ?_,λe' c s' e1 ø=> ?_⟩)
   ·rw[e]at e1;obtain rfl:=dk e1;subst r;exact h s' a
   ·rw[e]at e1;exact Eu e1
  |cons=>exact iA e
end
end
section
section
variable{b₀:Bool}{W:Wd}{X:Addr->Prop}{A:aA}{s:ah}{l:List av}{n:Nat}{sc:Scope}{env:av}{ρ:ak}{C:Calls}{E₀ E₁:Ev}
theorem yy{α β:Type}(g:α->Option β){xs:List α}{i:Nat}{v:α}(h:xs[i]? =some v):(xs.take (i+1)).filterMap g=(xs.take i).filterMap g++(match g v with|some y=>[y]|none=>[]):=by
 rw[wj,h,List.filterMap_append]
 cases hg:g v<;>simp[hg]
noncomputable def Xc(X:Addr->Prop)(I D Cm:Addr):Addr->Prop:=λb=>X b \/b=I \/b=D \/b=Cm
theorem Xc.not{X:Addr->Prop}{h:Heap}{I D Cm b:Addr}{o:Obj}(hI:h.get? I=none)(hD:h.get? D=none)(hC:h.get? Cm=none)(e:h.get? b=some o)(nx:¬X b):¬Xc X I D Cm b:=λq=>by
 rcases q with q|rfl|rfl|rfl
 ·exact nx q
 ·exact am (hI.symm.trans e)
 ·exact am (hD.symm.trans e)
 ·exact am (hC.symm.trans e)
inductive yz(W:Wd)(X:Addr->Prop)(I D Cm:Addr)(St:Nat->Heap->Prop)(g:PV->Option PV)(items:List PV)(s:ah)(k:Nat)(s':ah):Prop
 |mk (i:Nat) (ys:Array ae) (m:Str->Option ae):k=items.length+1-i->i<=items.length->be W (Xc X I D Cm) Cm s s'->St i s'.heap->s'.heap.IsList D ys->s'.heap.Ns Cm m->a8 W (Xc X I D Cm) s'.heap ys.toList ((items.take i).filterMap g)->yz W X I D Cm St g items s k s'
theorem yA(hE:aN false W n E₁){csc:Scope}{x:Str}{px:ax}{elt iter:ai}{ifs:List ai}{p:ax}{items:List PV}{g:PV->Option PV}{s s₄:ah}{I D Cm:Addr}{fp:List Addr}{P:Nat->ae->Prop}{St:Nat->Heap->Prop}{h₁:Heap}
  (K:jO b₀ W sc env) (G:tR E₁ csc x elt ifs items g) (R:Ready W X A l s) (It:tQ W X s.heap h₁ I fp P St items) (hd:A.depth+n<=900) (hu:A.units+10*n<=9000)
  (hI:s.heap.get? I=none) (hD:s.heap.get? D=none) (hC:s.heap.get? Cm=none) (hID:I≠D) (hIC:I≠Cm) (hDC:D≠Cm)
  (M₄:be W (Xc X I D Cm) Cm s s₄) (st:St 0 s₄.heap) (hl:s₄.heap.IsList D #[]) {m₀:Str->Option ae} (hn:s₄.heap.Ns Cm m₀) {Rr:Result->ah->Prop}
  (hR:∀s' ys,be W (Xc X I D Cm) Cm s s'->(∃m,s'.heap.Ns Cm m)->s'.heap.IsList D ys->a8 W (Xc X I D Cm) s'.heap ys.toList (items.filterMap g)->Rr (.ok .next) s'):
  codeAny W.M A (.compLoop (.ListComp elt [⟨.Name x px,iter,ifs,0⟩] csc p) 0 (.ref I) (.ref D) (compEnv csc Cm env)) Rr s₄:=by
 have hx:(compEnv csc Cm env).kindOf x=some .local:=cN G.loc
 have tabs:∀q∈W.tabs,∃o,s.heap.get? q.2=some o:=λq hq=>R.xlt _ (R.xtabs q hq)
 have few:=It.few
 have hsz:=f9
 refine codeAny_compLoop_tests
  (yz W X I D Cm St g items s) ?_ (items.length+1) ⟨0, #[],_,rfl,dR _,M₄,st,hl,hn, .nil⟩
 intro k s' zn1
 obtain⟨i,ys,m,rfl,hi,M,st',hl',hn',rys⟩:=zn1
 have Wk:=It.walks A R.handled
 by_cases hlt:i<items.length
 ·refine Wk.item i s' _ _ hlt st' λv h₁ tk1 hP st₁ k₁=> ?_
  refine ay (It.vals i v hP) λpv hpv rpv=> ?_
  have ext1:eW I s'.heap h₁:=gI k₁
  refine bA (It.own _ _ st') λoI eI sI nI=> ?_
  refine bA (It.own _ _ st₁) λoI1 eI1 sI1 nI1=> ?_
  have M₁:be W (Xc X I D Cm) Cm s {s' with heap:=h₁,toks:=tk1}:=M.chg R.inv hI ext1 (.inr nI) tabs
  have hn1:h₁.Ns Cm m:=hn'.at' λo e=>ext1 Cm o (cF hIC) e
  have hl₁:h₁.IsList D ys:=hl'.extBut ext1 (cF hID)
  refine ko (lC hx hn1 (λh₂ hn2 hs₂=> ?_) (by show(csc.kind== .class||(csc.kind== .module&&_))=false;rw[(kQ G.plain).1];rfl))
  have ext2:eW Cm h₁ h₂:=hs₂.extBut
  have M₂:be W (Xc X I D Cm) Cm s {s' with heap:=h₂,toks:=tk1+1}:=M₁.chg (s₁:={s' with heap:=h₁,toks:=tk1}) R.inv hC ext2 (.inl rfl) tabs
  have st₂:St (i+1) h₂:=Wk.frame _ _ _ st₁ λb hb o e=>ext2 b o (λq=>by
   rcases It.fps b hb with h|⟨o',h,_,_⟩
   ·exact hIC (h▸q)
   ·rw[q,hC]at h;exact am h) e
  have hl₂:h₂.IsList D ys:=hl₁.extBut ext2 hDC
  have rep2:Rep W (Xc X I D Cm) h₂ v pv:=rpv.mono (λb o nx e=>M₂.keep b o (Xc.not hI hD hC e nx) e) λb o e nx=>Xc.not hI hD hC e nx
  have rys2:a8 W (Xc X I D Cm) h₂ ys.toList ((items.take i).filterMap g):=rys.mono (λb o nx e=>ext2 b o (λq=>nx (.inr (.inr (.inr q)))) (ext1 b o (λq=>nx (.inr (.inl q))) e)) λø ø ø nx=>nx
  refine bA (It.own _ _ st₂) λoI2 eI2 sI2 nI2=> ?_
  have R2:Ready W (Xc X I D Cm) A l {s' with heap:=h₂,toks:=tk1+1}:=R.move M₂ hC (λb hb=> .inl hb) λb hb=>by
   rcases hb with q|q|q|q
   ·exact .inl q
   ·subst q;exact .inr ⟨hI,_,eI2⟩
   ·subst q
    obtain⟨o,e,_⟩:=hl₂
    exact .inr ⟨hD,_,e⟩
   ·subst q
    obtain⟨o,_,_,e,_⟩:=hn2
    exact .inr ⟨hC,_,e⟩
  have H₂:=Gu (x:=x) K G.plain G.loc R2 (.inr (.inr (.inr rfl))) hn2 (by simp) rep2
  have hmem:pv∈items:=Dv hpv
  have each:=G.each pv hmem
  have next:∀s₃,After W (Xc X I D Cm) {s' with heap:=h₂,toks:=tk1+1} s₃->St (i+1) s₃.heap/\ s₃.heap.IsList D ys:=λs₃ a₃=>by
   refine⟨Wk.frame _ _ _ st₂ λb hb o e=> ?_,?_⟩
   ·rcases It.fps b hb with h|⟨o',h,nx,_⟩
    ·subst h;rw[eI2]at e;obtain rfl:=aq e;exact a₃.solid _ _ sI2 eI2
    ·exact a₃.keep b o (Xc.not hI hD hC h nx) e
   ·refine o6 hl₂ λo e c k r=> ?_
    exact⟨o,a₃.solid _ _ ⟨⟨_,by simp[fz],c⟩,by rw[r];intro ø ø q;cases q⟩ e,c,k,r⟩
  cases hg:g pv with
  |none=>
   rw[hg]at each
   refine yx hE H₂ each hd hu λs₃ a₃=> ?_
   refine xA (next s₃ a₃) λst₃ hl3=> ?_
   simp only[oW,if_false]
   refine⟨items.length+1-(i+1),o7 ‹_›,i+1,ys,_,rfl,hlt,M₂.after a₃,st₃,hl3,a₃.ns _ _ hn2,?_⟩
   rw[yy g hpv,hg,kj]
   exact a₃.reps rys2
  |some y=>
   rw[hg]at each
   refine yx hE H₂ each.1 hd hu λs₃ a₃=> ?_
   simp only[if_true]
   have H₃:=H₂.after a₃
   refine hE.1 csc elt _ A l s₃ _ _ H₃ ((each.2)▸λq=>nomatch q) hd hu _ _ ⟨λvy q s4' e1 a₄ r4=> ?_,λe' c s4' e1 ø=>by rw[each.2]at e1;cases e1⟩
   rw[each.2]at e1
   obtain rfl:=dk e1
   have a34:=a₃.trans a₄
   refine xA (next s4' a34) λst₄ hl4=> ?_
   have hys:ys.size<=sizeLine:=by
    have r9:=rys.length
    have h9:((items.take i).filterMap g).length<=(items.take i).length:=List.length_filterMap_le ..
    rw[jw]at h9
    have:ys.toList.length=ys.size:=oO
    exact aj (bG (this.symm.trans r9)) (aj h9 (aj (mG _ _) (aj few hsz)))
   refine wpAny_list_append (hsz:=hys) hl4 λh₅ hl5 hs5=> ?_
   have ext5:eW D s4'.heap h₅:=hs5.extBut
   have M₅:be W (Xc X I D Cm) Cm s {s4' with heap:=h₅}:=(M₂.after a34).chg (tk:=s4'.toks) R.inv hD ext5 (.inr λf=>by
    refine o6 hl4 λo e ø ø d=> ?_
    exact kP e (by rw[d];intro ø ø q;cases q) f) tabs
   refine⟨items.length+1-(i+1),o7 ‹_›,i+1,ys.push vy,_,rfl,hlt,M₅,?_,hl5,(a34.ns _ _ hn2).at' λo e=>ext5 Cm o (cF hDC) e,?_⟩
   ·exact Wk.frame _ _ _ st₄ λb hb o e=>ext5 b o (λq=>by
     rcases It.fps b hb with h|⟨o',h,_,_⟩
     ·exact hID (h▸q)
     ·rw[q,hD]at h;exact am h) e
   ·rw[yy g hpv,hg,Array.toList_push]
    have up:∀b o,¬Xc X I D Cm b->s4'.heap.get? b=some o->h₅.get? b=some o:=λb o nx e=>ext5 b o (λq=>nx (.inr (.inr (.inl q)))) e
    exact((a34.reps rys2).mono up λø ø ø nx=>nx).append (.cons (r4.mono up λø ø ø nx=>nx) .nil)
 ·have:i=items.length:=mX ‹_› ‹_›
  subst this
  refine Wk.done s' _ _ st' λh₁ tk1 k₁=> ?_
  have ext1:eW I s'.heap h₁:=gI k₁
  refine bA (It.own _ _ st') λoI eI sI nI=> ?_
  refine hR {s' with heap:=h₁,toks:=tk1} ys (M.chg R.inv hI ext1 (.inr nI) tabs) ⟨m,hn'.at' λo e=>ext1 Cm o (cF hIC) e⟩ (hl'.extBut ext1 (cF hID)) ?_
  rw[Di (bP _)]at rys
  exact rys.mono (λb o nx e=>ext1 b o (λq=>nx (.inr (.inl q))) e) λø ø ø nx=>nx
theorem yB{elt iter target:ai}{ifs:List ai}{scope:Scope}{p:ax}{it acc:ae}{env:av}{Rr:Result->ah->Prop}
  (h0:codeAny W.M A (.compLoop (.ListComp elt [⟨target,iter,ifs,0⟩] scope p) 0 it acc env) Rr s) (hs:∀(Q E:ae->ah->Prop),Q it s->wpAny W.M A (pyIter it) Q E s):
  codeAny W.M A (.compStart (.ListComp elt [⟨target,iter,ifs,0⟩] scope p) 0 it acc env) Rr s:=
 codeAny_compStart_list h0 (hs _ _ h0)
theorem Gv(hE:aN b₀ W n E₀)(hE1:aN false W n E₁)(H:Here b₀ W X A l s sc env ρ){elt iter:ai}{x:Str}{px p:ax}{ifs:List ai}{csc:Scope}(hset:cW iter=true):
  SC W X l (RV W X) n A (eval (.ListComp elt [⟨.Name x px,iter,ifs,0⟩] csc p) env) s ((ca (E₀.ev sc iter ρ)).bind λv=>(aE (bQ v)).bind λitems=>(cq E₁ csc x elt ifs items).bind λvs=> .ok (.list vs)):=λhne hd hu Q E F=>by
 refine bA (nJ hne) λpv h1 h2 h3=> ?_
 rw[h3]at hne F
 refine xE (eF (fC hne)) λitems hit=> ?_
 rw[hit,m0,eM]at hne F
 refine ay (pO (fC hne)) λg G hg=> ?_
 rw[hg,eM]at F
 refine ky (kQ G.plain) λf1 f2 f3 f4 f5=> ?_
 refine wpAny_ListComp f4 f1 f5 (hE.1 sc iter X A l s env ρ H ((h1)▸λq=>nomatch q) hd hu _ _ ⟨λv q s₁ e1 a₁ r₁=> ?_,λe' c s' e1 ø=>by rw[h1]at e1;cases e1⟩) (tS hset env)
 rw[h1]at e1
 obtain rfl:=dk e1
 have H₁:=H.after a₁
 refine pN hit r₁ λo fp P St so It=> ?_
 refine Dw ?_ (by show 0<=sizeLine;exact bz (by rfl))
 refine Dx f3 (by intro y hy;simp at hy) (λh₄ hns4 hsb4=> ?_) f1
 dsimp only at hns4 hsb4 ⊢
 generalize hH1:s₁.heap.push o=H1 at It hns4 hsb4 ⊢
 have z1:H1.objs.size=s₁.heap.objs.size+1:=by rw[<-hH1,jy]
 generalize hH2:H1.push {cls:= .type "list",data:= .seq ([]:List ae).toArray}=H2 at hns4 hsb4 ⊢
 have z2:H2.objs.size=s₁.heap.objs.size+2:=by rw[<-hH2,jy,z1]
 have ne2:∀b:Nat,b<s₁.heap.objs.size->b≠H2.objs.size:=λb hb=>wU ‹_› ‹_›
 have ne3:∀b:Nat,b<H1.objs.size->b≠H2.objs.size:=λb hb=>wX z1 z2 hb
 have n12:∀a b c:Nat,b=a+1->c=a+2->a≠b/\ a≠c/\ b≠c:=λa b c h1 h2=>sv ‹_› ‹_›
 refine bM (n12 _ _ _ z1 z2) λd1 d2 d3=> ?_
 have nI:s₁.heap.get? s₁.heap.objs.size=none:=dU (bP _)
 have nD:s₁.heap.get? H1.objs.size=none:=dU (iX ‹_›)
 have nC:s₁.heap.get? H2.objs.size=none:=dU (iX ‹_›)
 have old:∀b o,s₁.heap.get? b=some o->h₄.get? b=some o:=λb o e=>
  hsb4.extBut b o (ne2 b (eK e)) (b4 _ (hH2▸b4 _ (hH1▸b4 _ e)))
 have a₄:After W X s₁ {s₁ with heap:=h₄,toks:=s₁.toks+([]:List (Str×ae)).length}:=After.of_keeps H₁.ready.inv old
 have M₄:be W (λb=>X b \/b=s₁.heap.objs.size \/b=H1.objs.size \/b=H2.objs.size) H2.objs.size s₁ {s₁ with heap:=h₄,toks:=s₁.toks+([]:List (Str×ae)).length}:=
  (a₄.moves (C:=H2.objs.size)).weaken λb o e nx q=>nx (.inl q)
 have kI:∀b o',H1.get? b=some o'->h₄.get? b=some o':=λb o' e=>hsb4.extBut b o' (ne3 b (eK e)) (b4 _ (hH2▸b4 _ e))
 have st₄:St 0 h₄:=(It.walks A H₁.ready.handled).frame _ _ _ It.start λb ø o e=>kI b o e
 have hl4:h₄.IsList H1.objs.size #[]:=⟨_,hsb4.extBut _ _ d3 (b4 _ (hH2▸et _ rfl)),rfl,_,rfl⟩
 have hn4:h₄.Ns H2.objs.size _:=hns4
 refine yB (yA (s:=s₁) hE1 H.envk G H₁.ready It hd hu nI nD nC d1 d2 d3 M₄ st₄ hl4 hn4 λs' ys M' hn' hl' rys=> ?_) λQ E hq=>(It.walks A H₁.ready.handled).self 0 _ Q E st₄ hq
 refine xE hn' λm' hm' => ?_
 refine⟨m',hm',λh' hsb' => ?_⟩
 have tabs:∀q∈W.tabs,∃o,s₁.heap.get? q.2=some o:=λq hq=>H₁.ready.xlt _ (H₁.ready.xtabs q hq)
 have M'':be W (λb=>X b \/b=s₁.heap.objs.size \/b=H1.objs.size \/b=H2.objs.size) H2.objs.size s₁ {s' with heap:=h'}:=M'.chg (tk:=s'.toks) H₁.ready.inv nC hsb'.extBut (.inl rfl) tabs
 have af:After W X s₁ {s' with heap:=h'}:=M''.close (λb o e nx q=>by
  rcases q with q|q|q|q
  ·exact nx q
  ·rw[q,nI]at e;exact am e
  ·rw[q,nD]at e;exact am e
  ·rw[q,nC]at e;exact am e) nC
 refine F.1 _ _ _ rfl (a₁.trans af) ?_
 refine o6 (hl'.extBut hsb'.extBut d3) λoD eD cD kD dD=> ?_
 refine .list eD cD dD (λhx=> ?_) ?_
 ·refine xE (H₁.ready.xlt _ hx) λo e=> ?_
  rw[nD]at e;exact am e
 ·exact rys.mono (λb o nx e=>hsb'.extBut b o (λq=>nx (.inr (.inr (.inr q)))) e) λb o e nx q=>nx (.inl q)
end
end
section
section
variable{g:Bool}{W:Wd}{X:Addr->Prop}{A:aA}{s:ah}{l:List av}{n:Nat}{sc:Scope}{env:av}{ρ:ak}{C:Calls}{E₀ E₁:Ev}
noncomputable def fj(acc:List Nat)(vs:List PV):Res PV:=match cV vs with
 |some ws=> .ok (.str (acc++ws.flatten))
 |none=> .stuck
theorem Gw(acc y:List Nat)(vs:List PV):fj acc (.str y::vs)=fj (acc++y) vs:=by
 unfold fj
 show _=_
 rw[show cV (.str y::vs)=(cV vs).map (y:: ·)from rfl]
 cases cV vs with
 |none=>rfl
 |some ws=>simp
theorem tT{y:List Nat}(h:e6 (.str y)≠ .stuck):e6 (.str y)= .ok (.str y)/\ y.length<=f6:=by
 by_cases hl:y.length<=f6
 ·exact⟨if_pos hl,hl⟩
 ·exact absurd (if_neg hl) h
theorem tU{i:Int}(h:e6 (.int i)≠ .stuck):e6 (.int i)= .ok (.str (ey i))/\ small i=true/\ (ey i).length<=f6:=by
 by_cases hl:(small i&&decide ((ey i).length<=f6))=true
 ·exact⟨if_pos hl,(ew hl).1,of_decide_eq_true (ew hl).2⟩
 ·exact absurd (if_neg hl) h
theorem yC{v:PV}(h:e6 v≠ .stuck):∃y,e6 v= .ok (.str y)/\ y.length<=f6:=by
 cases v with
 |str y=>exact⟨y,tT h⟩
 |int i=>exact⟨_,tU h|>.1,tU h|>.2.2⟩
 |_=>exact absurd rfl h
theorem yD{ev:ai->ak->Res PV}{p:ai}{ρ:ak}(h:gL ev p ρ≠ .stuck):(∃e q,p= .FormattedValue e (-1) none q/\ gL ev p ρ=(ev e ρ).bind e6) \/∃x k q,p= .Constant (.str x) k q/\ gL ev p ρ=e6 (.str (ao x)):=by
 cases p with
 |FormattedValue e c f q=>
  by_cases hc:c= -1/\ f.isNone=true
  ·obtain⟨rfl,hf⟩:=hc
   cases f with
   |none=>exact .inl ⟨e,q,rfl,rfl⟩
   |some _=>exact bZ hf
  ·exact absurd (if_neg hc) h
 |Constant c k q=>
  cases hc:ng c with
  |none=>
   have h:(match ng c with|some x=>e6 (.str (ao x))|none=> .stuck)≠ .stuck:=h
   rw[hc]at h;exact absurd rfl h
  |some x=>
   obtain rfl:=xb hc
   exact .inr ⟨x,k,q,rfl,rfl⟩
 |_=>exact absurd rfl h
theorem Gx(hE:aN g W n E₀)(H:Here g W X A l s sc env ρ)(p:ai):SC W X l (RV W X) n A (eval p env) s (gL (E₀.ev sc) p ρ):=λhne hd hu Q E F=>by
 have hsz:=f9
 have ht:=gt
 rcases yD hne with ⟨e,pos,rfl,e0⟩|⟨x,k,pos,rfl,e0⟩
 ·rw[e0]at hne F
  refine wpAny_FormattedValue_plain ((hE.1 sc e X A l s env ρ H).step hne hd hu F λv q s₁ ø a1 r1 ne1 F1=> ?_)
  refine ay (yC ne1) λy hy hl=> ?_
  have hp:f6=60000:=rfl
  cases r1 with
  |str x t=>
   refine xA (tT ne1) λk1 k2=> ?_
   rw[k1]at F1
   rw[b7]at k2
   exact wpAny_formatField_str (F1.1 _ _ _ rfl (After.refl a1.inv) (.str x t)) (F1.1 _ _ _ rfl (After.tok a1.inv) (.str x _)) (aL ‹_› (by rfl))
  |int i t=>
   refine bM (tU ne1) λk1 k2 ø=> ?_
   rw[k1]at F1
   exact wpAny_formatField_int (tK k2) (F1.1 _ _ _ rfl (After.tok a1.inv) (.str _ _))
  |_=>exact absurd rfl ne1
 ·rw[e0]at hne F
  refine xA (tT hne) λk1 k2=> ?_
  rw[k1]at F
  exact kn (F.1 _ _ _ rfl (After.tok H.ready.inv) (.str x _))
theorem Gy{p:ai}{v:PV}(h:gL (E₀.ev sc) p ρ= .ok v):∃y,v= .str y/\ y.length<=f6:=by
 have key:∀q,e6 q= .ok v->∃y,v= .str y/\ y.length<=f6:=λq hq=>by
  refine ay (yC (v:=q) (by rw[hq];exact λe=>nomatch e)) λy h1 h2=> ?_
  rw[hq]at h1;obtain rfl:=dk h1
  exact⟨y,rfl,h2⟩
 rcases yD (by rw[h];exact λe=>nomatch e)with ⟨e,pos,rfl,e0⟩|⟨x,k,pos,rfl,e0⟩
 ·rw[e0]at h
  cases q:E₀.ev sc e ρ with
  |ok w=>rw[q]at h;exact key w h
  |exc c=>rw[q]at h;exact jD h
  |stuck=>rw[q]at h;exact iA h
 ·exact key _ (e0.symm.trans h)
theorem yE(hE:aN g W n E₀)(hd:A.depth+n<=900)(hu:A.units+10*n<=9000):∀(parts:List ai) (s:ah) (acc:Str),Here g W X A l s sc env ρ->acc.length+f6*parts.length<=aX->
  ((bL (gL (E₀.ev sc)) parts ρ).bind (fj (ao acc)))≠ .stuck->∀(Q E:ae->ah->Prop),cQ W X l (RV W X) s ((bL (gL (E₀.ev sc)) parts ρ).bind (fj (ao acc))) Q E->
  Joins W.M A E (evalEach parts env) acc (λout s₁=>out.length<=sizeLine/\ Q (.str out s₁.toks) {s₁ with toks:=s₁.toks+1}) s
 |[],s,acc,H,hl,hne,Q,E,F=>by
  have hsz:=f9
  refine⟨aj ‹_› ‹_›,F.1 _ _ _ rfl (After.tok H.ready.inv) ?_⟩
  rw[List.flatten_nil,kj];exact .str acc _
 |p::r,s,acc,H,hl,hne,Q,E,F=>by
  have hsz:=f9
  unfold bL at hne F
  rw[Res.bind_assoc]at hne F
  refine(Gx hE H p).step hne hd hu F λv q s₁ e1 a1 r1 ne1 F1=> ?_
  refine ay (Gy e1) λy zq1 hy=> ?_;subst zq1
  refine r1.strE λx t zq2 zq3=> ?_;subst zq2 zq3
  rw[Res.bind_assoc]at ne1 F1
  have e:(λvs=>(Res.ok (PV.str (ao x)::vs)).bind (fj (ao acc)))=fj (ao (acc++x)):=by
   funext vs
   rw[eM,Gw,i9]
  rw[e]at ne1 F1
  rw[b7]at hy
  have hlen:(acc++x).length=acc.length+x.length:=Str.length_append _ _
  rw[gE,Nat.mul_add,Nat.mul_one]at hl
  exact⟨x,t,rfl,aj (Em hlen hy hl) hsz,yE hE hd hu r s₁ (acc++x) (H.after a1) (wY hlen hy hl) ne1 Q E F1⟩
theorem Gz(hE:aN g W n E₀)(H:Here g W X A l s sc env ρ){parts:List ai}{p:ax}(h2:2<=parts.length)(h16:parts.length<=16):
  SC W X l (RV W X) n A (eval (.JoinedStr parts p) env) s ((bL (gL (E₀.ev sc)) parts ρ).bind λvs=>match cV vs with
    |some ws=> .ok (.str ws.flatten)
    |none=> .stuck):=λhne hd hu Q E F=>by
 have ht:=gt
 have hp:f6=60000:=rfl
 have e:(λvs=>(match cV vs with
    |some ws=> .ok (.str ws.flatten)
    |none=> .stuck:Res PV))=fj (ao Str.empty):=by
  funext vs
  unfold fj
  cases cV vs<;>rfl
 rw[e]at hne F
 match parts,h2 with
 |a::b::r,_=>
  refine wpAny_JoinedStr (yE hE hd hu _ s Str.empty H ?_ hne Q E F)
  have:Str.empty.length=0:=rfl
  rw[hp]
  exact aj (bG (eV _)) (aj (lr 60000 h16) (by decide+kernel))
end
end
section
structure pQ(W:Wd)(n:Nat)(E₀ E₁:Ev):Prop where
 any:∀X A l s sc env ρ,Here true W X A l s sc env ρ->∀f p elt x px iter gsc gp pos,f=aa "any" ->cj sc f=true->eN gsc iter=true->
  SC W X l (RV W X) n A (eval (.Call (.Name f p) [.GeneratorExp elt [⟨.Name x px,iter,[],0⟩] gsc gp] [] pos) env) s
   ((ca (E₀.ev sc iter ρ)).bind λv=>(aE (bQ v)).bind λitems=>(cq E₁ gsc x elt [] items).bind λvs=>(aE (i4 vs)).bind λbs=> .ok (.bool (bs.any id)))
 join:∀X A l s sc env ρ,Here true W X A l s sc env ρ->∀(y:Str) (t:bE) elt x px iter gsc gp pos pl Q E,eN gsc iter=true->A.depth+n<=900->A.units+10*n<=9000->
  ((ca (E₀.ev sc iter ρ)).bind λv=>(aE (bQ v)).bind λitems=>(cq E₁ gsc x elt [] items).bind λvs=>aE (cn (aa "join") (ao y) [.list vs]))≠ .stuck->
  cQ W X l (RV W X) s ((ca (E₀.ev sc iter ρ)).bind λv=>(aE (bQ v)).bind λitems=>(cq E₁ gsc x elt [] items).bind λvs=>aE (cn (aa "join") (ao y) [.list vs])) Q E->
  wpAny W.M A (getMethod (.str y t) (aa "join") pl) (λp s₂=>wpAny W.M A (callWith pos p.1 p.2 (eG env [.GeneratorExp elt [⟨.Name x px,iter,[],0⟩] gsc gp]) []) Q E s₂) E s
section
variable{g:Bool}{W:Wd}{X:Addr->Prop}{A:aA}{s:ah}{l:List av}{n:Nat}{sc:Scope}{env:av}{ρ:ak}{C:Calls}{E₀ E₁:Ev}
theorem eH{t:Sem ae}:SC W X l (RV W X) n A t s Res.stuck:=λh=>absurd rfl h
theorem gv{x y:Str}(h:¬x=y):(x==y)=false:=by
 cases q:x==y with
 |false=>rfl
 |true=>exact absurd (cN q) h
theorem GA(O:aZ W)(hC:bu W n C)(H:Here g W X A l s sc env ρ)(x:Str)(p:ax):SC W X l (RV W X) n A (eval (.Name x p) env) s (sW C sc x ρ):=by
 unfold sW
 split
 ·exact eH
 ·rename_i hd
  cases hv:ρ.lookup x with
  |some v=>exact FV H hv (gv hd)
  |none=>
   show SC _ _ _ _ _ _ _ _ (if cj sc x=true then aE (C.glob x)else .stuck)
   split
   ·rename_i hgl
    cases hq:C.glob x with
    |none=>exact eH
    |some v=>
     refine dX (hC.glob x v hq) λy t h1 h2=> ?_
     subst h2
     exact λhne ø ø Q E F=>pI O H (ja H hgl) (gv hd) h1 (F.1 _ _ _ rfl (After.refl H.ready.inv) (.str y t))
   ·exact eH
theorem GB(H:Here g W X A l s sc env ρ)(x:ai)(p:ax):SC W X l (RV W X) n A (eval (.UnaryOp .USub x p) env) s (sX x):=by
 unfold sX
 cases h:(m9 x).bind sH with
 |none=>exact eH
 |some i=>
  refine bl h λc hc h2=> ?_
  refine dB (sD hc) λk q e=> ?_
  rw[e,EB h2]
  exact λhne ø ø Q E F=>wb (d8 (Dy (F.1 _ _ _ rfl (After.of_keeps (h':=s.heap) (tk:=s.toks+1+1) H.ready.inv λø ø e=>e) (.int _ _))))
theorem GC(hE:aN g W n E₀)(H:Here g W X A l s sc env ρ)(v i:ai)(p:ax):SC W X l (RV W X) n A (eval (.Subscript v i p) env) s (sY E₀ sc v i ρ):=by
 unfold sY
 cases h:sG i with
 |none=>exact Gi hE H λa b c d q=>by rw[q]at h;exact lK h
 |some q=>
  obtain⟨lo,up,st⟩:=q
  refine xE (EA h) λp' e=> ?_
  rw[e]
  cases st with
  |none=>exact Gh hE H
  |some _=>exact eH
theorem yF(O:aZ W)(hE:aN g W n E₀)(hC:bu W n C)(H:Here g W X A l s sc env ρ){f:Str}{p pos:ax}(hgl:cj sc f=true)(hdb:(f==("__debug__" :Str))=false) (as:List ai):SC W X l (RV W X) n A (eval (.Call (.Name f p) as [] pos) env) s (kJ C E₀ sc f as ρ):=by
 unfold kJ
 split
 ·rename_i h
  rw[aI]at h
  exact Gm O hE hC H hgl hdb h.1 h.2
 ·exact eH
theorem GD{as:List ai}{q:ai×Str}(h:pj as=some q):∃p,as=[q.1, .Name q.2 p]:=by
 refine bl h λc hc h2=> ?_
 refine eZ h2 λx hx h3=> ?_
 refine xE (iY hx) λp e=> ?_
 subst h3
 exact⟨p,by rw[pc hc,e]⟩
theorem GE(O:aZ W)(hE:aN g W n E₀)(hC:bu W n C)(H:Here g W X A l s sc env ρ){f:Str}{p pos:ax}(hgl:cj sc f=true)(hdb:(f==("__debug__" :Str))=false) (as:List ai):SC W X l (RV W X) n A (eval (.Call (.Name f p) as [] pos) env) s (nq C E₀ sc f as ρ):=by
 unfold nq
 cases h:pj as with
 |none=>exact yF O hE hC H hgl hdb as
 |some q=>
  show SC _ _ _ _ _ _ _ _ (if f=aa "isinstance" then(if(cj sc q.2&&(ρ.lookup q.2).isNone&&bv [q.1])=true then(E₀.ev sc q.1 ρ).bind λv=>(aE (dO v q.2)).bind λb=> .ok (.bool b)else .stuck)else kJ C E₀ sc f as ρ)
  split
  ·rename_i hf
   split
   ·rename_i hh
    rw[aI,aI]at hh
    refine xE (GD h) λp' zq1=> ?_;subst zq1
    exact Gn O hE H hf hgl hh.2 hh.1.1
   ·exact eH
  ·exact yF O hE hC H hgl hdb as
theorem yG{as:List ai}{q:ai×Str×ai×Scope}(h:kH as=some q):∃px gp,as=[.GeneratorExp q.1 [⟨.Name q.2.1 px,q.2.2.1,[],0⟩] q.2.2.2 gp]:=by
 refine bl h λe he h2=> ?_
 refine bl h2 λc hc h3=> ?_
 refine bl h3 λcp hcp h4=> ?_
 refine bl h4 λx hx h5=> ?_
 refine xA (eA h5) λhi h6=> ?_
 refine xE (Ey hc) λgp e1=> ?_
 refine xE (iY hx) λpx e2=> ?_
 obtain⟨t,it,ifs,a⟩:=cp
 subst h6
 exact⟨px,gp,by rw[hJ he,e1,hJ hcp,<-hi.2,<-gY.mp hi.1,<-e2]⟩
theorem GF(O:aZ W)(hE:aN g W n E₀)(hC:bu W n C)(hg:g=true->pQ W n E₀ E₁)(H:Here g W X A l s sc env ρ)(f:Str)(p pos:ax)(as:List ai):SC W X l (RV W X) n A (eval (.Call (.Name f p) as [] pos) env) s (jG C g E₀ E₁ sc f as ρ):=by
 unfold jG
 split
 ·exact eH
 ·rename_i hc
  simp only[gZ,not_or,lz,mO,Bool.not_eq_false,decide_eq_true_eq]at hc
  refine xA hc λzn1 hdb=> ?_
  refine xA zn1 λhgl hloc=> ?_
  cases h:kH as with
  |none=>exact GE O hE hC H hgl (gv hdb) as
  |some q=>
   show SC _ _ _ _ _ _ _ _ (if(f=aa "any" &&g&&eN q.2.2.2 q.2.2.1)=true then(ca (E₀.ev sc q.2.2.1 ρ)).bind λv=>(aE (bQ v)).bind λitems=>(cq E₁ q.2.2.2 q.2.1 q.1 [] items).bind λvs=>(aE (i4 vs)).bind λbs=> .ok (PV.bool (bs.any id))else .stuck)
   split
   ·rename_i hh
    simp only[aI,decide_eq_true_eq]at hh
    refine dB (yG h) λpx gp zq2=> ?_;subst zq2
    exact(hg hh.1.2).any X A l s sc env ρ (hh.1.2▸H) f p q.1 q.2.1 px q.2.2.1 q.2.2.2 gp pos hh.1.1 hgl hh.2
   ·exact eH
theorem GG(hE:aN g W n E₀)(hC:bu W n C)(hg:g=true->pQ W n E₀ E₁)(H:Here g W X A l s sc env ρ)(o:ai)(m:Str)(apos pos:ax)(args:List ai):SC W X l (RV W X) n A (eval (.Call (.Attribute o m apos) args [] pos) env) s (jH C g E₀ E₁ sc o m apos args pos ρ):=by
 unfold jH
 split
 ·exact eH
 ·rename_i hb
  simp only[lz,Bool.not_eq_false,aI,decide_eq_true_eq]at hb
  obtain⟨zn2,hb4⟩:=hb
  obtain⟨zn3,hb3⟩:=zn2
  obtain⟨hb1,hb2⟩:=zn3
  intro hne hd hu Q E F
  refine pM hb1 hb3 hb4 hb2 ((hE.1 sc o X A l s env ρ H).step hne hd hu F λvo x s₁ ø a1 r1 ne1 F1=>λpl=> ?_)
  cases r1 with
  |str y t=>
   have ne2:lP g E₀ E₁ sc m (ao y) args ρ≠ .stuck:=ne1
   have F2:cQ W X l (RV W X) s₁ (lP g E₀ E₁ sc m (ao y) args ρ) Q E:=F1
   clear ne1 F1
   unfold lP at ne2 F2
   cases h:kH args with
   |none=>
    rw[h]at ne2 F2
    have ne3:(if i8.contains m=true then(bL (E₀.ev sc) args ρ).bind λvs=>aE (cn m (ao y) vs)else .stuck)≠ .stuck:=ne2
    have F3:cQ W X l (RV W X) s₁ (if i8.contains m=true then(bL (E₀.ev sc) args ρ).bind λvs=>aE (cn m (ao y) vs)else .stuck) Q E:=F2
    clear ne2 F2
    by_cases hm:i8.contains m=true
    ·rw[if_pos hm]at ne3 F3
     exact Go hE hm (H.after a1) ne3 hd hu F3
    ·exact absurd (if_neg hm) ne3
   |some q=>
    rw[h]at ne2 F2
    have ne3:(if(m=aa "join" &&g&&eN q.2.2.2 q.2.2.1)=true then(ca (E₀.ev sc q.2.2.1 ρ)).bind λv=>(aE (bQ v)).bind λitems=>(cq E₁ q.2.2.2 q.2.1 q.1 [] items).bind λvs=>aE (cn m (ao y) [.list vs])else .stuck)≠ .stuck:=ne2
    have F3:cQ W X l (RV W X) s₁ (if(m=aa "join" &&g&&eN q.2.2.2 q.2.2.1)=true then(ca (E₀.ev sc q.2.2.1 ρ)).bind λv=>(aE (bQ v)).bind λitems=>(cq E₁ q.2.2.2 q.2.1 q.1 [] items).bind λvs=>aE (cn m (ao y) [.list vs])else .stuck) Q E:=F2
    clear ne2 F2
    by_cases hh:(m=aa "join" &&g&&eN q.2.2.2 q.2.2.1)=true
    ·rw[if_pos hh]at ne3 F3
     simp only[aI,decide_eq_true_eq]at hh
     obtain⟨zn4,h3⟩:=hh
     obtain⟨h1,h2⟩:=zn4
     subst h1
     refine dB (yG h) λpx gp zq2=> ?_;subst zq2
     exact(hg h2).join X A l s₁ sc env ρ (h2▸(H.after a1)) y t q.1 q.2.1 px q.2.2.1 q.2.2.2 gp pos pl Q E h3 hd hu ne3 F3
    ·exact absurd (if_neg hh) ne3
  | @inst x d _ es' k fs e1 e2 n1 n2 fl=>
   have r1':=Rep.inst (W:=W) (X:=X) e1 e2 n1 n2 fl
   have ne2:(if((fs.lookup m).isNone&&hZ.contains m)=true then(bL (E₀.ev sc) args ρ).bind λvs=>C.meth _ m (.inst _ fs::vs)else .stuck)≠ .stuck:=ne1
   have F2:cQ W X l (RV W X) s₁ (if((fs.lookup m).isNone&&hZ.contains m)=true then(bL (E₀.ev sc) args ρ).bind λvs=>C.meth _ m (.inst _ fs::vs)else .stuck) Q E:=F1
   by_cases hm:((fs.lookup m).isNone&&hZ.contains m)=true
   ·rw[if_pos hm]at ne2 F2
    rw[aI]at hm
    obtain⟨fv,hget,hcal,hk⟩:=hC.meth _ m hm.2
    refine hget A E s₁ x d es' k pl _ a1.inv e1 e2 ?_ ?_
    ·unfold shadowIn
     simp only
     rw[Gq fl (by simpa using hm.1)];rfl
    refine hcal A E s₁ pos [.ref x] _ Q (nH args) (pL hE (H.after a1) ne2 hd hu F2 λvs xs s₂ a2 r2 ne3 F3=>⟨a2.inv,?_⟩)
    exact hk (.inst _ fs::xs) A l s₂ X (.ref x::vs) ((H.after a1).after a2).ready (.cons (a2.rep r1') r2) ne3 hd hu Q E F3
   ·exact absurd (if_neg hm) ne2
  |_=>exact(ne1 rfl).elim
theorem GH(hE:aN g W n E₀)(hE1:aN false W n E₁)(H:Here g W X A l s sc env ρ)(elt:ai)(gs:List oF)(csc:Scope)(p:ax):SC W X l (RV W X) n A (eval (.ListComp elt gs csc p) env) s (nr E₀ E₁ sc elt gs csc ρ):=by
 unfold nr
 cases hg:ft gs with
 |none=>exact eH
 |some c=>
  obtain⟨t,iter,ifs,a⟩:=c
  show SC _ _ _ _ _ _ _ _ (match fW t with|none=> .stuck|some x=>s0 E₀ E₁ sc elt csc ⟨t,iter,ifs,a⟩ x ρ)
  cases hx:fW t with
  |none=>exact eH
  |some x=>
   refine xE (iY hx) λpx e=> ?_
   rw[hJ hg,e]
   by_cases ha:a=0
   ·subst ha
    cases hs:cW iter with
    |false=>exact λhne=>absurd (by show(if(0:Int)=0 then(if(!cW iter)=true then Res.stuck else _)else _)=_;rw[if_pos rfl,hs];rfl) hne
    |true=>
     have:=Gv (csc:=csc) (elt:=elt) (x:=x) (px:=px) (ifs:=ifs) (p:=p) hE hE1 H hs
     show SC _ _ _ _ _ _ _ _ (if(0:Int)=0 then(if(!cW iter)=true then Res.stuck else _)else _)
     rw[if_pos rfl,hs];exact this
   ·exact λhne=>absurd (if_neg ha) hne
theorem tV{b:Bool}{t:Sem ae}{r:Res PV}(h:b=true->SC W X l (RV W X) n A t s r):SC W X l (RV W X) n A t s (if b=true then r else .stuck):=by
 cases b with
 |true=>exact h rfl
 |false=>exact eH
theorem yH(O:aZ W)(hE:aN g W n E₀)(hE1:aN false W n E₁)(hC:bu W n C)(hg:g=true->pQ W n E₀ E₁)(H:Here g W X A l s sc env ρ)(e:ai):
  SC W X l (RV W X) n A (eval e env) s (xh C g E₀ E₁ sc e ρ):=by
 cases e with
 |Constant c k p=>exact FU H
 |Name x p=>exact GA O hC H x p
 |Tuple es k p=>exact tV λh=>by rw[aI,decide_eq_true_eq]at h;exact FZ hE H h.1 h.2
 |List es p=>exact tV λh=>by rw[aI,decide_eq_true_eq]at h;exact Ga hE H h.1 h.2
 |BinOp a op b p=>exact FW hE O H
 |UnaryOp op x p=>
  cases op with
  |Not=>exact FX hE H
  |USub=>exact GB H x p
  |_=>exact eH
 |Compare a ops rs p=>exact Gd hE hC H
 |BoolOp op vs p=>exact tO hE _ s H
 |IfExp t b o p=>exact FY hE H
 |Subscript v i p=>exact GC hE H v i p
 |Call f as ks p=>
  cases ks with
  |cons=>exact eH
  |nil=>
   show SC _ _ _ _ _ _ _ _ (match hO f with|some q=>jG C g E₀ E₁ sc q.1 as ρ|none=>match pe f with|some q=>jH C g E₀ E₁ sc q.1 q.2.1 q.2.2 as p ρ|none=> .stuck)
   cases h:hO f with
   |some q=>rw[lL h];exact GF O hE hC hg H q.1 q.2 p as
   |none=>
    cases h2:pe f with
    |some q=>rw[Ex h2];exact GG hE hC hg H q.1 q.2.1 q.2.2 p as
    |none=>exact eH
 |Attribute o a p=>
  show SC _ _ _ _ _ _ _ _ (sZ C E₀ sc o a ρ)
  unfold sZ
  split
  ·exact eH
  ·rename_i hb
   exact Gr O hE hC H (by simpa using hb)
 |ListComp elt gs csc p=>exact GH hE hE1 H elt gs csc p
 |JoinedStr parts p=>exact tV λh=>by rw[aI,decide_eq_true_eq,decide_eq_true_eq]at h;exact Gz hE H h.1 h.2
 |_=>exact eH
theorem iG(O:aZ W)(hC:bu W n C):∀k,aN false W n (pE C false k)
 |0=>⟨λø ø ø ø ø ø ø ø ø hne=>absurd rfl hne,λø ø ø ø ø ø ø ø ø hne=>absurd rfl hne⟩
 |k+1=>⟨λsc e X A l s env ρ H=>yH O (iG O hC k) (iG O hC k) hC (λh=>wg h) H e,λsc e X A l s env ρ H=>yn (iG O hC k) hC H e⟩
theorem SC.mono{γ β:Type}{R:Heap->γ->β->Prop}{t:Sem γ}{r:Res β}{m:Nat}(h:SC W X l R n A t s r)(hm:n<=m):SC W X l R m A t s r:=λhne hd hu=>h hne (r8 ‹_› ‹_›) (sd ‹_› ‹_›)
theorem aN.mono{m:Nat}(h:aN g W n E₀)(hm:n<=m):aN g W m E₀:=⟨λsc e X A l s env ρ H=>(h.1 sc e X A l s env ρ H).mono hm,λsc e X A l s env ρ H=>(h.2 sc e X A l s env ρ H).mono hm⟩
theorem bu.mono{m:Nat}(h:bu W n C)(hm:n<=m):bu W m C where
 fn:=λf hf=>by obtain⟨fv,h1,h2,h3⟩:=h.fn f hf;exact⟨fv,h1,h2,λargs A l s X vs R r=>(h3 args A l s X vs R r).mono hm⟩
 meth:=λc m hf=>by obtain⟨fv,h1,h2,h3⟩:=h.meth c m hf;exact⟨fv,h1,h2,λargs A l s X vs R r=>(h3 args A l s X vs R r).mono hm⟩
 eq:=λc fs d gs A l s X va vb R ra rb=>(h.eq c fs d gs A l s X va vb R ra rb).mono hm
 prop:=λc a fs hf A l s X va R ra=>(h.prop c a fs hf A l s X va R ra).mono hm
 glob:=h.glob
end
end
section
structure Lv(l:List av)(D U:Nat)(A:aA):Prop where
 handled:A.handled=none
 frames:A.frames=some l
 guards:A.guards=some []
 depth:A.depth<=D
 units:A.units<=U
structure lW(W:Wd)(Lv:aA->Prop)(I:Addr)(fp:List Addr)(n:Nat)(P:Nat->ae->Prop)(St:Nat->ah->Prop)(Fn:ah->Prop):Prop where
 frame:∀i (s:ah) h' tk,St i s->(∀b∈fp,∀o,s.heap.get? b=some o->h'.get? b=some o)->St i {s with heap:=h',toks:=tk}
 item:∀A,Lv A->∀i (s:ah) (Q:Option ae->ah->Prop) (E:ae->ah->Prop),i<n->St i s->
  (∀v s',P i v->St (i+1) s'->(∀b o,dn o->b∉fp->s.heap.get? b=some o->s'.heap.get? b=some o)->Q (some v) s')->wpAny W.M A (pyNext (.ref I)) Q E s
 done:∀A,Lv A->∀(s:ah) (Q:Option ae->ah->Prop) (E:ae->ah->Prop),St n s->(∀s',Fn s'->(∀b o,dn o->b∉fp->s.heap.get? b=some o->s'.heap.get? b=some o)->Q none s')->wpAny W.M A (pyNext (.ref I)) Q E s
 self:∀A,Lv A->∀i (s:ah) (Q:ae->ah->Prop) (E:ae->ah->Prop),St i s->Q (.ref I) s->wpAny W.M A (pyIter (.ref I)) Q E s
 fin:∀i s,i<=n->St i s->Fn s
 gen:∀i s,St i s->s.TypeIs (.ref I) "generator"
section
variable{W:Wd}{L:aA->Prop}{A:aA}{I:Addr}{fp:List Addr}{n:Nat}{P:Nat->ae->Prop}{St:Nat->ah->Prop}{Fn:ah->Prop}{R:Result->ah->Prop}
theorem GI(T:lW W L I fp n P St Fn)(hA:L A.in1)(tr:Nat->Bool)(htr:∀i v,P i v->v= .bool (tr i)):∀(k i:Nat) (s:ah),n-i=k->i<=n->St i s->
  (∀s',Fn s'->R (.ok (.ret (.bool (((iU n).drop i).any tr)))) s')->codeAny W.M A (.builtin "any.loop" ⟨[.ref I],[]⟩) R s:=by
 intro k
 induction k with
 |zero=>
  intro i s hk hi hst hR
  have hin:i=n:=sx ‹_› ‹_›
  subst hin
  refine oX Pz ?_
  rw[oY wk _]
  refine aJ (T.done _ hA s _ _ hst λs' hm ø=> ?_)
  refine aJ (rM (bk ?_))
  have:=hR s' hm
  rw[rH (by simp)]at this
  exact this
 |succ k ih=>
  intro i s hk hi hst hR
  have hlt:i<n:=sq ‹_›
  have hd:(iU n).drop i=i::(iU n).drop (i+1):=by
   rw[wm (by simpa using hlt)];simp
  refine oX Pz ?_
  rw[oY wk _]
  refine aJ (T.item _ hA i s _ _ hlt hst λv s' hP hst' hm=> ?_)
  have hv:=htr i v hP
  subst hv
  refine aJ (iV (Dc ?_))
  refine aJ (wpAny_letGo ?_)
  cases hb:tr i with
  |false=>
   simp only[oW,if_false]
   refine bk ⟨rN wk _,ih (i+1) _ (mW ‹_›) hlt hst' λs'' hm' => ?_⟩
   have:=hR s'' hm'
   rw[hd,rL,hb,Bool.false_or]at this
   exact this
  |true=>
   simp only[if_true]
   refine aJ (rM (bk ?_))
   have:=hR s' (T.fin _ _ hlt hst')
   rw[hd,rL,hb,Bool.true_or]at this
   exact this
theorem GJ{s:ah}{E Q:ae->ah->Prop}(T:lW W L I fp n P St Fn)(h1:L A.in1)(tr:Nat->Bool)(htr:∀i v,P i v->v= .bool (tr i))(hst:St 0 s)(hQ:∀s',Fn s'->Q (.bool ((iU n).any tr)) s'):
  wpAny W.M A (call (.builtin "any") [.ref I]) Q E s:=by
 refine call_function_tree PySem.F.kind_any PySem.F.plain_any PySem.F.entry_any (PySem.F.args_any1 _) ?_
 unfold Builtin.«any»
 refine aJ (m:=oneArg "any" _) (bk ?_)
 refine aJ (T.self _ h1 0 s _ _ hst ?_)
 exact bk ⟨rN wk _,GI T h1 tr htr n 0 s rfl (dR _) hst λs' hm=>by simpa using hQ s' hm⟩
theorem GK(T:lW W L I fp n P St Fn)(hA:L A.in1)(hn:n<=sizeLine)(S:Addr)(hSf:S∉fp)(res:ae):
  ∀(k i:Nat) (s:ah) (acc:Array ae) (c:Nat),n-i=k->i<=n->St i s->s.heap.get? S=some {cls:= .type "list",dict:=none,data:= .seq acc c,slots:= #[]}->ItemsOf P acc i->
  (∀s' acc' c',Fn s'->s'.heap.get? S=some {cls:= .type "list",dict:=none,data:= .seq acc' c',slots:= #[]}->ItemsOf P acc' n->R (.ok (.ret res)) s')->
  codeAny W.M A (.builtin "list.extend.loop" ⟨[.ref S, .ref I,res],[]⟩) R s:=by
 have sol:∀acc c,dn {cls:= .type "list",dict:=none,data:= .seq acc c,slots:= #[]}:=λø ø=>⟨⟨"list",by simp[fz],rfl⟩,by intro ø ø q;cases q⟩
 intro k
 induction k with
 |zero=>
  intro i s acc c hk hi hst hS hacc hR
  have hin:i=n:=sx ‹_› ‹_›
  subst hin
  refine oX PA ?_
  rw[oY wn _]
  refine aJ (T.done _ hA s _ _ hst λs' hm hs=> ?_)
  exact bk (hR s' acc c hm (hs S _ (sol _ _) hSf hS) hacc)
 |succ k ih=>
  intro i s acc c hk hi hst hS hacc hR
  have hlt:i<n:=sq ‹_›
  refine oX PA ?_
  rw[oY wn _]
  refine aJ (T.item _ hA i s _ _ hlt hst λv s' hP hst' hs=> ?_)
  have hS':=hs S _ (sol _ _) hSf hS
  refine aJ ?_
  refine Dz hS' rfl (bk ⟨rN wn _,ih (i+1) _ (acc.push v) _ (mW ‹_›) hlt (T.frame _ s' _ s'.toks hst' λb hb o e=> ?_) (wo _ hS' rfl) (hacc.push hP) hR⟩)
   (by rw[hacc.1];exact aj ‹_› ‹_›) (by show(acc.push v).size<=sizeLine+1;rw[Array.size_push,hacc.1];exact bX ‹_› ‹_› (by rfl))
  exact(wp _ _ (λh:S=b=>hSf (by rw[h];exact hb))).trans e
end
end
section
section
variable{W:Wd}{L:aA->Prop}{A:aA}{I:Addr}{fp:List Addr}{n:Nat}{P:Nat->ae->Prop}{St:Nat->ah->Prop}{Fn:ah->Prop}{R:Result->ah->Prop}{s:ah}
theorem GL{E:ae->ah->Prop}{Q:List ae->ah->Prop}(T:lW W L I fp n P St Fn)(hA:L A.in1)(hst:St 0 s)(hfp:∀b∈fp,b<s.heap.objs.size)(hI:I∈fp)
  (hQ:∀s' acc,Fn s'->ItemsOf P acc n->Q acc.toList s') (hn:n<=sizeLine):wpAny W.M A (collect (.ref I)) Q E s:=by
 have hSf:s.heap.objs.size∉fp:=λhm=>js _ (hfp _ hm)
 have hSI:s.heap.objs.size≠I:=λe=>hSf (e▸hI)
 unfold collect
 refine aJ (wpAny_runValue (oX PySem.F.entry_proto_collect ?_))
 rw[oY PySem.F.plain_proto_collect _]
 refine aJ (rK ?_)
 refine bk ⟨rN PB _,oX PySem.F.entry_list_iadd ?_⟩
 rw[oY PB _]
 have hst1:=T.frame 0 s (s.heap.push {cls:= .type "list",data:= .seq ([]:List ae).toArray}) s.toks hst λb ø o e=>b4 _ e
 have hT:=T.gen 0 _ hst1
 show wpAny _ A.in1 (PC (.ref s.heap.objs.size) (.ref I) (.ref s.heap.objs.size)) _ _ _
 unfold PC
 refine aJ (wpAny_typeOf hT ?_)
 have h1:PD (.ref s.heap.objs.size) (.ref I)=false:=by simp[PD,hSI]
 have h2:(rP "generator" ==rP "list")=false:=by decide
 have h3:(rP "generator" ==rP "tuple")=false:=by decide
 simp only[h1,h2,h3,Bool.or_false,oW,if_false]
 refine aJ (T.self _ hA 0 _ _ _ hst1 ?_)
 refine aJ (iV ?_)
 unfold Builtin.List.listLengthHint
 refine aJ (De hT PySem.F.gen_no_len ?_)
 refine aJ (De hT PySem.F.gen_no_hint ?_)
 refine bk ?_
 show wpAny _ A.in1 (rule "list.extend.makes-room" >>=λø=>Builtin.List.listTouch (.ref s.heap.objs.size)>>=λø=>
  again (.builtin "list.extend.loop" ⟨[.ref s.heap.objs.size, .ref I, .ref s.heap.objs.size],[]⟩)) _ _ _
 refine aJ (rM ?_)
 have hS₁:(s.heap.push {cls:= .type "list",data:= .seq ([]:List ae).toArray}).get? s.heap.objs.size=some {cls:= .type "list",data:= .seq ([]:List ae).toArray}:=et _ rfl
 refine aJ ?_
 refine aJ (Dz hS₁ rfl ?_)
 have hS2:=wo (wq (·.push kl)) hS₁ rfl
 refine Dz hS2 rfl ?_
 have oth:∀b o,b≠s.heap.objs.size->(s.heap.push {cls:= .type "list",data:= .seq ([]:List ae).toArray}).get? b=some o->
   (((s.heap.push {cls:= .type "list",data:= .seq ([]:List ae).toArray}).update s.heap.objs.size (wq (·.push kl))).update s.heap.objs.size (wq (·.pop))).get? b=some o:=
  λb o hb e=>(wp _ _ (cF hb)).trans ((wp _ _ (cF hb)).trans e)
 refine bk ⟨rN wn _,GK T hA hn _ hSf _ n 0 _ _ _ rfl (dR _)
  (T.frame 0 ({s with heap:=s.heap.push {cls:= .type "list",data:= .seq ([]:List ae).toArray}}:ah) _ s.toks hst1 λb hb o e=>oth b o (λh=>hSf (h▸hb)) e) (wo (wq (·.pop)) hS2 rfl) (ItemsOf.nil P) λs' acc' c' hm hS' hacc=> ?_⟩
 refine aJ (wpAny_load hS' ?_)
 exact bk (hQ s' acc' hm hacc)
theorem GN{x:Str}{t:bE}{E Q:ae->ah->Prop}(T:lW W L I fp n P St Fn)(h1:L A.in1)(h2:L A.in1.in1)(hst:St 0 s)(hfp:∀b∈fp,b<s.heap.objs.size)(hI:I∈fp)
  (hstr:∀i v,P i v->∃y u,v=gG y u)
  (hq:∀s' (l:List (Str×bE)),Fn s'->ItemsOf P (strValues l).toArray n->JoinOk x (l.map (·.1))=true/\ ∀t' k,Q (.str (Txt.join x (l.map (·.1))) t') {s' with toks:=k})
  (hsz:n<=sizeLine):
  wpAny W.M A (call (.builtin "str.join") [.str x t, .ref I]) Q E s:=by
 refine jz (codeAny_call_builtin PySem.F.slot_str_join.plain PySem.F.entry_str_join (PySem.F.slot_str_join.check _ _ _ _ _ _ _ _ (oQ _ _ _) (PySem.F.args_str_join_2 _ _) ?_))
 rw[join_tree_other]
 refine aJ (wpAny_typeOf (T.gen 0 s hst) ?_)
 refine aJ (wpAny_tryCatch (T.self _ h1 0 s _ _ hst ?_))
 refine aJ (GL T h2 hst hfp hI (λs' acc hm hacc=> ?_) hsz)
 obtain⟨l,hl⟩:=exists_strValues acc.toList λv hv=>by
  obtain⟨j,hj,rfl⟩:=Array.mem_iff_getElem.mp (Array.mem_toList_iff.mp hv)
  exact hstr j _ (hacc.2 j _ (Array.getElem?_eq_getElem hj))
 rw[<-hl]
 have hacc':ItemsOf P (strValues l).toArray n:=by rw[hl];simpa using hacc
 refine xA (hq s' l hm hacc') λhok hpost=> ?_
 unfold JoinOk at hok
 rw[lz]at hok
 have g:Gives (joinTail x (strValues l)) (joinMade x l):=by
  have g0:=gives_joinTail x l hok
  cases l with
  |nil=>exact g0
  |cons p r=>cases r with
   |nil=>exact g0
   |cons q r' =>exact g0
 exact g iu W.w A (wants Q E) s' (post_join l ⟨joinFit_length hok,hpost⟩)
end
end
section
noncomputable def GO(y:ae)(p:PV):Prop:=(∃b,p= .bool b/\ y= .bool b) \/(∃z t,p= .str (ao z)/\ y= .str z t)
structure b8 where
 W:Wd
 X:Addr->Prop
 l:List av
 sr:ah
 I:Addr
 C:Addr
 a:Addr
 g:Nat
 wr:List Addr
 csc:Scope
 cenv:av
 x:Str
 px:ax
 elt:ai
 iter:ai
 gp:ax
 items:List PV
 ys:List PV
 fpI:List Addr
 P:Nat->ae->Prop
 St:Nat->Heap->Prop
 h₁:Heap
noncomputable abbrev b8.N(G:b8):Nat:=G.C
noncomputable abbrev b8.fp(G:b8):List Addr:=G.a::G.C::iU G.C
noncomputable abbrev b8.X'(G:b8):Addr->Prop:=λb=>b∈G.wr
noncomputable abbrev b8.code(G:b8):Code:= .compLoop (.GeneratorExp G.elt [⟨.Name G.x G.px,G.iter,[],0⟩] G.csc G.gp) 0 (.ref G.I) .none G.cenv
noncomputable abbrev b8.code0(G:b8):Code:= .compStart (.GeneratorExp G.elt [⟨.Name G.x G.px,G.iter,[],0⟩] G.csc G.gp) 0 (.ref G.I) .none G.cenv
structure b8.Ok(G:b8)(E₁:Ev)(A:aA)(n:Nat):Prop where
 O:aZ G.W
 hE:aN false G.W n E₁
 R:Ready G.W G.X A G.l G.sr
 It:tQ G.W G.X G.sr.heap G.h₁ G.I G.fpI G.P G.St G.items
 envk:jO false G.W G.csc G.cenv
 frame:G.cenv.frame=some G.C
 locals:G.cenv.locals=G.C
 plain:hY G.csc=true
 cscope:G.cenv.scope=G.csc
 loc:bR G.csc G.x=true
 len:G.ys.length=G.items.length
 each:∀(i:Nat) (p y:PV),G.items[i]? =some p->G.ys[i]? =some y->E₁.ev G.csc G.elt [(G.x,p)]= .ok y
 flat:∀y∈G.ys,(∃b,y= .bool b) \/(∃z,y= .str z)
 wrC:G.C∈G.wr
 wrI:G.I∈G.wr
 wrF:∀env∈G.l,∀L,env.frame=some L->L∈G.wr
 wrT:∀q∈G.W.tabs,q.2∈G.wr
 wrX:∀b∈G.wr,G.X b \/b=G.C \/b=G.I
 nI:G.sr.heap.get? G.I=none
 nC:G.sr.heap.get? G.C=none
 na:G.sr.heap.get? G.a=none
 gsz:G.sr.gens.size<=G.g
 ltI:(G.I:Nat)<G.C
 lta:(G.C:Nat)<G.a
 size:G.sr.heap.objs.size<=G.C
 dep:A.depth+n+1<=900
 uni:A.units+4+10*n<=9000
structure b8.At(G:b8)(i:Nat)(s:ah):Prop where
 M:be G.W G.X' G.C G.sr s
 st:G.St i s.heap
 ns:∃m,s.heap.Ns G.C m
 lives:∀b∈G.wr,∃o,s.heap.get? b=some o
noncomputable def b8.Rel(G:b8)(s₀ s:ah):Prop:=dc s₀.gens s.gens/\ ∀b o,dn o->b≠G.I->b≠G.C->s₀.heap.get? b=some o->s.heap.get? b=some o
noncomputable def b8.F(G:b8)(i:Nat)(v:ae):Prop:=∃p,G.ys[i]? =some p/\ GO v p
noncomputable def b8.Y(G:b8):Protocol:=λm s₀ v s kap=>∃i,i+m+1=G.items.length/\ G.F i v/\ G.At (i+1) s/\ G.Rel s₀ s/\ ∀s'',G.At (i+1) s''->kap (.send .none) s''
noncomputable def b8.End(G:b8):GenEnd:=λn s₀ r s=>r= .ok .next/\ (n=0/\ be G.W G.X' G.C G.sr s/\ G.Rel s₀ s)
section
variable{G:b8}{E₁:Ev}{A:aA}{n:Nat}
theorem b8.Ok.tabs(K:G.Ok E₁ A n):∀q∈G.W.tabs,∃o,G.sr.heap.get? q.2=some o:=λq hq=>K.R.xlt _ (K.R.xtabs q hq)
theorem b8.Ok.notwr(K:G.Ok E₁ A n){b:Addr}{o:Obj}(e:G.sr.heap.get? b=some o)(nx:¬G.X b):¬G.X' b:=λh=>by
 rcases K.wrX b h with q|q|q
 ·exact nx q
 ·rw[q,K.nC]at e;exact am e
 ·rw[q,K.nI]at e;exact am e
theorem b8.Ok.lt(K:G.Ok E₁ A n){b:Addr}{o:Obj}(e:G.sr.heap.get? b=some o):b∈iU G.C:=
 jv.mpr (di (eK e) K.size)
theorem b8.Ok.ready(K:G.Ok E₁ A n){s:ah}{A':aA}(h1:A'.handled=none)(h2:A'.frames=some (G.cenv::G.l))(h3:A'.guards=some [])(M:be G.W G.X' G.C G.sr s)(hn:∃m,s.heap.Ns G.C m)(hw:∀b∈G.wr,∃o,s.heap.get? b=some o):
  Ready G.W G.X' A' (G.cenv::G.l) s where
 inv:=M.inv
 frames:=h2
 guards:=h3
 handled:=h1
 below:=λenv he=>by
  rcases bS.mp he with q|q
  ·subst q
   refine xE hn λm hm=> ?_
   refine⟨by rw[K.envk.scope];decide,G.C,m,K.frame,?_,hm,K.wrC⟩
   cases e:G.W.base.get? G.C with
   |none=>rfl
   |some o=>have:=K.R.inv.stays _ _ e;rw[K.nC]at this;exact am this
  ·refine g' (K.R.below env q) λk L f e1 e2 e3 e4=> ?_
   refine⟨k,L,f,e1,e2,M.ns L f (λq=> ?_) e3,K.wrF env ‹_› L e1⟩
   refine dj e3 λo ø ø e' ø=> ?_
   rw[q,K.nC]at e';cases e'
 xtabs:=K.wrT
 xbase:=λb o e hx=>by
  have e':=K.R.inv.stays _ _ e
  rcases K.wrX b hx with q|q|q
  ·exact K.R.xbase b o e q
  ·rw[q,K.nC]at e';cases e'
  ·rw[q,K.nI]at e';cases e'
 xlt:=hw
theorem GP(K:G.Ok E₁ A n){i:Nat}{s:ah}{h':Heap}{tk:Nat}(x:G.At i s)(hk:∀b∈G.fp,∀o,s.heap.get? b=some o->h'.get? b=some o):G.At i {s with heap:=h',toks:=tk}:=by
 have old:∀b o,G.sr.heap.get? b=some o->∀o',s.heap.get? b=some o'->h'.get? b=some o':=λb o e o' e' =>hk b (dS _ (dS _ (K.lt e))) o' e'
 have hC:∀o',s.heap.get? G.C=some o'->h'.get? G.C=some o':=λo' e=>hk _ (dS _ (fR ..)) o' e
 refine⟨⟨⟨λb o e=>old b o (K.R.inv.stays b o e) o (x.M.inv.stays b o e),λq hq=> ?_,x.M.inv.gens⟩,λb o k e=>old b o e o (x.M.keep b o k e),λL f hL e=> ?_,x.M.gens,x.M.os,x.M.drawn,λb o e=> ?_,λb o t e=>old b o e o (x.M.solid b o t e)⟩,?_,?_,?_⟩
 ·refine ay (x.M.inv.tabs q hq) λps h1 h2=> ?_
  refine xE (K.tabs q hq) λoq eq=> ?_
  refine ay (K.R.inv.tabs q hq) λps' k1 ø=> ?_
  refine rZ k1 λoc ø ø ø ø ø ø ø ø ø ec ø=> ?_
  refine⟨ps,?_,?_⟩
  ·refine DX h1 λo vs file tf flags tg inF text tt op a r1 r2 r3 r4 r5 r6 b r=> ?_
   exact⟨o,vs,file,tf,flags,tg,inF,text,tt,op,old _ _ ec _ a,r1,r2,r3,r4,r5,r6,old _ _ eq _ b,r⟩
  ·refine xA h2 λzn1 t=> ?_
   refine dX zn1 λo vs a r=> ?_
   exact⟨⟨o,vs,old _ _ ec _ a,r⟩,old _ _ eq _ t⟩
 ·have e1:=x.M.ns L f hL e
  refine dj e λo ø ø e' ø=> ?_
  exact e1.at' λo' e2=>old L o e' o' e2
 ·refine xE (x.M.live b o e) λo' e' => ?_
  exact⟨o',old b o e o' e'⟩
 ·refine(K.It.walks A K.R.handled).frame _ _ _ x.st λb hb o e=> ?_
  rcases K.It.fps b hb with q|⟨o',q,_,_⟩
  ·subst q;exact hk _ (dS _ (dS _ (jv.mpr K.ltI))) o e
  ·exact old b o' q o e
 ·refine xE x.ns λm hm=> ?_
  exact⟨m,hm.at' hC⟩
 ·intro b hb
  refine xE (x.lives b hb) λo e=> ?_
  refine⟨o,?_⟩
  rcases K.wrX b hb with q|q|q
  ·refine xE (K.R.xlt b q) λo' e' => ?_
   exact old b o' e' o e
  ·subst q;exact hC o e
  ·subst q;exact hk _ (dS _ (dS _ (jv.mpr K.ltI))) o e
end
end
section
section
variable{G:b8}{E₁:Ev}{A:aA}{n:Nat}
theorem dc.setGen{s:ah}{g:Nat}{x:gC}{a:Array gC}(h:dc a s.gens)(hg:a.size<=g):dc a (s.setGen g x).gens:=
 ⟨by simpa[wt] using h.1,λk hk=>by
  have hne:g≠k:=mL (di hk hg)
  have:(s.setGen g x).gens[k]? =s.gens[k]? :=by simp[wt,hne]
  rw[this];exact h.2 k hk⟩
theorem yI(elt iter:ai)(x:Str)(px:ax)(csc:Scope)(pos:ax)(it acc:ae)(env:av):
  compTurn (.GeneratorExp elt [⟨.Name x px,iter,[],0⟩] csc pos) 0 it acc env=(do
   standAt iter.pos
   match<-pyNext it with
   |none=>pure (.done .next)
   |some v=>
    letOwnedTupleGo (.Name x px) it v
    assign (.Name x px) env v
    (do let v<-eval elt env;standAt elt.pos;let _<-yieldOut env v)
    again (.compLoop (.GeneratorExp elt [⟨.Name x px,iter,[],0⟩] csc pos) 0 it acc env)):=by rfl
theorem GQ(hR:Ready G.W G.X A G.l G.sr):(A.over G.code []).frames=some (G.cenv::G.l)/\ (A.over G.code []).guards=some []/\ (A.over G.code []).handled=none/\ (A.over G.code []).depth=A.depth+1/\ (A.over G.code []).units=A.units+3:=by
 refine⟨?_,?_,hR.handled,?_,?_⟩
 ·show pushEnvs G.code.envs (pushEnvs [] A.frames)=_
  rw[hR.frames];rfl
 ·show pushGuards G.code.guards (pushGuards [] A.guards)=_
  rw[hR.guards];rfl
 ·show A.depth+0+G.code.weight=_
  have:G.code.weight=1:=rfl
  exact rfl
 ·show A.units+0+G.code.cUnits=_
  have:G.code.cUnits=3:=rfl
  exact rfl
theorem GR(K:G.Ok E₁ A n):∀(k i:Nat) (s₀ s:ah),G.items.length-i=k->i<=G.items.length->G.At i s->G.Rel s₀ s->
  Seg G.W.M A G.End G.Y (G.items.length-i) s₀ G.code (G.W.M.den G.code) [] s:=by
 refine ky (GQ K.R) λa1 a2 a3 a4 a5=> ?_
 have hx:G.cenv.kindOf G.x=some .local:=by
  have:G.cenv.kindOf G.x=G.cenv.scope.names.lookup G.x:=rfl
  rw[this,K.cscope];exact cN K.loc
 refine ky (kQ K.plain) λf1 f2 f3 f4 f5=> ?_
 have hp:(G.cenv.scope.kind== .class||(G.cenv.scope.kind== .module&&G.cenv.locals !=G.cenv.globals))=false:=by rw[K.cscope,f1];rfl
 intro k
 induction k with
 |zero=>
  intro i s₀ s hk hi x hrel
  have hin:i=G.items.length:=sx ‹_› ‹_›
  subst hin
  rw[Nat.sub_self]
  show Seg _ A _ _ _ s₀ _ ((compTurn (.GeneratorExp G.elt [⟨.Name G.x G.px,G.iter,[],0⟩] G.csc G.gp) 0 (.ref G.I) .none G.cenv).onRaise (leaving G.cenv)) [] s
  rw[yI,DA]
  refine g7 (lA ?_)
  refine g7 ((K.It.walks _ a3).done s _ _ x.st λh' tk hk' => ?_)
  have ext:eW G.I s.heap h':=gI hk'
  refine bA (K.It.own _ _ x.st) λoI eI sI nI=> ?_
  exact seg_end (.ok .next) ⟨rfl,rfl,x.M.chg (tk:=tk) K.R.inv K.nI ext (.inr nI) K.tabs,hrel.1,λb o t hb hc e=>ext b o hb (hrel.2 b o t hb hc e)⟩
 |succ k ih=>
  intro i s₀ s hk hi x hrel
  have hlt:i<G.items.length:=sq ‹_›
  obtain⟨m,hm⟩:∃m,G.items.length-i=m+1:=⟨G.items.length-i-1,su ‹_›⟩
  have hm':G.items.length-(i+1)=m:=mW ‹_›
  rw[hm]
  show Seg _ A _ _ _ s₀ _ ((compTurn (.GeneratorExp G.elt [⟨.Name G.x G.px,G.iter,[],0⟩] G.csc G.gp) 0 (.ref G.I) .none G.cenv).onRaise (leaving G.cenv)) [] s
  rw[yI,DA]
  refine g7 (lA ?_)
  refine g7 ((K.It.walks _ a3).item i s _ _ hlt x.st λv h₁ tk1 hP st₁ k₁=> ?_)
  have ext1:eW G.I s.heap h₁:=gI k₁
  refine bA (K.It.own _ _ x.st) λoI eI sI nI=> ?_
  refine bA (K.It.own _ _ st₁) λoI1 eI1 sI1 nI1=> ?_
  have hIC:G.I≠G.C:=eT K.ltI
  have M₁:be G.W G.X' G.C G.sr {s with heap:=h₁,toks:=tk1}:=x.M.chg K.R.inv K.nI ext1 (.inr nI) K.tabs
  refine xE x.ns λmm hns=> ?_
  have hns₁:h₁.Ns G.C mm:=hns.at' λo e=>ext1 G.C o (cF hIC) e
  refine g7 (wpAny_of_eq (rfl:letOwnedTupleGo (.Name G.x G.px) (.ref G.I) v=pure ()) ?_)
  refine g7 (ko (lC hx (by rw[K.locals];exact hns₁) (λh₂ hn2 hs₂=> ?_) hp))
  rw[K.locals]at hn2 hs₂
  have ext2:eW G.C h₁ h₂:=hs₂.extBut
  have M₂:be G.W G.X' G.C G.sr {s with heap:=h₂,toks:=tk1+1}:=M₁.chg (s₁:={s with heap:=h₁,toks:=tk1}) K.R.inv K.nC ext2 (.inl rfl) K.tabs
  have st₂:G.St (i+1) h₂:=(K.It.walks A K.R.handled).frame _ _ _ st₁ λb hb o e=>ext2 b o (λq=>by
   rcases K.It.fps b hb with h|⟨o',h,_,_⟩
   ·exact hIC (h▸q)
   ·rw[q,K.nC]at h;exact am h) e
  refine bA (K.It.own _ _ st₂) λoI2 eI2 sI2 nI2=> ?_
  have hw2:∀b∈G.wr,∃o,h₂.get? b=some o:=λb hb=>by
   rcases K.wrX b hb with q|q|q
   ·refine xE (K.R.xlt b q) λo e=> ?_
    exact M₂.live b o e
   ·subst q
    refine dj hn2 λo ø ø e ø=> ?_
    exact⟨_,e⟩
   ·subst q;exact⟨_,eI2⟩
  refine ay (K.It.vals i v hP) λpv hpv rpv=> ?_
  have rep2:Rep G.W G.X' h₂ v pv:=rpv.mono (λb o nx e=>M₂.keep b o (K.notwr e nx) e) λb o e nx=>K.notwr e nx
  have H₂:Here false G.W G.X' (A.over G.code []) (G.cenv::G.l) {s with heap:=h₂,toks:=tk1+1} G.csc G.cenv [(G.x,pv)]:=by
   refine⟨(K.ready (s:={s with heap:=h₂,toks:=tk1+1}) a3 a1 a2 M₂ ⟨_,hn2⟩ hw2),K.envk,⟨?_,(λx=>if x=G.x then some v else mm x),?_,λy q e=> ?_⟩,λy q e=> ?_⟩
   ·rw[K.locals];exact K.wrC
   ·rw[K.locals];exact hn2
   ·rw[ch]at e
    cases h:y==G.x with
    |true=>rw[h]at e;obtain rfl:=aq e;rw[cN h];exact⟨v,by simp,rep2⟩
    |false=>rw[h]at e;exact am e
   ·rw[ch]at e
    cases h:y==G.x with
    |true=>rw[cN h];exact cN K.loc
    |false=>rw[h]at e;exact am e
  have hiy:i<G.ys.length:=by rw[K.len];exact hlt
  have hy:G.ys[i]? =some G.ys[i]:=fV hiy
  have hel:=K.each i pv _ hpv hy
  have hyo:∀v,yieldOut G.cenv v=yieldValue v:=λv=>by simp only[yieldOut,K.cscope,f2,oW,if_false]
  simp only[hyo]
  rw[Sem.bind_eq_wrap',Sem.bind_eq_wrap',Sem.wrap_wrap,Sem.wrap_wrap]
  refine seg_wrap (K.hE.1 G.csc G.elt G.X' _ (G.cenv::G.l) _ G.cenv _ H₂ (by rw[hel];exact λq=>nomatch q) (by have:=K.dep;exact sw ‹_›) (by have:=K.uni;exact D9 ‹_› (by rfl)) _ _ ⟨λvy q s₄ e1 a₄ r4=> ?_,λe' c s4' e1 ø=>by rw[hel]at e1;cases e1⟩)
  rw[hel]at e1
  obtain rfl:=dk e1
  have M₄:be G.W G.X' G.C G.sr s₄:=M₂.after a₄
  have st₄:G.St (i+1) s₄.heap:=(K.It.walks A K.R.handled).frame _ _ _ st₂ λb hb o e=>by
   rcases K.It.fps b hb with h|⟨o',h,nx,_⟩
   ·subst h;rw[eI2]at e;obtain rfl:=aq e;exact a₄.solid _ _ sI2 eI2
   ·exact a₄.keep b o (K.notwr h nx) e
  have At4:G.At (i+1) s₄:=⟨M₄,st₄,⟨_,a₄.ns _ _ hn2⟩,λb hb=>by obtain⟨o,e⟩:=hw2 b hb;exact a₄.live b o e⟩
  have rel4:G.Rel s₀ s₄:=⟨hrel.1.trans a₄.gens,λb o t hb hc e=>a₄.solid b o t (ext2 b o hc (ext1 b o hb (hrel.2 b o t hb hc e)))⟩
  have hF:G.F i vy:=by
   refine⟨_,hy,?_⟩
   rcases K.flat _ (rQ hiy)with ⟨b,h⟩|⟨z,h⟩
   ·rw[h]at r4 ⊢;cases r4;exact .inl ⟨b,rfl,rfl⟩
   ·rw[h]at r4 ⊢;cases r4;exact .inr ⟨_,_,rfl,rfl⟩
  refine seg_at (seg_yield rfl rfl rfl ⟨i,wZ hlt hm',hF,At4,rel4,λs'' at'' => ?_⟩)
  have:=ih (i+1) s'' s'' (mW ‹_›) hlt at'' ⟨dc.refl _,λø ø ø ø ø e=>e⟩
  rw[hm']at this
  exact seg_again rfl this
end
end
section
section
variable{G:b8}{E₁:Ev}{A:aA}{n:Nat}
theorem GS(K:G.Ok E₁ A n){s₀ s:ah}(x:G.At 0 s)(hrel:G.Rel s₀ s):Seg G.W.M A G.End G.Y G.items.length s₀ G.code0 (G.W.M.den G.code0) [] s:=by
 have loop:=GR K G.items.length 0 s₀ s (rG _) (dR _) x hrel
 rw[rG]at loop
 have a3:(A.over G.code0 []).handled=none:=K.R.handled
 show Seg _ A _ _ _ s₀ _ ((compStart (.GeneratorExp G.elt [⟨.Name G.x G.px,G.iter,[],0⟩] G.csc G.gp) 0 (.ref G.I) .none G.cenv).onRaise (leaving G.cenv)) [] s
 unfold compStart
 rw[DA]
 refine g7 (wpAny_askSetting ?_)
 split
 ·exact seg_again rfl loop
 ·first
   |exact g7 (rM (g7 (lA (g7 ((K.It.walks _ a3).self 0 s _ _ x.st (seg_again rfl loop))))))
   |(refine g7 (rM ?_);exact g7 (lA (g7 ((K.It.walks _ a3).self 0 s _ _ x.st (seg_again rfl loop)))))
structure b8.Gen(G:b8)(A:aA)(i:Nat)(s:ah):Prop where
 at_:G.At i s
 isgen:s.heap.IsGen G.a G.g
 le:i<=G.items.length
 state:∃gs,s.gens[G.g]? =some gs/\ ∀s'',G.At i s''->gs.Goes G.W.M A G.End G.Y (G.items.length-i) (.send .none) s''
theorem yJ{s:ah}{g:Nat}{x:gC}(h:AllBare s.gens)(hb:x.bare=true):AllBare (s.setGen g x).gens:=λy hy=>by
 refine cr (Array.mem_or_eq_of_mem_setIfInBounds (show y∈s.gens.setIfInBounds g x from hy)) (λq=> ?_) (λq=> ?_)
 ·exact h y q
 ·rw[q];exact hb
theorem tW(K:G.Ok E₁ A n){i:Nat}{s:ah}{x:gC}(h:G.At i s)(hb:x.bare=true):G.At i (s.setGen G.g x):=
 ⟨⟨⟨h.M.inv.stays,h.M.inv.tabs,yJ h.M.inv.gens hb⟩,h.M.keep,h.M.ns,dc.setGen h.M.gens K.gsz,h.M.os,h.M.drawn,h.M.live,h.M.solid⟩,h.st,h.ns,h.lives⟩
theorem GT(K:G.Ok E₁ A n){s:ah}{x:gC}(h:be G.W G.X' G.C G.sr s)(hb:x.bare=true):be G.W G.X' G.C G.sr (s.setGen G.g x):=
 ⟨⟨h.inv.stays,h.inv.tabs,yJ h.inv.gens hb⟩,h.keep,h.ns,dc.setGen h.gens K.gsz,h.os,h.drawn,h.live,h.solid⟩
theorem GU{s:ah}{g:Nat}{x:gC}(h:g<s.gens.size):(s.setGen g x).gens[g]? =some x:=by simp[wt,h]
noncomputable def tX(M:Model)(A₀ A:aA):Prop:=∀{α:Type} (t:Sem α) (Q:α->ah->Prop) (E:ae->ah->Prop) (s:ah),wpAny M A₀ t Q E s->wpAny M A t Q E s
theorem GV{h:Heap}{a:Addr}{g:Nat}(x:h.IsGen a g):∃o,h.get? a=some o/\ dn o:=by
 refine wO x λo ø ø e c d ø=> ?_
 exact⟨o,e,⟨_,by simp[fz],c⟩,by rw[d];intro ø ø q;cases q⟩
theorem yK(K:G.Ok E₁ A.in1 n)(hh:A.handled=none)(hroom:A.depth<recursionLimit)(haC:G.a≠G.C)(haI:G.a≠G.I):
  lW G.W (tX G.W.M A) G.a G.fp G.items.length G.F (G.Gen A.in1) (λs=>be G.W G.X' G.C G.sr s) where
 frame:=λi s h' tk x hk=>⟨GP K x.at_ hk,let ⟨o,nm,qn,ho,r⟩:=x.isgen;⟨o,nm,qn,hk _ (fR ..) o ho,r⟩,x.le,x.state⟩
 item:=λA' hA i s Q E hlt x hQ=>hA _ _ _ _ (by
  refine ay x.state λgs hgs hgo=> ?_
  have hsz:G.g<s.gens.size:=by
   refine cr (oN G.g s.gens.size) (λq=> ?_) (λq=> ?_)
   ·exact q
   ·rw[v3 q]at hgs;exact am hgs
  have at1:G.At i (s.setGen G.g .running):=tW K x.at_ rfl
  refine wpAny_pyNext_genexpQ (P:=λn s₀ s₁=>n=0/\ be G.W G.X' G.C G.sr s₁/\ G.Rel s₀ s₁) hh (x.at_.M.inv.nolimit K.O) hroom x.isgen hgs (hgo _ at1) (λv s₁ gs' hb hv=> ?_) (λs₁ hp h' hk=> ?_)
  ·refine wN hv λi' hi hF at2 rel hkap=> ?_
   have e:i' =i:=En hlt hi
   subst e
   obtain⟨m,hm⟩:∃m,G.items.length-i' =m+1:=⟨G.items.length-i'-1,su ‹_›⟩
   rw[hm]at hkap
   have hm':G.items.length-(i'+1)=m:=mW ‹_›
   have hsz1:G.g<s₁.gens.size:=di (by simpa[wt] using hsz) rel.1.1
   have sol:∀b o,dn o->b≠G.I->b≠G.C->s.heap.get? b=some o->s₁.heap.get? b=some o:=rel.2
   refine ay (GV x.isgen) λog eg sg=> ?_
   refine hQ v _ hF ⟨tW K at2 hb,?_,hlt,gs',GU hsz1,λs'' a'' => ?_⟩ λb o t hb e=>sol b o t (λq=>hb (q▸dS _ (dS _ (jv.mpr K.ltI)))) (λq=>hb (q▸dS _ (fR ..))) e
   ·refine dj x.isgen λo nm qn ho r=> ?_
    rw[eg]at ho;obtain rfl:=aq ho
    exact⟨og,nm,qn,sol _ _ sg haI haC eg,r⟩
   ·rw[hm'];exact hkap s'' a''
  ·refine xA hp λh0 ø=> ?_
   exact absurd h0 (Nat.sub_ne_zero_of_lt hlt))
 done:=λA' hA s Q E x hQ=>hA _ _ _ _ (by
  refine ay x.state λgs hgs hgo=> ?_
  rw[Nat.sub_self]at hgo
  have at1:G.At G.items.length (s.setGen G.g .running):=tW K x.at_ rfl
  refine wpAny_pyNext_genexpQ (P:=λn s₀ s₁=>n=0/\ be G.W G.X' G.C G.sr s₁/\ G.Rel s₀ s₁) hh (x.at_.M.inv.nolimit K.O) hroom x.isgen hgs (hgo _ at1) (λv s₁ gs' hb hv=> ?_) (λs₁ hp h' hk=> ?_)
  ·refine wN hv λi' hi hF at2 rel hkap=> ?_
   exact(hkap _ at2).elim
  ·refine bM hp λø M1 rel=> ?_
   have M2:=GT K M1 (x:= .finished) rfl
   refine hQ _ (M2.trans (C:=G.C) (After.moves ?_)) λb o t hb e=>hk b o (rel.2 b o t (λq=>hb (q▸dS _ (dS _ (jv.mpr K.ltI)))) (λq=>hb (q▸dS _ (fR ..))) e)
   exact After.of_keeps (tk:=s₁.toks) M2.inv hk)
 self:=λA' hA i s Q E x hQ=>hA _ _ _ _ (wpAny_pyIter_gen x.isgen hQ)
 fin:=λi s ø x=>x.at_.M
 gen:=λi s x=>x.isgen.typeIs
end
end
section
section
variable{W:Wd}{X:Addr->Prop}{A:aA}{s:ah}{l:List av}{n:Nat}{sc:Scope}{env:av}{ρ:ak}{C:Calls}{E₀ E₁:Ev}
theorem yL{h:Heap}{c P c' P':Addr}{ps ps':Array ae}(x:h.TableAt c P ps)(y:h.TableAt c' P' ps'):c≠P':=λq=>by
 refine xA x λzn1 ø=> ?_
 refine iz zn1 λo vs e k ø=> ?_
 refine xA y λø e' => ?_
 rw[q,e']at e;obtain rfl:=aq e;cases k
theorem GW(O:aZ W)(I:Inv W s){c P:Addr}{pos:ax}{qn:Str}{scope:Scope}(hc:env.code= .ref c)(hm:(c,P)∈W.tabs)(hX:X P)(hbase:∀o,W.base.get? P≠some o){Q E:ae->ah->Prop}
  (h:∀code s',After W X s s'->s'.gens=s.gens->Q code s'):wpAny W.M A (genexprCode env pos qn scope) Q E s:=by
 refine ay (I.tabs _ hm) λps hok htab=> ?_
 dsimp only at hok htab
 cases hf:codeAmong pos ps.toList with
 |some cc=>
  refine DY (id hok) λo vs file tf flags tg inF text tt op ho hd h11 h2 h7 h9 h10 hop hpd htr hne=> ?_
  unfold genexprCode codeAt
  rw[hc,if_neg (show¬((rR c==kl)=true)from kq)]
  refine aJ (wpAny_fieldsOf ho hd ?_)
  rw[h11]
  refine aJ (wpAny_fieldsOf hop hpd ?_)
  rw[hf]
  exact bk (h _ _ (After.refl I) rfl)
 |none=>
  refine wpAny_genexprCodeX hc hok htab hf λc' h' tk ext h1 h2 k1 k2 k3 k4=>h _ _ ?_ rfl
  have nP:s.heap.get? P=some {cls:= .none,data:= .fields ps}:=htab.2
  have nP':=k3.2
  have ne:∀b o,s.heap.get? b=some o->b≠P \/o={cls:= .none,data:= .fields ps}:=λb o e=>by
   by_cases q:b=P
   ·right;rw[q,nP]at e;obtain rfl:=aq e;rfl
   ·exact .inl q
  refine⟨⟨λb o e=>ext b o (λq=>hbase o (q▸e)) (I.stays b o e),λq hq=> ?_,I.gens⟩,λb o nx e=>ext b o (λq=>nx (q▸hX)) e,λL m hL=> ?_,dc.refl _,rfl,rfl,λb o e=> ?_,λb o t e=> ?_⟩
  ·refine ay (I.tabs q hq) λps' j1 j2=> ?_
   by_cases hP:q.2=P
   ·have:q=(c,P):=O.tabInj q hq (c,P) hm hP
    subst this
    exact⟨_,k1,k3⟩
   ·exact⟨ps',j1.extBut ext (yL j2 htab) hP,j2.extBut ext (yL j2 htab) hP⟩
  ·refine hL.at' λo e=>ext L o (λq=> ?_) e
   rw[q]at hL
   exact kP nP (by intro ø ø q;cases q) _ hL
  ·by_cases q:b=P
   ·exact⟨_,q▸nP'⟩
   ·exact⟨o,ext b o q e⟩
  ·refine cr (ne b o e) (λq=> ?_) (λq=> ?_)
   ·exact ext b o q e
   ·subst q
    refine xA t λzn2 ø=> ?_
    refine ay zn2 λT ø hT=> ?_
    cases hT
theorem GX{csc:Scope}{i:ai}(h:eN csc i=true)(env:av)(x:ae):genFold i env x=pure x:=by
 unfold eN at h
 rw[aI]at h
 cases i<;>first|rfl|(exact absurd h.1 kq)
theorem GY{csc:Scope}{i:ai}(h:eN csc i=true):csc.names.lookup (".0" :Str)=some NameKind.local:=by
 unfold eN at h
 rw[aI]at h
 exact cN h.2
theorem yM{α β:Type}{g:α->Option β}:∀{l:List α},(∀v∈l,∃y,g v=some y)->(l.filterMap g).length=l.length/\ ∀(i:Nat) (p:α),l[i]? =some p->(l.filterMap g)[i]? =g p
 |[],_=>⟨rfl,λi p e=>by simp at e⟩
 |a::l,h=>by
  refine xE (h a (fR ..)) λy hy=> ?_
  refine xA (yM (l:=l) λv hv=>h v (dS _ hv)) λh1 h2=> ?_
  rw[we,hy]
  refine⟨by simp[h1],λi p e=> ?_⟩
  cases i with
  |zero=>simp at e;subst e;simp[hy]
  |succ i=>simpa using h2 i p (by simpa using e)
theorem yN(O:aZ W)(hE:aN true W (n+4) E₀)(hE1:aN false W n E₁)(H:Here true W X A l s sc env ρ){elt iter:ai}{x:Str}{px gp:ax}{gsc:Scope}(hgp:eN gsc iter=true){v:PV}{items:List PV}{g:PV->Option PV}
  (hv:E₀.ev sc iter ρ= .ok v) (hit:bQ v=some items) (hg:tR E₁ gsc x elt [] items g) (hd:A.depth+(n+4)<=900) (hu:A.units+10*(n+4)<=9000)
  (hflat:∀y∈items.filterMap g,(∃b,y= .bool b) \/(∃z,y= .str z)) {K E:ae->ah->Prop}
  (hK:∀(G:b8) s',G.W=W->G.X=X->G.items=items->G.ys=items.filterMap g->G.l=l->After W X s G.sr->G.Ok E₁ A.in1.in1.in1 n->G.Gen A.in1.in1.in1 0 s'->G.a≠G.C->G.a≠G.I->(∀b∈G.fp,b<s'.heap.objs.size)->K (.ref G.a) s'):
  wpAny W.M A (eval (.GeneratorExp elt [⟨.Name x px,iter,[],0⟩] gsc gp) env) K E s:=by
 refine ky (kQ hg.plain) λf1 f2 f3 f4 f5=> ?_
 refine dX (H.envk.code rfl) λc P hcode hcP=> ?_
 have hrl:(900:Nat)<recursionLimit:=by decide+kernel
 refine wpAny_GeneratorExp_make f2 (closureFor_none f4) f3 (GY hgp) f1 (bU (aj (bf _ _) ‹_›) hrl) (hE.1 sc iter X A l s env ρ H (by rw[hv];exact λq=>nomatch q) hd hu _ _ ⟨λva q s₁ e1 a₁ r₁=> ?_,λe' c s' e1 ø=>by rw[hv]at e1;cases e1⟩) (GX hgp env)
 rw[hv]at e1
 obtain rfl:=dk e1
 have H₁:=H.after a₁
 refine pN hit r₁ λo fp P' St so It=> ?_
 have a₂:After W X s₁ {s₁ with heap:=s₁.heap.push o}:=After.push H₁.ready.inv o
 refine⟨a₂.inv.nolimit O,?_⟩
 have hXP:X P:=H.ready.xtabs _ hcP
 have hbP:∀o,W.base.get? P≠some o:=λo e=>H.ready.xbase _ _ e hXP
 have nI:s₁.heap.get? s₁.heap.objs.size=none:=dU (bP _)
 have tl:∀q∈W.tabs,∃o,s₁.heap.get? q.2=some o:=λq hq=>H₁.ready.xlt _ (H₁.ready.xtabs q hq)
 have fl:∀env∈l,∀L,env.frame=some L->X L/\ ∃o,s₁.heap.get? L=some o:=λenv he L e=>by
  refine g' (H₁.ready.below env he) λø L' m e1 ø e3 e4=> ?_
  rw[e]at e1;obtain rfl:=aq e1
  refine dj e3 λo ø ø e5 ø=> ?_
  exact⟨e4,o,e5⟩
 refine GW (X:=λb=>b=P) O a₂.inv hcode hcP rfl hbP λcd s₃ a₃ hgens=> ?_
 rw[H.envk.globals,H.envk.builtins]
 refine O.bfor A s₃ _ E a₃.inv λh' hn' hs' => ?_
 have z':h'.objs.size=s₃.heap.objs.size+1:=by rw[hs'.1,jy]
 have live3:∀b o',s₁.heap.get? b=some o'->∃o'',s₃.heap.get? b=some o'':=λb o' e=>a₃.live b o' (b4 _ e)
 refine bA (It.own 0 _ It.start) λoI eI sI nsI=> ?_
 have eI3:s₃.heap.get? s₁.heap.objs.size=some oI:=a₃.solid _ _ sI eI
 have ltI:s₁.heap.objs.size<s₃.heap.objs.size:=eK eI3
 have nC:s₁.heap.get? s₃.heap.objs.size=none:=dU (dz ltI)
 have hall:∀v∈items,∃y,g v=some y:=λv hv=>by
  have:=hg.each v hv
  cases hgv:g v with
  |none=>rw[hgv]at this;cases dk this
  |some y=>exact⟨y,rfl⟩
 refine xA (yM hall) λlen getg=> ?_
 let G:b8:={W:=W,X:=X,l:=l,sr:=s₁,I:=s₁.heap.objs.size,C:=s₃.heap.objs.size,a:=h'.objs.size,g:=s₃.gens.size,wr:=s₃.heap.objs.size::s₁.heap.objs.size::(W.tabs.map (·.2)++l.filterMap (·.frame)),csc:=gsc,cenv:=genEnv gsc [] s₃.heap.objs.size cd builtinsNs env,x:=x,px:=px,elt:=elt,iter:=iter,gp:=gp,items:=items,ys:=items.filterMap g,fpI:=fp,P:=P',St:=St,h₁:=s₁.heap.push o}
 have wrmem:∀b,b∈G.wr↔b=s₃.heap.objs.size \/b=s₁.heap.objs.size \/(∃q∈W.tabs,q.2=b) \/∃env∈l,env.frame=some b:=λb=>by
  simp[G]
 have KO:G.Ok E₁ A.in1.in1.in1 n:=by
  refine {O:=O,hE:=hE1,R:=⟨H₁.ready.inv,H₁.ready.frames,H₁.ready.guards,H₁.ready.handled,H₁.ready.below,H₁.ready.xtabs,H₁.ready.xbase,H₁.ready.xlt⟩,It:=It,envk:= ?_,frame:=rfl,locals:=rfl,plain:=hg.plain,cscope:=rfl,loc:=hg.loc,len:=len,each:= ?_,flat:=hflat,wrC:= ?_,wrI:= ?_,wrF:= ?_,wrT:= ?_,wrX:= ?_,nI:=nI,nC:=nC,na:= ?_,gsz:= ?_,ltI:=ltI,lta:= ?_,size:=dz ltI,dep:= ?_,uni:= ?_}
  ·exact⟨λh=>wg h,f1,λy k e ø ø=>e,H.envk.globals,rfl,f3⟩
  ·intro i p y e1 e2
   have e3:=getg i p e1
   have e2':(items.filterMap g)[i]? =some y:=e2
   rw[e2']at e3
   have:=hg.each p (Dv e1)
   rw[<-e3]at this
   exact this.2
  ·exact(wrmem _).mpr (.inl rfl)
  ·exact(wrmem _).mpr (.inr (.inl rfl))
  ·intro env he L e;exact(wrmem _).mpr (.inr (.inr (.inr ⟨env,he,e⟩)))
  ·intro q hq;exact(wrmem _).mpr (.inr (.inr (.inl ⟨q,hq,rfl⟩)))
  ·intro b hb
   rcases(wrmem _).mp hb with q|q|⟨q,hq,rfl⟩|⟨env,he,e⟩
   ·exact .inr (.inl q)
   ·exact .inr (.inr q)
   ·exact .inl (H₁.ready.xtabs q hq)
   ·exact .inl (fl env he b e).1
  ·exact dU (show s₁.heap.objs.size<=h'.objs.size by rw[z'];exact DD (dz ltI))
  ·show s₁.gens.size<=s₃.gens.size
   rw[hgens];exact bP _
  ·show s₃.heap.objs.size<h'.objs.size
   rw[z'];exact gk _
  ·show A.depth+n+1<=900
   exact wQ ‹_› (by rfl)
  ·show A.units+1+1+1+4+10*n<=9000
   exact D8 ‹_› (by rfl)
 have keep₅:∀(ob:Obj) b o',s₃.heap.get? b=some o'->(h'.push ob).get? b=some o':=λob b o' e=>b4 _ (hs'.extBut b o' (eT (eK e)) (b4 _ e))
 have XP:∀b,¬G.X' b->b≠P:=λb nb q=>nb ((wrmem _).mpr (.inr (.inr (.inl ⟨_,hcP,q.symm⟩))))
 have M₃:be W G.X' G.C s₁ s₃:=(((After.push H₁.ready.inv o:After W G.X' s₁ {s₁ with heap:=s₁.heap.push o,toks:=s₁.toks})).trans (a₃.weaken λb o e nx q=>XP b nx q)).moves
 have M₅:∀(ob:Obj) (gs:gC) (tk:Nat),gs.bare=true->be W G.X' G.C s₁ {s₃ with gens:=s₃.gens.push gs,toks:=tk,heap:=h'.push ob}:=λob gs tk hb=>
  ⟨⟨λb o' e=>keep₅ ob b o' (M₃.inv.stays b o' e),M₃.inv.tabs.keeps (keep₅ ob),M₃.inv.gens.push hb⟩,λb o' nb e=>keep₅ ob b o' (M₃.keep b o' nb e),λL f hL e=>(M₃.ns L f hL e).keeps (keep₅ ob),
   M₃.gens.trans ⟨by simp,λk hk=>by simp[Array.getElem?_push,eT hk]⟩,M₃.os,M₃.drawn,λb o' e=>by obtain⟨o'',e''⟩:=M₃.live b o' e;exact⟨o'',keep₅ ob b o'' e''⟩,λb o' t e=>keep₅ ob b o' (M₃.solid b o' t e)⟩
 have at5:∀(ob:Obj) (gs:gC) (tk:Nat),gs.bare=true->G.At 0 {s₃ with gens:=s₃.gens.push gs,toks:=tk,heap:=h'.push ob}:=λob gs tk hb=>by
  have M:=M₅ ob gs tk hb
  refine⟨M,?_,⟨_,hn'.push ob⟩,λb hb' => ?_⟩
  ·refine(It.walks A H₁.ready.handled).frame _ _ _ It.start λb hb' o' e=> ?_
   rcases It.fps b hb' with q|⟨o'',q,nx,_⟩
   ·subst q;rw[eI]at e;obtain rfl:=aq e;exact keep₅ ob _ _ eI3
   ·have e2:(s₁.heap.push o).get? b=some o'':=b4 _ q
    rw[e]at e2;obtain rfl:=aq e2
    exact M.keep b _ (KO.notwr q nx) q
  ·rcases(wrmem b).mp hb' with q|q|⟨q,hq,rfl⟩|⟨env,he,e⟩
   ·subst q
    refine dj (hn'.push ob) λo' ø ø e' ø=> ?_
    exact⟨o',e'⟩
   ·subst q;exact⟨_,keep₅ ob _ _ eI3⟩
   ·refine xE (tl q hq) λo' e' => ?_
    exact M.live _ _ e'
   ·refine D1 (fl env he b e) λø o' e' => ?_
    exact M.live _ _ e'
 refine hK G _ rfl rfl rfl rfl rfl a₁ KO ⟨at5 _ _ _ rfl,⟨_,_,_,et _ rfl,rfl,rfl,rfl⟩,dR _,_,Array.getElem?_push_size ..,λs'' a'' =>⟨rfl,?_⟩⟩ ?_ ?_ ?_
 ·exact GS KO a'' ⟨dc.refl _,λø ø ø ø ø e=>e⟩
 ·show h'.objs.size≠s₃.heap.objs.size
  rw[z'];exact Nat.succ_ne_self _
 ·show h'.objs.size≠s₁.heap.objs.size
  rw[z'];exact mL (kf ltI)
 ·intro b hb
  have zz:∀ob,(h'.push ob).objs.size=s₃.heap.objs.size+2:=λob=>by rw[jy,z']
  show b<(h'.push _).objs.size
  rw[zz]
  refine cr (bS.mp hb) (λq=> ?_) (λhb=> ?_)
  ·rw[q];show h'.objs.size<_;rw[z'];exact gk _
  ·refine cr (bS.mp hb) (λq=> ?_) (λhb=> ?_)
   ·rw[q];exact kf (gk _)
   ·exact kf (kf (jv.mp hb))
end
end
section
theorem GZ{vs:List PV}{bs:List Bool}(h:i4 vs=some bs):vs=bs.map .bool:=by
 induction vs generalizing bs with
 |nil=>obtain rfl:=aq h;rfl
 |cons v r ih=>
  refine bl h λb hb h=> ?_
  refine eZ h λcs hc h=> ?_
  subst h
  rw[yj hb,ih hc];rfl
theorem G0{vs:List PV}{bs:List (List Nat)}(h:cV vs=some bs):vs=bs.map .str:=by
 induction vs generalizing bs with
 |nil=>obtain rfl:=aq h;rfl
 |cons v r ih=>
  refine bl h λb hb h=> ?_
  refine eZ h λcs hc h=> ?_
  subst h
  rw[xr hb,ih hc];rfl
theorem G1(bs:List Bool):(iU bs.length).any (λi=>(bs[i]?).getD false)=bs.any id:=by
 rw[rC,List.any_eq_true,List.any_eq_true]
 constructor
 ·intro zn1
  refine ay zn1 λi hi h=> ?_
  have hlt:i<bs.length:=jv.mp hi
  rw[fV hlt]at h
  exact⟨_,rQ hlt,h⟩
 ·intro zn2
  obtain⟨b,hb,h⟩:=zn2
  obtain⟨i,hlt,e⟩:=List.mem_iff_getElem.mp hb
  exact⟨i,jv.mpr hlt,by rw[fV hlt,e];exact h⟩
section
variable{W:Wd}{n:Nat}{C:Calls}{E₀ E₁:Ev}
theorem yO{M:Model}(A:aA):tX M A.in1.in1 A.in1:=λt Q E s h=>wpAny_of_in1 h
theorem G2{M:Model}(A:aA):tX M A.in1.in1 A.in1.in1:=λt Q E s h=>h
theorem yP{G:b8}{A:aA}(K:G.Ok E₁ A n){s:ah}(M:be G.W G.X' G.C G.sr s):After G.W G.X G.sr s:=M.close (λb o e nx=>K.notwr e nx) K.nC
theorem G3(O:aZ W)(hE:aN true W (n+4) E₀)(hE1:aN false W n E₁):pQ W (n+4) E₀ E₁ where
 any:=λX A l s sc env ρ H f p elt x px iter gsc gp pos hf hg hgp hne hd hu Q E F=>by
  subst hf
  obtain⟨v,h1,h2,h3⟩:=nJ hne
  rw[h3]at hne F
  obtain⟨items,hit⟩:=eF (fC hne)
  rw[hit,m0,eM]at hne F
  obtain⟨g,hc,hpc⟩:=pO (fC hne)
  rw[hpc,eM]at hne F
  obtain⟨bs,hbs⟩:=eF (fC hne)
  rw[hbs,m0,eM]at F
  have hm:=GZ hbs
  refine gF rfl ?_
  show wpAny _ _ _ (λf s₁=>wpAny _ _ (callWith pos f [] [(false,eval (.GeneratorExp elt [⟨.Name x px,iter,[],0⟩] gsc gp) env)] []) Q E s₁) E s
  refine kO O H (ja H hg) (by decide+kernel) (O.nogl _ (by simp[blt])) ((O.mbv _ (by decide+kernel)).trans (by kernel_rfl:bootBuiltins "any" =some (.builtin "any"))) ?_
  refine jb (W:=W) "any" A E s pos [] _ Q rfl (Calls.evalArgs_plain (Calls.spliced_cons (yN O hE hE1 H hgp h1 hit hc hd hu (λy hy=> ?_) λG s' e1 e2 e3 e4 e5 a₁ K gen n1 n2 hfp=> ?_)))
  ·rw[hm,iw]at hy
   obtain⟨b,_,rfl⟩:=hy
   exact .inl ⟨b,rfl⟩
  ·subst e1 e2 e3
   refine Calls.spliced_nil ⟨gen.at_.M.inv,?_⟩
   have hrl:(900:Nat)<recursionLimit:=by decide+kernel
   have T:=yK (A:=A.in1.in1) K H.ready.handled (bU (aj (bf A.depth _) hd) hrl) n1 n2
   refine GJ T (yO A) (λi=>(bs[i]?).getD false) (λi v hF=> ?_) gen λs'' M=> ?_
   ·obtain⟨p,hp,hv⟩:=hF
    rw[e4,hm,lB]at hp
    cases hb:bs[i]? with
    |none=>rw[hb]at hp;exact am hp
    |some b=>
     rw[hb]at hp;obtain rfl:=aq hp
     rcases hv with ⟨b',h,h'⟩|⟨z,t,h,_⟩
     ·cases h;rw[h'];rfl
     ·cases h
   ·have len:bs.length=G.items.length:=by
     have:=K.len
     rw[e4,hm,cu]at this
     exact this
    rw[<-len,G1]
    exact F.1 _ _ _ rfl (a₁.trans (yP K M)) (.bool _)
 join:=λX A l s sc env ρ H y t elt x px iter gsc gp pos pl Q E hgp hd hu hne F=>by
  refine bA (nJ hne) λv h1 h2 h3=> ?_
  rw[h3]at hne F
  refine xE (eF (fC hne)) λitems hit=> ?_
  rw[hit,m0,eM]at hne F
  refine ay (pO (fC hne)) λg hc hpc=> ?_
  rw[hpc,eM]at hne F
  obtain⟨r,hr⟩:=eF hne
  rw[hr]at F
  have hj:∃ws,cV (items.filterMap g)=some ws/\ (ao y).length+(aG (ao y) ws).length<=aX/\ r= .str (aG (ao y) ws):=by
   have hr':sU (ao y) (items.filterMap g)=some r:=by
    rw[<-hr,cn]
    show _=nn (aa "join") (ao y) (.list (items.filterMap g))
    unfold nn
    rw[if_neg (by decide+kernel),if_neg (by decide+kernel),if_neg (by decide+kernel),if_neg (by decide+kernel),if_pos rfl]
    rfl
   obtain⟨ws,q,k⟩:=Ds.mp hr'
   obtain⟨k1,k2⟩:=eA k
   exact⟨ws,q,k1,k2.symm⟩
  obtain⟨ws,hws,hlen,rfl⟩:=hj
  have hm:=G0 hws
  refine GM.join ?_
  show wpAny _ _ (callWith pos (.builtin "str.join") [.str y t] [(false,eval (.GeneratorExp elt [⟨.Name x px,iter,[],0⟩] gsc gp) env)] []) Q E s
  refine jb (W:=W) "str.join" A E s pos [.str y t] _ Q rfl (Calls.evalArgs_plain (Calls.spliced_cons (yN O hE hE1 H hgp h1 hit hc hd hu (λy hy=> ?_) λG s' e1 e2 e3 e4 e5 a₁ K gen n1 n2 hfp=> ?_)))
  ·rw[hm,iw]at hy
   obtain⟨b,_,rfl⟩:=hy
   exact .inr ⟨b,rfl⟩
  ·subst e1 e2 e3
   refine Calls.spliced_nil ⟨gen.at_.M.inv,?_⟩
   have hrl:(900:Nat)<recursionLimit:=by decide+kernel
   have T:=yK (A:=A.in1.in1) K H.ready.handled (bU (show A.depth<=900 by exact aj (bf _ _) ‹_›) hrl) n1 n2
   have len:ws.length=G.items.length:=by
    have:=K.len
    rw[e4,hm,cu]at this
    exact this
   have few:=K.It.few
   have hsz:=f9
   have key:∀i v,G.F i v->∃z u,v= .str z u/\ ws[i]? =some (ao z):=λi v hF=>by
    obtain⟨p,hp,hv⟩:=hF
    rw[e4,hm,lB]at hp
    cases hb:ws[i]? with
    |none=>rw[hb]at hp;exact am hp
    |some b=>
     rw[hb]at hp;obtain rfl:=aq hp
     rcases hv with ⟨b',h,h'⟩|⟨z,t,h,h'⟩
     ·cases h
     ·cases h;exact⟨z,t,h',rfl⟩
   refine GN T (yO A) (G2 A) gen hfp (fR ..) (λi v hF=>by obtain⟨z,u,h,_⟩:=key i v hF;exact⟨z,u,h⟩) (λs'' l' M hI=> ?_) (aj ‹_› ‹_›)
   have hl:(l'.map (·.1)).map ao=ws:=by
    refine List.ext_getElem? λi=> ?_
    have hs:=hI.1
    have hs':l'.length=G.items.length:=by
     have:(strValues l').toArray.size=l'.length:=by simp[strValues]
     rw[this]at hs;exact hs
    rw[lB,lB]
    cases hb:l'[i]? with
    |none=>
     have:l'.length<=i:=List.getElem?_eq_none_iff.mp hb
     rw[List.getElem?_eq_none (aj (bG (len.trans hs'.symm)) this)];rfl
    |some b=>
     obtain⟨z,u,h,h'⟩:=key i (.str b.1 b.2) (hI.2 i _ (by simp[strValues,hb]))
     cases h
     rw[h'];rfl
   refine⟨xX (by rw[hl];exact hlen),λt' k=>F.1 _ _ _ rfl (a₁.trans ((yP K M).trans (After.tok M.inv))) ?_⟩
   have:aG (ao y) ws=ao (Txt.join y (l'.map (·.1))):=by
    unfold Txt.join;rw[Px,pG,hl]
   rw[this];exact .str _ _
theorem pR(O:aZ W)(hC:bu W n C):∀k,aN true W (n+4) (pE C true k)
 |0=>⟨λø ø ø ø ø ø ø ø ø hne=>absurd rfl hne,λø ø ø ø ø ø ø ø ø hne=>absurd rfl hne⟩
 |k+1=>⟨λsc e X A l s env ρ H=>yH O (pR O hC k) ((iG O hC k).mono (bf n 4)) (hC.mono (bf n 4)) (λø=>G3 O (pR O hC k) (iG O hC k)) H e,λsc e X A l s env ρ H=>yn (pR O hC k) (hC.mono (bf n 4)) H e⟩
end
end
section
structure Blk(K:Addr->Obj->Prop)(g:Bool)(W:Wd)(X:Addr->Prop)(C:Addr)(A:aA)(l:List av)(sf:ah)(sc:Scope)(env:av):Prop where
 O:aZ W
 inv:Inv W sf
 frames:A.frames=some l
 guards:A.guards=some []
 handled:A.handled=none
 below:∀e∈l,e.scope.kind≠ .module/\ ∃L,e.frame=some L/\ W.base.get? L=none/\ X L/\ (L=C \/∃m,sf.heap.Ns L m)
 xtabs:∀q∈W.tabs,X q.2
 xbase:∀b o,W.base.get? b=some o->¬X b
 new:sf.heap.get? C=none
 XC:X C
 kp:∀b o,K b o->(¬X b \/dn o)/\ b≠C
 envk:jO g W sc env
 locals:env.locals=C
 top:∃outer,l=env::outer
 frm:env.frame=some C
structure a7(K:Addr->Obj->Prop)(W:Wd)(X:Addr->Prop)(C:Addr)(sf:ah)(sc:Scope)(s:ah)(ρ:ak):Prop where
 M:be W X C sf s
 loc:nv W X s.heap C ρ
 kinds:pu sc ρ
 lives:∀b,X b->∃o,s.heap.get? b=some o
 kept:∀b o,K b o->s.heap.get? b=some o
structure Base(W:Wd)(X:Addr->Prop)(l:List av)(sf:ah)(B:Heap):Prop where
 keep:∀b o,¬X b->sf.heap.get? b=some o->B.get? b=some o
 live:∀b o,sf.heap.get? b=some o->(∃o',B.get? b=some o') \/b∈l.filterMap (·.frame)
 solid:∀b o,dn o->sf.heap.get? b=some o->B.get? b=some o
 stays:W.base.StaysIn B
 tabs:lT W B
structure eO(K:Addr->Obj->Prop)(W:Wd)(X:Addr->Prop)(l:List av)(C:Addr)(sf:ah)(sc:Scope)(e:Addr)(c:XC)(ρ:ak)(s:ah):Prop where
 M:be W X C sf s
 kinds:pu sc ρ
 fly:∃B a0 m,Base W X l sf B/\ vU B l e (W.excA c) a0 s.heap/\ s.heap.Ns C m/\ (∀x p,ρ.lookup x=some p->∃v,m x=some v/\ Rep W X B v p)/\ (∀b,X b->(∃o,B.get? b=some o) \/b∈l.filterMap (·.frame))/\ ∀b o,K b o->B.get? b=some o
structure nK(W:Wd)(X:Addr->Prop)(l:List av)(C:Addr)(sf:ah)(e:Addr)(c:XC)(s:ah):Prop where
 M:be W X C sf s
 fly:∃B a0,Base W X l sf B/\ Heap.HeldW B l e (W.excA c) a0 C s.heap
structure cR(K:Addr->Obj->Prop)(W:Wd)(X:Addr->Prop)(C:Addr)(l:List av)(sf:ah)(sc:Scope)(r:aB)(Q:cO->ah->Prop)(E:ae->ah->Prop):Prop where
 next:∀ρ s,r= .next ρ->a7 K W X C sf sc s ρ->Q .next s
 brk:∀ρ s,r= .brk ρ->a7 K W X C sf sc s ρ->Q .brk s
 ret:∀v p s,r= .ret p->be W X C sf s->Rep W X s.heap v p->Q (.ret v) s
 exc:∀e c ρ s,r= .exc c ρ->eO K W X l C sf sc e c ρ s->E (.ref e) s
 rais:∀e c ρ s₁ h' tk x t,r= .rais c ρ->a7 K W X C sf sc s₁ ρ->wu s₁.heap h' e (W.excA c) [.str x t]->E (.ref e) {s₁ with heap:=h',toks:=tk}
 held:∀e c s,r= .held c->nK W X l C sf e c s->E (.ref e) s
section
variable{K:Addr->Obj->Prop}{g:Bool}{W:Wd}{X:Addr->Prop}{C:Addr}{A:aA}{l:List av}{sf s:ah}{sc:Scope}{env:av}{ρ:ak}{n:Nat}
theorem Blk.tabs(B:Blk K g W X C A l sf sc env):∀q∈W.tabs,∃o,sf.heap.get? q.2=some o:=λq hq=>by
 refine bA (B.inv.tabs q hq) λps ø ø k=> ?_
 exact⟨_,k⟩
theorem Blk.ready(B:Blk K g W X C A l sf sc env)(a:a7 K W X C sf sc s ρ):Ready W X A l s where
 inv:=a.M.inv
 frames:=B.frames
 guards:=B.guards
 handled:=B.handled
 below:=λe he=>by
  refine DU (B.below e he) λk L e1 e2 e3 e4=> ?_
  rcases e4 with q|⟨m,hm⟩
  ·subst q
   refine dN a.loc λø m hm ø=> ?_
   exact⟨k,L,m,e1,e2,hm,e3⟩
  ·refine⟨k,L,m,e1,e2,a.M.ns L m (λq=> ?_) hm,e3⟩
   refine dj hm λo ø ø e' ø=> ?_
   rw[q,B.new]at e';cases e'
 xtabs:=B.xtabs
 xbase:=B.xbase
 xlt:=a.lives
theorem Blk.here(B:Blk K g W X C A l sf sc env)(a:a7 K W X C sf sc s ρ):Here g W X A l s sc env ρ:=
 ⟨B.ready a,B.envk,by rw[B.locals];exact a.loc,a.kinds⟩
theorem a7.after'{s₁:ah}(a:a7 K W X C sf sc s ρ)(af:After W X s s₁)(hk:∀b o,K b o->¬X b \/dn o):a7 K W X C sf sc s₁ ρ:=⟨a.M.after af,a.loc.after af,a.kinds,λb hb=>by obtain⟨o,e⟩:=a.lives b hb;exact af.live b o e,λb o k=>(hk b o k).elim (λh=>af.keep b o h (a.kept b o k)) λh=>af.solid b o h (a.kept b o k)⟩
theorem a7.flies{e:Addr}{c:XC}{s':ah}(a:a7 K W X C sf sc s ρ)(hk:∀b o,K b o->¬X b \/dn o)(fl:f8 W X l e c s s'):eO K W X l C sf sc e c ρ s':=by
 refine⟨a.M.after fl.after,a.kinds,?_⟩
 obtain⟨zn1,h5,h6,h8,h9⟩:=fl
 refine mU zn1 λB a0 h1 h12 hs h2 h3 h4=> ?_
 refine dN a.loc λø m hn hv=> ?_
 refine⟨B,a0,m,⟨λb o nx e=>h1 b o nx (a.M.keep b o nx e),λb o e=> ?_,λb o t e=>hs b o t (a.M.solid b o t e),h2,h3⟩,h4,h5 _ _ hn,λx p e=> ?_,λb hb=>by obtain⟨o,e⟩:=a.lives b hb;exact h12 b o e,λb o k=>(hk b o k).elim (λh=>h1 b o h (a.kept b o k)) λh=>hs b o h (a.kept b o k)⟩
 ·refine xE (a.M.live b o e) λo' e' => ?_
  exact h12 b o' e'
 ·refine ay (hv x p e) λv e1 e2=> ?_
  exact⟨v,e1,e2.mono h1 λø ø ø n=>n⟩
theorem SC.sstep{γ β:Type}{R:Heap->γ->β->Prop}{r1:Res β}{f:β->aB}{t1:Sem γ}(h1:SC W X l R n A t1 s r1)(a:a7 K W X C sf sc s ρ)(hk:∀b o,K b o->¬X b \/dn o)(hne:aW r1 ρ f≠ .stuck)(hd:A.depth+n<=900)(hu:A.units+10*n<=9000)
  {Q:cO->ah->Prop} {E:ae->ah->Prop} (F:cR K W X C l sf sc (aW r1 ρ f) Q E) {K':γ->ah->Prop}
  (hK:∀v p s₁,r1= .ok p->After W X s s₁->a7 K W X C sf sc s₁ ρ->R s₁.heap v p->f p≠ .stuck->cR K W X C l sf sc (f p) Q E->K' v s₁):wpAny W.M A t1 K' E s:=by
 refine h1 (λe=>hne (by rw[e];rfl)) hd hu K' E ⟨λv p s' e af q=> ?_,λe c s' h fl=> ?_⟩
 ·subst e
  exact hK v p s' rfl af (a.after' af hk) q hne F
 ·subst h
  exact F.exc e c ρ s' rfl (a.flies hk fl)
theorem gd(x:Str)(v:PV):∀(ρ:ak) (y:Str),(aQ x v ρ).lookup y=if y=x then some v else ρ.lookup y
 |[],y=>by
  rw[aQ,ch]
  by_cases h:y=x
  ·subst h;simp
  ·have:(y==x)=false:=gv h
   rw[this,if_neg h]
 |(z,w)::r,y=>by
  rw[aQ]
  by_cases hz:z=x
  ·rw[if_pos hz,ch,ch]
   subst hz
   by_cases h:y=z
   ·subst h;simp
   ·have:(y==z)=false:=gv h
    rw[this,if_neg h]
  ·rw[if_neg hz,ch,ch]
   by_cases h:y=z
   ·subst h;rw[beq_self_eq_true,if_neg hz]
   ·have:(y==z)=false:=gv h
    rw[this]
    exact gd x v r y
theorem Blk.sol(B:Blk K g W X C A l sf sc env):∀b o,K b o->¬X b \/dn o:=λb o k=>(B.kp b o k).1
theorem jc{A':aA}(B:Blk K g W X C A l sf sc env)(a:a7 K W X C sf sc s ρ){x:Str}{v:ae}{p:PV}(hl:bR sc x=true)(r:Rep W X s.heap v p){Q:Unit->ah->Prop}{E:ae->ah->Prop}
  (h:∀s',a7 K W X C sf sc s' (aQ x p ρ)->(∀b o,b≠C->s.heap.get? b=some o->s'.heap.get? b=some o)->Q () s'):wpAny W.M A' (storeName env x v) Q E s:=by
 refine dN a.loc λø m hn hv=> ?_
 have hp:(env.scope.kind== .class||(env.scope.kind== .module&&env.locals !=env.globals))=false:=by rw[B.envk.scope];rfl
 refine lC (B.envk.names x .local (cN hl) (by decide) (by decide)) (by rw[B.locals];exact hn) (λh' hn' hs' => ?_) hp
 rw[B.locals]at hn' hs'
 have up:∀b o,¬X b->s.heap.get? b=some o->h'.get? b=some o:=λb o nx e=>hs'.extBut b o (λq=>nx (q▸B.XC)) e
 refine h _ ⟨a.M.chg (tk:=s.toks+1) B.inv B.new hs'.extBut (.inl rfl) B.tabs,⟨B.XC,_,hn',λy q e=> ?_⟩,λy q e=> ?_,λb hb=> ?_,λb o k=>hs'.extBut b o (B.kp b o k).2 (a.kept b o k)⟩ λb o ne e=>hs'.extBut b o ne e
 ·rw[gd]at e
  by_cases h:y=x
  ·rw[if_pos h]at e;obtain rfl:=aq e
   exact⟨v,if_pos h,r.mono up λø ø ø nx=>nx⟩
  ·rw[if_neg h]at e
   refine ay (hv y q e) λw e1 e2=> ?_
   exact⟨w,(if_neg h).trans e1,e2.mono up λø ø ø nx=>nx⟩
 ·rw[gd]at e
  by_cases h:y=x
  ·rw[h];exact cN hl
  ·rw[if_neg h]at e;exact a.kinds y q e
 ·by_cases h:b=C
  ·subst h
   refine dj hn' λo ø ø e ø=> ?_
   exact⟨o,e⟩
  ·refine xE (a.lives b hb) λo e=> ?_
   exact⟨o,hs'.extBut b o h e⟩
end
end
section
noncomputable def fD(g:Bool)(W:Wd)(n:Nat)(ex:Scope->aC->ak->aB):Prop:=
 ∀K sc st X C A l sf env ρ s,Blk K g W X C A l sf sc env->a7 K W X C sf sc s ρ->ex sc st ρ≠ .stuck->A.depth+n<=900->A.units+10*n<=9000->∀Q E,cR K W X C l sf sc (ex sc st ρ) Q E->wpAny W.M A (exec st env) Q E s
section
variable{K:Addr->Obj->Prop}{g:Bool}{W:Wd}{X:Addr->Prop}{C:Addr}{A:aA}{l:List av}{sf s:ah}{sc:Scope}{env:av}{ρ:ak}{n:Nat}{E₀:Ev}{ex:Scope->aC->ak->aB}
theorem a7.self(a:a7 K W X C sf sc s ρ):be W X C sf s:=a.M
theorem kR(hX:fD g W n ex)(B:Blk K g W X C A l sf sc env)(hd:A.depth+n<=900)(hu:A.units+10*n<=9000):∀(sts:List aC) (ρ:ak) (s:ah),a7 K W X C sf sc s ρ->aw (ex sc) sts ρ≠ .stuck->∀Q E,cR K W X C l sf sc (aw (ex sc) sts ρ) Q E->wpAny W.M A (execs sts env) Q E s
 |[],ρ,s,a,hne,Q,E,F=>dW (F.next ρ s rfl a)
 |st::r,ρ,s,a,hne,Q,E,F=>by
  refine bW ?_
  unfold aw at hne F
  refine hX K sc st X C A l sf env ρ s B a (λq=>hne (by rw[q])) hd hu _ _ ⟨?_,?_,?_,?_,?_,?_⟩
  ·intro ρ' s' e a'
   rw[e]at hne F
   exact kR hX B hd hu r ρ' s' a' hne Q E F
  ·intro ρ' s' e a'
   rw[e]at F
   exact F.brk ρ' s' rfl a'
  ·intro v p s' e m r'
   rw[e]at F
   exact F.ret v p s' rfl m r'
  ·intro e c ρ' s' q f
   rw[q]at F
   exact F.exc e c ρ' s' rfl f
  ·intro e c ρ' s₁ h' tk x t q a' f
   rw[q]at F
   exact F.rais e c ρ' s₁ h' tk x t rfl a' f
  ·intro e c s' q f
   rw[q]at F
   exact F.held e c s' rfl f
theorem yQ(B:Blk K g W X C A l sf sc env):interactive env=false:=by
 unfold interactive;rw[B.envk.scope];rfl
theorem yR(hE:aN g W n E₀)(B:Blk K g W X C A l sf sc env)(a:a7 K W X C sf sc s ρ){x:Str}{px p:ax}{op:mH}{v:ai}{i:Int}{f:Int->Int->Int}
  (hop:∀(Q E:ae->ah->Prop) (s:ah) (a:Int) (t:bE) (b:Int) (u:bE),Q (.int (f a b) s.toks) {s with toks:=s.toks+1}->wpAny W.M A (inplaceOp op (.int a t) (.int b u)) Q E s)
  (hb:∀b z,bJ op (.int i) b=some z->∃j,b= .int j/\ z= .int (f i j))
  (hx:ρ.lookup x=some (.int i)) (hne:(aW (E₀.ev sc v ρ) ρ λb=>aW (aE (bJ op (.int i) b)) ρ λr=> .next (aQ x r ρ))≠ .stuck) (hd:A.depth+n<=900) (hu:A.units+10*n<=9000) {Q:cO->ah->Prop} {E:ae->ah->Prop}
  (F:cR K W X C l sf sc (aW (E₀.ev sc v ρ) ρ λb=>aW (aE (bJ op (.int i) b)) ρ λr=> .next (aQ x r ρ)) Q E):wpAny W.M A (exec (.AugAssign (.Name x px) op v p) env) Q E s:=by
 have hl:bR sc x=true:=by unfold bR;rw[a.kinds x _ hx];rfl
 refine dN a.loc λø m hn hv=> ?_
 refine ay (hv x _ hx) λvx e1 r1=> ?_
 refine wpAny_AugAssign_Name (dM B.envk.scope (B.envk.names x .local (a.kinds x _ hx) (by decide) (by decide)) (by rw[B.locals];exact hn) e1 ?_)
 refine(hE.1 sc v X A l s env ρ (B.here a)).sstep a B.sol hne hd hu F λvb b s₁ ø af a₁ rb ne1 F1=> ?_
 cases hz:bJ op (.int i) b with
 |none=>rw[hz]at ne1;exact absurd rfl ne1
 |some z=>
  rw[hz]at F1
  refine ay (hb b z hz) λj zq1 zq2=> ?_;subst zq1 zq2
  refine xE r1.intI λt zq1=> ?_;subst zq1
  refine xE rb.intI λu zq1=> ?_;subst zq1
  refine hop _ _ _ _ _ _ _ ?_
  exact jc B (a₁.after' (After.tok (tk:=s₁.toks+1) a₁.M.inv) B.sol) hl (.int _ _) λs₃ a₃ ø=>F1.next _ s₃ rfl a₃
theorem G4(hE:aN g W n E₀)(B:Blk K g W X C A l sf sc env)(a:a7 K W X C sf sc s ρ){x:Str}{px p:ax}{v:ai}(hl:bR sc x=true)(hv:kK v=true)
  (hne:(aW (E₀.ev sc v ρ) ρ λa=> .next (aQ x a ρ))≠ .stuck) (hd:A.depth+n<=900) (hu:A.units+10*n<=9000) {Q:cO->ah->Prop} {E:ae->ah->Prop}
  (F:cR K W X C l sf sc (aW (E₀.ev sc v ρ) ρ λa=> .next (aQ x a ρ)) Q E):wpAny W.M A (exec (.Assign [.Name x px] v p) env) Q E s:=by
 have hs:swapsWith v (some (.Name x px)) p.line env=pure false:=by
  cases v<;>first|rfl|exact bZ hv
 refine ix (hs:=hs) ((hE.1 sc v X A l s env ρ (B.here a)).sstep a B.sol hne hd hu F λvb b s₁ ø af a₁ rb ne1 F1=> ?_)
 exact jc B a₁ hl rb λs₃ a₃ ø=>F1.next _ s₃ rfl a₃
theorem G5(hE:aN g W n E₀)(B:Blk K g W X C A l sf sc env)(a:a7 K W X C sf sc s ρ){p:ax}{v:ai}
  (hne:(aW (E₀.ev sc v ρ) ρ λv=> .ret v)≠ .stuck) (hd:A.depth+n<=900) (hu:A.units+10*n<=9000) {Q:cO->ah->Prop} {E:ae->ah->Prop}
  (F:cR K W X C l sf sc (aW (E₀.ev sc v ρ) ρ λv=> .ret v) Q E):wpAny W.M A (exec (.Return (some v) p) env) Q E s:=
 iy ((hE.1 sc v X A l s env ρ (B.here a)).sstep a B.sol hne hd hu F λvb b s₁ ø af a₁ rb ne1 F1=>F1.ret vb b s₁ rfl a₁.M rb)
theorem G6(hE:aN g W n E₀)(hX:fD g W n ex)(B:Blk K g W X C A l sf sc env)(a:a7 K W X C sf sc s ρ){p:ax}{t:ai}{b o:List aC}
  (hne:(aW (E₀.tst sc t ρ) ρ λc=>if c then aw (ex sc) b ρ else aw (ex sc) o ρ)≠ .stuck) (hd:A.depth+n<=900) (hu:A.units+10*n<=9000) {Q:cO->ah->Prop} {E:ae->ah->Prop}
  (F:cR K W X C l sf sc (aW (E₀.tst sc t ρ) ρ λc=>if c then aw (ex sc) b ρ else aw (ex sc) o ρ) Q E):wpAny W.M A (exec (.If t b o p) env) Q E s:=by
 refine jA ((hE.2 sc t X A l s env ρ (B.here a)).sstep a B.sol hne hd hu F λvb c s₁ ø af a₁ rb ne1 F1=> ?_)
 subst rb
 cases vb with
 |true=>exact kR hX B hd hu b ρ s₁ a₁ ne1 Q E F1
 |false=>exact kR hX B hd hu o ρ s₁ a₁ ne1 Q E F1
theorem G7(hE:aN g W n E₀)(hX:fD g W n ex)(B:Blk K g W X C A l sf sc env){p:ax}{t:ai}{b:List aC}(hd:A.depth+n<=900)(hu:A.units+10*n<=9000){Q:cO->ah->Prop}{E:ae->ah->Prop}
  (fuel:Nat) (a:a7 K W X C sf sc s ρ) (hne:dC (E₀.tst sc t) (aw (ex sc) b) fuel ρ≠ .stuck) (F:cR K W X C l sf sc (dC (E₀.tst sc t) (aw (ex sc) b) fuel ρ) Q E):wpAny W.M A (exec (.While t b [] p) env) Q E s:=by
 refine wpAny_While (codeAny_whileLoop (λk s' =>∃ρ',a7 K W X C sf sc s' ρ'/\ dC (E₀.tst sc t) (aw (ex sc) b) k ρ'≠ .stuck/\ cR K W X C l sf sc (dC (E₀.tst sc t) (aw (ex sc) b) k ρ') Q E) ?_ fuel ⟨ρ,a,hne,F⟩)
 intro k s' zn1
 refine bA zn1 λρ' a' hne' F' => ?_
 cases k with
 |zero=>exact absurd rfl hne'
 |succ k=>
  unfold dC at hne' F'
  cases ht:E₀.tst sc t ρ' with
  |stuck=>rw[ht]at hne';exact absurd rfl hne'
  |exc c=>rw[ht]at hne';exact absurd rfl hne'
  |ok c=>
   rw[ht]at hne' F'
   refine hE.2 sc t X A l s' env ρ' (B.here a') (by rw[ht];exact λq=>nomatch q) hd hu _ _ ⟨λv q s₁ e1 af r=> ?_,λe' c' s₁ e1 ø=>by rw[ht]at e1;cases e1⟩
   rw[ht]at e1
   obtain rfl:=dk e1
   cases r
   have a₁:=a'.after' af B.sol
   cases c with
   |false=>
    rw[if_neg (by decide)]
    exact dW (F'.next ρ' s₁ rfl a₁)
   |true=>
    rw[if_pos rfl]
    dsimp only at hne' F'
    refine kR hX B hd hu b ρ' s₁ a₁ (λq=>hne' (by rw[q])) _ _ ⟨?_,?_,?_,?_,?_,?_⟩
    ·intro ρ2 s₂ e a₂
     rw[e]at hne' F'
     exact⟨k,gk k,ρ2,a₂,hne',F'⟩
    ·intro ρ2 s₂ e a₂
     rw[e]at F'
     exact F'.next ρ2 s₂ rfl a₂
    ·intro v p s₂ e m r'
     rw[e]at F'
     exact F'.ret v p s₂ rfl m r'
    ·intro e c ρ2 s₂ q
     rw[q]at hne';exact absurd rfl hne'
    ·intro e c ρ2 s₂ h' tk x t q
     rw[q]at hne';exact absurd rfl hne'
    ·intro e c s₂ q
     rw[q]at hne';exact absurd rfl hne'
end
end
section
section
variable{K:Addr->Obj->Prop}{g:Bool}{W:Wd}{X X1:Addr->Prop}{C:Addr}{A:aA}{l:List av}{sf s:ah}{sc:Scope}{env:av}{ρ:ak}{n:Nat}{E₀:Ev}{ex:Scope->aC->ak->aB}
theorem Blk.wide(B:Blk K g W X C A l sf sc env){I:Addr}(hI:sf.heap.get? I=none)(hKI:∀b o,K b o->b≠I):Blk K g W (λb=>X b \/b=I) C A l sf sc env where
 O:=B.O
 inv:=B.inv
 frames:=B.frames
 guards:=B.guards
 handled:=B.handled
 below:=λe he=>by obtain⟨k,L,e1,e2,e3,e4⟩:=B.below e he;exact⟨k,L,e1,e2, .inl e3,e4⟩
 xtabs:=λq hq=> .inl (B.xtabs q hq)
 xbase:=λb o e h=>by
  refine cr (h) (λh=> ?_) (λh=> ?_)
  ·exact B.xbase b o e h
  ·have:=B.inv.stays b o e;rw[h,hI]at this;exact am this
 new:=B.new
 XC:= .inl B.XC
 kp:=λb o k=>⟨(B.kp b o k).1.elim (λh=> .inl λq=>q.elim h (hKI b o k)) .inr,(B.kp b o k).2⟩
 envk:=B.envk
 locals:=B.locals
 top:=B.top
 frm:=B.frm
theorem a7.wide{I:Addr}{o:Obj}{h':Heap}{tk:Nat}(B:Blk K g W X C A l sf sc env)(a:a7 K W X C sf sc s ρ)(hI:s.heap.get? I=none)(k:∀b o,s.heap.get? b=some o->h'.get? b=some o)(hn:h'.get? I=some o):a7 K W (λb=>X b \/b=I) C sf sc {s with heap:=h',toks:=tk} ρ:=by
 have af:After W X s {s with heap:=h',toks:=tk}:=After.of_keeps a.M.inv k
 have a':=a.after' af B.sol
 refine⟨a'.M.weaken λb o e nx q=>nx (.inl q),⟨.inl B.XC,?_⟩,a.kinds,λb hb=> ?_,a'.kept⟩
 ·refine dN a.loc λø m hm hv=> ?_
  refine⟨m,hm.keeps k,λx p e=> ?_⟩
  refine ay (hv x p e) λv e1 e2=> ?_
  exact⟨v,e1,e2.mono (λb o ø e=>k b o e) λb o e nx q=>by
   refine cr (q) (λq=> ?_) (λq=> ?_)
   ·exact nx q
   ·rw[q,hI]at e;cases e⟩
 ·refine cr (hb) (λq=> ?_) (λq=> ?_)
  ·exact a'.lives b q
  ·subst q;exact⟨o,hn⟩
theorem be.narrow{I:Addr}{s':ah}(m:be W (λb=>X b \/b=I) C sf s')(hI:sf.heap.get? I=none):be W X C sf s':=m.weaken λb o e nx q=>by
 rcases q with q|q
 ·exact nx q
 ·rw[q,hI]at e;exact am e
theorem Rep.narrow{I:Addr}{h:Heap}{v:ae}{p:PV}(r:Rep W (λb=>X b \/b=I) h v p):Rep W X h v p:=r.mono (λø ø ø e=>e) λb o e nx q=>nx (.inl q)
theorem a7.narrow{I:Addr}(a:a7 K W (λb=>X b \/b=I) C sf sc s ρ)(B:Blk K g W X C A l sf sc env)(hI:sf.heap.get? I=none):a7 K W X C sf sc s ρ:=by
 refine⟨a.M.narrow hI,⟨B.XC,?_⟩,a.kinds,λb hb=>a.lives b (.inl hb),a.kept⟩
 refine dN a.loc λø m hm hv=> ?_
 exact⟨m,hm,λx p e=>by obtain⟨v,e1,e2⟩:=hv x p e;exact⟨v,e1,e2.narrow⟩⟩
theorem Base.narrow{I:Addr}{Bh:Heap}(b:Base W (λb=>X b \/b=I) l sf Bh)(hI:sf.heap.get? I=none):Base W X l sf Bh:=
 ⟨λa o nx e=>b.keep a o (λq=>by
  refine cr (q) (λq=> ?_) (λq=> ?_)
  ·exact nx q
  ·rw[q,hI]at e;exact am e) e,b.live,b.solid,b.stays,b.tabs⟩
theorem eO.narrow{I e:Addr}{c:XC}(f:eO K W (λb=>X b \/b=I) l C sf sc e c ρ s)(hI:sf.heap.get? I=none):eO K W X l C sf sc e c ρ s:=by
 obtain⟨M,k,B,a0,m,b,fl,hn,hv,lv,kp⟩:=f
 exact⟨M.narrow hI,k,B,a0,m,b.narrow hI,fl,hn,λx p e=>by obtain⟨v,e1,e2⟩:=hv x p e;exact⟨v,e1,e2.narrow⟩,λb hb=>lv b (.inl hb),kp⟩
theorem G8(B:Blk K g W X C A l sf sc env){outer:List av}(hl:l=env::outer)(hf:env.frame=some C){e:Addr}{c:XC}{K':Addr->Obj->Prop}(f:eO K' W X l C sf sc e c ρ s){Q:Unit->ah->Prop}{E:ae->ah->Prop}
  (h:∀s',nK W X l C sf e c s'->Q () s'):wpAny W.M A (noteFrame (.ref e) env) Q E s:=by
 obtain⟨M,k,Bh,a0,m,b,fl,hn,hv,lv⟩:=f
 subst hl
 refine wpAny_looks_onW B.frames hf fl λh' hh up=>h _ ⟨?_,Bh,a0,b,hh⟩
 refine⟨⟨λb' o e=>hh.1 b' o (b.stays b' o e),b.tabs.keeps hh.1,M.inv.gens⟩,λb' o nx e=>hh.1 b' o (b.keep b' o nx e),λL f hL e=>up.ns (M.ns L f hL e),M.gens,M.os,M.drawn,λb' o e=> ?_,λb' o t e=>hh.1 b' o (b.solid b' o t e)⟩
 rcases b.live b' o e with ⟨o',e'⟩|hm
 ·exact⟨o',hh.1 _ _ e'⟩
 ·refine dN (hh.2.2.1.mem hm) λø o' e' ø=> ?_
  exact⟨o',e'⟩
end
end
section
section
variable{K:Addr->Obj->Prop}{g:Bool}{W:Wd}{X X1:Addr->Prop}{C:Addr}{A:aA}{l:List av}{sf s:ah}{sc:Scope}{env:av}{ρ:ak}{n:Nat}{E₀:Ev}{ex:Scope->aC->ak->aB}
noncomputable def Xo(X:Addr->Prop)(I:Addr):Addr->Prop:=λb=>X b \/b=I
inductive yS(K:Addr->Obj->Prop)(W:Wd)(X:Addr->Prop)(C:Addr)(l:List av)(sf:ah)(sc:Scope)(P:ak->aB)(x:Str)(items:List PV)(St:Nat->Heap->Prop)(s₁:ah)(Q:cO->ah->Prop)(E:ae->ah->Prop)(k:Nat)(s':ah):Prop
 |mk (i:Nat) (ρ':ak):k=items.length+1-i->i<=items.length->a7 K W (Xo X s₁.heap.objs.size) C sf sc s' ρ'->St i s'.heap->(∀b o',s₁.heap.get? b=some o'->¬X b->s'.heap.get? b=some o')->db P x (items.drop i) ρ'≠ .stuck->cR K W X C l sf sc (db P x (items.drop i) ρ') Q E->yS K W X C l sf sc P x items St s₁ Q E k s'
theorem G9{Bh h':Heap}{tk:Nat}(M:be W X C sf s)(b:Base W X l sf Bh)(st:Bh.StaysIn h')(fr:h'.FunFrames Bh l)(ns:∀L m,s.heap.Ns L m->h'.Ns L m):be W X C sf {s with heap:=h',toks:=tk}:=by
 refine⟨⟨λb' o e=>st b' o (b.stays b' o e),b.tabs.keeps st,M.inv.gens⟩,λb' o nx e=>st b' o (b.keep b' o nx e),λL f hL e=>ns L f (M.ns L f hL e),M.gens,M.os,M.drawn,λb' o e=> ?_,λb' o t e=>st b' o (b.solid b' o t e)⟩
 rcases b.live b' o e with ⟨o',e'⟩|hm
 ·exact⟨o',st _ _ e'⟩
 ·refine dN (fr.mem hm) λø o' e' ø=> ?_
  exact⟨o',e'⟩
theorem G'(hf:env.frame=some C){e:Addr}{c:XC}(f:nK W X l C sf e c s){E:ae->ah->Prop}(h:∀s',nK W X l C sf e c s'->E (.ref e) s'):cameBackBy W.M A env E (.ref e) s:=by
 obtain⟨M,Bh,a0,b,hkb,hen,hl,ht⟩:=f
 refine DW ht λoe vs T oT ts he hcls hd h1 hnT hTe hT hdT h3=> ?_
 have hsz3:3<ts.size:=(Array.getElem?_eq_some_iff.mp h3).1
 have other:∀b,b≠T->(s.heap.update T (DE (·.setIfInBounds 3 (rawInt C)))).get? b=s.heap.get? b:=λb hb=>wp _ _ (cF hb)
 have noRecord:∀b o,s.heap.get? b=some o->(∀vs,o.data≠ .fields vs)->b≠T:=λb o hb hnf q=>by
  rw[q,hT]at hb;injection hb with hb;subst hb;exact hnf ts hdT
 unfold cameBackBy
 refine aJ (rJ he hd h1 ?_)
 rw[if_neg (show¬((rR T==kl)=true)from by simp)]
 rw[hf]
 have fin:wpAny W.M A (setFlight (.ref e) (some C)) (λø s'' =>E (.ref e) s'') E s:=by
  unfold setFlight
  refine aJ (rJ he hd h1 ?_)
  rw[if_pos (show(rR T !=kl)=true from by simp)]
  refine wpAny_setField hT hdT hsz3 ?_
  have st:Bh.StaysIn (s.heap.update T (DE (·.setIfInBounds 3 (rawInt C)))):=λb o hbo=>(other b λq=>by rw[q,hnT]at hbo;exact am hbo).trans (hkb b o hbo)
  have fr:(s.heap.update T (DE (·.setIfInBounds 3 (rawInt C)))).FunFrames Bh l:=hl.of_keeps λb o hb hnf=>⟨o,(other b (noRecord b o hb hnf)).trans hb,rfl⟩
  refine h _ ⟨G9 M b st fr λL m hn=>hn.at' λo e' =>(other L (λq=>by
   rw[q]at hn
   exact kP hT (by rw[hdT];intro ø ø q;cases q) _ hn)).trans e',Bh,a0,b,st,hen,fr,?_⟩
  exact⟨oe,vs,T,_,_,(other e (cF hTe)).trans he,hcls,hd,h1,hnT,hTe,wo _ hT (Obj.isFreed_of_fields (Obj.data_mapFields hdT _)),Obj.data_mapFields hdT _,by simp[hsz3]⟩
 first
  |exact fin
  |exact aJ (bk fin)
theorem Ha(hE:aN g W n E₀)(hX:fD g W n ex)(B:Blk K g W X C A l sf sc env)(a:a7 K W X C sf sc s ρ){x:Str}{px p:ax}{it:ai}{b:List aC}(hx:bR sc x=true)(hset:cW it=true)
  (hne:(aW (ca (E₀.ev sc it ρ)) ρ λv=>aW (aE (bQ v)) ρ λitems=>db (aw (ex sc) b) x items ρ)≠ .stuck) (hd:A.depth+n<=900) (hu:A.units+10*n<=9000) {Q:cO->ah->Prop} {E:ae->ah->Prop}
  (F:cR K W X C l sf sc (aW (ca (E₀.ev sc it ρ)) ρ λv=>aW (aE (bQ v)) ρ λitems=>db (aw (ex sc) b) x items ρ) Q E):wpAny W.M A (exec (.For (.Name x px) it b [] p) env) Q E s:=by
 refine xE B.top λouter hl=> ?_
 have hf:=B.frm
 cases hv:E₀.ev sc it ρ with
 |exc c=>rw[hv]at hne;exact absurd rfl hne
 |stuck=>rw[hv]at hne;exact absurd rfl hne
 |ok v=>
  rw[hv]at hne F
  have hne:(aW (aE (bQ v)) ρ λitems=>db (aw (ex sc) b) x items ρ)≠ .stuck:=hne
  have F:cR K W X C l sf sc (aW (aE (bQ v)) ρ λitems=>db (aw (ex sc) b) x items ρ) Q E:=F
  cases hi:bQ v with
  |none=>rw[hi]at hne;exact absurd rfl hne
  |some items=>
   rw[hi]at hne F
   have hne:db (aw (ex sc) b) x items ρ≠ .stuck:=hne
   have F:cR K W X C l sf sc (db (aw (ex sc) b) x items ρ) Q E:=F
   refine wpAny_For (hs:=tS hset env) (hE.1 sc it X A l s env ρ (B.here a) (by rw[hv];exact λq=>nomatch q) hd hu _ _ ⟨λva q s₁ e1 a₁ r₁=> ?_,λe' c s' e1 ø=>by rw[hv]at e1;cases e1⟩)
   rw[hv]at e1
   obtain rfl:=dk e1
   have at₁:=a.after' a₁ B.sol
   refine pN hi r₁ λo fp P St so It=> ?_
   have nI:s₁.heap.get? s₁.heap.objs.size=none:=dU (bP _)
   have sI:sf.heap.get? s₁.heap.objs.size=none:=by
    cases q:sf.heap.get? s₁.heap.objs.size with
    |none=>rfl
    |some o' =>obtain⟨o'',e⟩:=at₁.M.live _ _ q;rw[nI]at e;exact am e
   refine bA (It.own 0 _ It.start) λoI0 eI0 ø ø=> ?_
   have at₂:a7 K W (Xo X s₁.heap.objs.size) C sf sc {s₁ with heap:=s₁.heap.push o,toks:=s₁.toks} ρ:=a7.wide B at₁ nI (λb o' e=>b4 _ e) eI0
   obtain⟨mC,eC⟩:∃m,s₁.heap.Ns C m:=let ⟨_,m,hm,_⟩:=at₁.loc
   ⟨m,hm⟩
   have hCI:C≠s₁.heap.objs.size:=λq=>by obtain⟨o',_,_,e,_⟩:=eC;rw[q,nI]at e;exact am e
   have Wk:=It.walks A B.handled
   have kI:∀b o',K b o'->b≠s₁.heap.objs.size:=λb o' k q=>by have:=at₁.kept b o' k;rw[q,nI]at this;exact am this
   have B₂:=B.wide sI kI
   refine codeAny_forLoop (yS K W X C l sf sc (aw (ex sc) b) x items St s₁ Q E)
    ?_ (items.length+1) ⟨0,ρ,rfl,dR _,at₂,It.start,λb o' e ø=>b4 _ e,hne,F⟩
   intro k s' zn1
   obtain⟨i,ρ',rfl,hi',a',st',keep,hne',F'⟩:=zn1
   refine bA (It.own _ _ st') λoI eI slI nsI=> ?_
   by_cases hlt:i<items.length
   ·refine Wk.item i s' _ _ hlt st' λv h₁ tk1 hP st₁ k₁=> ?_
    refine ay (It.vals i v hP) λpv hpv rpv=> ?_
    have ext1:eW s₁.heap.objs.size s'.heap h₁:=gI k₁
    refine bA (It.own _ _ st₁) λoI1 eI1 slI1 nsI1=> ?_
    have at3:a7 K W (Xo X s₁.heap.objs.size) C sf sc {s' with heap:=h₁,toks:=tk1} ρ':=by
     refine⟨a'.M.chg B.inv sI ext1 (.inr nsI) B.tabs,⟨.inl B.XC,?_⟩,a'.kinds,λb hb=> ?_,λb o' k=>ext1 b o' (kI b o' k) (a'.kept b o' k)⟩
     ·refine dN a'.loc λø m hm hv' => ?_
      refine⟨m,hm.at' λo' e=>ext1 C o' hCI e,λy q e=> ?_⟩
      refine ay (hv' y q e) λw e1 e2=> ?_
      exact⟨w,e1,e2.mono (λb o' nx e=>ext1 b o' (λq=>nx (.inr q)) e) λø ø ø nx=>nx⟩
     ·by_cases q:b=s₁.heap.objs.size
      ·exact⟨oI1,q▸eI1⟩
      ·refine xE (a'.lives b hb) λo' e=> ?_
       exact⟨o',ext1 b o' q e⟩
    have keep1:∀b o',s₁.heap.get? b=some o'->¬X b->h₁.get? b=some o':=λb o' e nx=>ext1 b o' (λq=>by rw[q,nI]at e;exact am e) (keep b o' e nx)
    have rep1:Rep W (Xo X s₁.heap.objs.size) h₁ v pv:=rpv.mono (λb o' nx e=>keep1 b o' e nx) λb o' e nx q=>by
     refine cr (q) (λq=> ?_) (λq=> ?_)
     ·exact nx q
     ·rw[q,nI]at e;exact am e
    have hdrop:items.drop i=pv::items.drop (i+1):=by
     rw[wm hlt]
     rw[fV hlt]at hpv
     obtain rfl:=aq hpv;rfl
    rw[hdrop]at hne' F'
    unfold db at hne' F'
    refine ko (jc B₂ at3 hx rep1 λs₄ at4 k₄=> ?_)
    have keep₄:∀b' o',s₁.heap.get? b' =some o'->¬X b'->s₄.heap.get? b' =some o':=λb' o' e nx=>k₄ b' o' (λq=>nx (q▸B.XC)) (keep1 b' o' e nx)
    have st₄:St (i+1) s₄.heap:=Wk.frame _ _ _ st₁ λb' hb' o' e=>k₄ b' o' (λz=>by
     rcases It.fps b' hb' with q|⟨o'',q,nx,sl⟩
     ·exact hCI (z▸q)
     ·exact nx (z▸B.XC)) e
    refine bA (It.own _ _ st₄) λoI₄ eI₄ slI4 ø=> ?_
    let K':Addr->Obj->Prop:=λb' o' =>K b' o' \/(s₄.heap.get? b' =some o'/\ b'≠C/\ (¬(X b' \/b' =s₁.heap.objs.size) \/dn o'))
    have B₃:Blk K' g W (Xo X s₁.heap.objs.size) C A l sf sc env:=⟨B₂.O,B₂.inv,B₂.frames,B₂.guards,B₂.handled,B₂.below,B₂.xtabs,B₂.xbase,B₂.new,B₂.XC,(λb' o' k=>by
     rcases k with k|⟨e,n1,n2⟩
     ·exact B₂.kp b' o' k
     ·exact⟨n2,n1⟩),B₂.envk,B₂.locals,B₂.top,B₂.frm⟩
    have at5:a7 K' W (Xo X s₁.heap.objs.size) C sf sc s₄ (aQ x pv ρ'):=⟨at4.M,at4.loc,at4.kinds,at4.lives,(λb' o' k=>by
     rcases k with k|⟨e,_,_⟩
     ·exact at4.kept b' o' k
     ·exact e)⟩
    have new:∀b' o',s₁.heap.get? b' =some o'->b'≠s₁.heap.objs.size:=λb' o' e q=>by rw[q,nI]at e;exact am e
    have back:∀{s₅:ah} {ρ5:ak},a7 K' W (Xo X s₁.heap.objs.size) C sf sc s₅ ρ5->a7 K W (Xo X s₁.heap.objs.size) C sf sc s₅ ρ5/\ St (i+1) s₅.heap/\ (∀b' o',s₁.heap.get? b' =some o'->¬X b'->s₅.heap.get? b' =some o'):=λ{s₅ ρ5} a₅=>by
     have kk:∀b' o',s₁.heap.get? b' =some o'->¬X b'->s₅.heap.get? b' =some o':=λb' o' e nx=>a₅.kept b' o' (.inr ⟨keep₄ b' o' e nx,λq=>nx (q▸B.XC), .inl λq=>q.elim nx (new b' o' e)⟩)
     refine⟨⟨a₅.M,a₅.loc,a₅.kinds,a₅.lives,λb' o' k=>a₅.kept b' o' (.inl k)⟩,Wk.frame _ _ _ st₄ λb' hb' o' e=> ?_,kk⟩
     rcases It.fps b' hb' with q|⟨o'',q,nx,sl⟩
     ·subst q
      rw[eI₄]at e;obtain rfl:=aq e
      exact a₅.kept _ _ (.inr ⟨eI₄,cF hCI, .inr slI4⟩)
     ·have e2:=keep₄ b' o'' q nx
      rw[e]at e2;obtain rfl:=aq e2
      exact kk b' _ q nx
    refine kR hX B₃ hd hu b (aQ x pv ρ') s₄ at5 (λq=>hne' (by rw[q])) _ _ ⟨?_,?_,?_,?_,?_,?_⟩
    ·intro ρ5 s₅ e a₅
     rw[e]at hne' F'
     refine bM (back a₅) λx1 x2 x3=> ?_
     exact⟨items.length+1-(i+1),o7 ‹_›,i+1,ρ5,rfl,hlt,x1,x2,x3,hne',F'⟩
    ·intro ρ5 s₅ e
     rw[e]at hne';exact absurd rfl hne'
    ·intro v p s₅ e m r'
     rw[e]at F'
     exact F'.ret v p s₅ rfl (m.narrow sI) r'.narrow
    ·intro e c ρ5 s₅ q f
     rw[q]at F'
     exact G8 B hl hf (f.narrow sI) λs₆ h₆=>G' hf h₆ λs₇ h₇=>F'.held e c s₇ rfl h₇
    ·intro e c ρ5 s₅ h' tk x t q
     rw[q]at hne';exact absurd rfl hne'
    ·intro e c s₅ q
     rw[q]at hne';exact absurd rfl hne'
   ·have:i=items.length:=mX ‹_› ‹_›
    subst this
    refine Wk.done s' _ _ st' λh₁ tk1 k₁=> ?_
    have ext1:eW s₁.heap.objs.size s'.heap h₁:=gI k₁
    rw[List.drop_length]at F'
    refine dW (F'.next ρ' {s' with heap:=h₁,toks:=tk1} rfl ?_)
    refine⟨(a'.M.chg (tk:=tk1) B.inv sI ext1 (.inr nsI) B.tabs).narrow sI,⟨B.XC,?_⟩,a'.kinds,λb hb=> ?_,λb o' k=>ext1 b o' (kI b o' k) (a'.kept b o' k)⟩
    ·refine dN a'.loc λø m hm hv' => ?_
     refine⟨m,hm.at' λo' e=>ext1 C o' hCI e,λy q e=> ?_⟩
     refine ay (hv' y q e) λw e1 e2=> ?_
     exact⟨w,e1,e2.mono (λb o' nx e=>ext1 b o' (λq=>nx (.inr q)) e) λb o' e nx q=>nx (.inl q)⟩
    ·refine xE (a'.lives b (.inl hb)) λo' e=> ?_
     by_cases q:b=s₁.heap.objs.size
     ·refine xE (at₁.lives b hb) λo'' e'' => ?_
      rw[q,nI]at e'';cases e''
     ·exact⟨o',ext1 b o' q e⟩
end
end
section
theorem Hb{x y:Str}{px py:ax}{env:av}(hkx:env.kindOf x=some .local)(hky:env.kindOf y=some .local)(hline:(px.line==py.line)=true)(f:ai->Option Str)
   (hf1:∀id pos,f (.Name id pos)=if env.kindOf id==some .local&&pos.line==px.line then some id else none):[jx x px,jx y py].filterMap f=[x,y]:=by
 have c1:(env.kindOf x==some NameKind.local&&px.line==px.line)=true:=by
  rw[hkx];simp
 have c2:(env.kindOf y==some NameKind.local&&py.line==px.line)=true:=by rw[hky,cN hline];simp
 rw[we,hf1,if_pos c1,we,hf1,if_pos c2];rfl
theorem Hc{x y:Str}{px py tp tp':ax}{k k':Nat}{ea eb:ai}{env:av}(hs:env.scope.kind= .function)(hkx:env.kindOf x=some .local)(hky:env.kindOf y=some .local)(hne:x≠y)(hline:(px.line==py.line)=true)
  (hA:(∃a b c d e f,ea= .Attribute a b c/\ eb= .Attribute d e f) \/(∃a b c d e f,ea= .Subscript a b c/\ eb= .Subscript d e f)) (h2:[ea,eb].all (foldedForSure 8)=false) (h3:[ea,eb].all (constantsAlone 8)=false):
  swappedStores [.Tuple [.Name x px, .Name y py] k tp] (.Tuple [ea,eb] k' tp') env=pure (some [x,y]):=by
 have hb:env.blockKind= .function:=by
  unfold av.blockKind;rw[hs];rfl
 have ed:[x,y].eraseDups.length=2:=by
  have hyx:(y==x)=false:=gv (cF hne)
  simp[List.eraseDups_cons,hyx]
 rcases hA with ⟨a,b,c,d,e,f,rfl,rfl⟩|⟨a,b,c,d,e,f,rfl,rfl⟩<;>
 ·unfold swappedStores
  dsimp only
  rw[hb]
  rw[if_neg (by exact kq)]
  rw[if_neg (by exact kq)]
  rw[(Hb hkx hky hline) _ (λø ø=>rfl)]
  rw[if_neg (by rw[ed];exact kq)]
  rw[if_neg (by rw[h2];exact kq)]
  rw[if_neg (by rw[h3];exact kq)]
theorem Hd{a b:ai}(h:s5 a b=true):(∃a' b' c d e f,a= .Attribute a' b' c/\ b= .Attribute d e f) \/(∃a' b' c d e f,a= .Subscript a' b' c/\ b= .Subscript d e f):=by
 rcases gZ _ _▸h with h|h
 ·refine xA (ew h) λh1 h2=> ?_
  obtain⟨x,y,z,rfl⟩:∃x y z,a= .Attribute x y z:=vT a (cN h1) λx y z=>⟨x,y,z,rfl⟩
  obtain⟨u,v,w,rfl⟩:∃x y z,b= .Attribute x y z:=vT b (cN h2) λx y z=>⟨x,y,z,rfl⟩
  exact .inl ⟨_,_,_,_,_,_,rfl,rfl⟩
 ·refine xA (ew h) λh1 h2=> ?_
  obtain⟨x,y,z,rfl⟩:∃x y z,a= .Subscript x y z:=PE a (cN h1) λx y z=>⟨x,y,z,rfl⟩
  obtain⟨u,v,w,rfl⟩:∃x y z,b= .Subscript x y z:=PE b (cN h2) λx y z=>⟨x,y,z,rfl⟩
  exact .inr ⟨_,_,_,_,_,_,rfl,rfl⟩
theorem He{es:List ai}(h:s6 es=true):∃ea eb,es=[ea,eb]/\ s5 ea eb=true/\ [ea,eb].all (foldedForSure 8)=false/\ [ea,eb].all (constantsAlone 8)=false:=by
 unfold s6 at h
 cases h2:two es with
 |none=>rw[h2]at h;exact bZ h
 |some q=>
  rw[h2]at h
  refine xA (ew h) λh h4=> ?_
  refine xA (ew h) λh h3=> ?_
  rw[lz]at h3 h4
  exact⟨q.1,q.2,pc h2,h,h3,h4⟩
structure kS(W:Wd):Prop where
 rais:∀(A:aA) (env:av) (s:ah) (f:Str) (c:XC) (np cpos pos:ax) (e:ai) (Q:cO->ah->Prop) (E:ae->ah->Prop),jI f=some c->A.handled=none->env.scope.kind= .function->env.kindOf f=some .globalImplicit->env.globals=mainGlobals->env.builtins=builtinsNs->bv [e]=true->Inv W s->
  wpAny W.M A (eval e env) (λv s₁=>Inv W s₁/\ ∃x t,v= .str x t/\ ∀h' tk ev,wu s₁.heap h' ev (W.excA c) [.str x t]->E (.ref ev) {s₁ with heap:=h',toks:=tk}) E s->
  wpAny W.M A (exec (.Raise (some (.Call (.Name f np) [e] [] cpos)) none pos) env) Q E s
theorem Hf{a:PV}{x:List PV}(h:kF a=some x):a= .tuple x:=by
 cases a with
 |tuple=>obtain rfl:=aq h;rfl
 |_=>exact am h
theorem Hg{x y:Str}{ρ:ak}{v:PV}(h:lR x y ρ v≠ .stuck):∃a b,v= .tuple [a,b]:=by
 unfold lR at h
 cases q:(kF v).bind two with
 |none=>rw[q]at h;exact absurd rfl h
 |some z=>
  refine bl q λxs h1 h2=> ?_
  exact⟨z.1,z.2,by rw[Hf h1,pc h2]⟩
section
variable{K:Addr->Obj->Prop}{g:Bool}{W:Wd}{X X1:Addr->Prop}{C:Addr}{A:aA}{l:List av}{sf s:ah}{sc:Scope}{env:av}{ρ:ak}{n:Nat}{E₀:Ev}{ex:Scope->aC->ak->aB}
theorem Hi(B:Blk K g W X C A l sf sc env)(a:a7 K W X C sf sc s ρ){x:Str}{k:Nat}{q p:ax}{Q:cO->ah->Prop}{E:ae->ah->Prop}(F:cR K W X C l sf sc (.next ρ) Q E):wpAny W.M A (exec (.Expr (.Constant (.str x) k q) p) env) Q E s:=
 wv (hi:=yQ B) (kn (F.next ρ _ rfl (a.after' (After.tok a.M.inv) B.sol)))
theorem Hj(hE:aN g W n E₀)(B:Blk K g W X C A l sf sc env)(a:a7 K W X C sf sc s ρ){f:ai}{as:List ai}{ks:List Keyword}{q p:ax}
  (hne:(aW (E₀.ev sc (.Call f as ks q) ρ) ρ λv=>s7 v ρ)≠ .stuck) (hd:A.depth+n<=900) (hu:A.units+10*n<=9000) {Q:cO->ah->Prop} {E:ae->ah->Prop}
  (F:cR K W X C l sf sc (aW (E₀.ev sc (.Call f as ks q) ρ) ρ λv=>s7 v ρ) Q E):wpAny W.M A (exec (.Expr (.Call f as ks q) p) env) Q E s:=by
 refine wv (hi:=yQ B) ((hE.1 sc _ X A l s env ρ (B.here a)).sstep a B.sol hne hd hu F λv pv s₁ ø af a₁ r ne1 F1=> ?_)
 cases pv with
 |none=>obtain rfl:=r.noneI;exact F1.next ρ s₁ rfl a₁
 |_=>exact absurd rfl ne1
theorem Hk(X0:kS W)(hE:aN g W n E₀)(B:Blk K g W X C A l sf sc env)(a:a7 K W X C sf sc s ρ){f:Str}{e:ai}{np cpos pos:ax}(hg:cj sc f=true)(hs:bv [e]=true)
  (hne:(aW (ca (E₀.ev sc e ρ)) ρ λv=>tu f v ρ)≠ .stuck) (hd:A.depth+n<=900) (hu:A.units+10*n<=9000) {Q:cO->ah->Prop} {E:ae->ah->Prop}
  (F:cR K W X C l sf sc (aW (ca (E₀.ev sc e ρ)) ρ λv=>tu f v ρ) Q E):wpAny W.M A (exec (.Raise (some (.Call (.Name f np) [e] [] cpos)) none pos) env) Q E s:=by
 cases hv:E₀.ev sc e ρ with
 |exc c=>rw[hv]at hne;exact absurd rfl hne
 |stuck=>rw[hv]at hne;exact absurd rfl hne
 |ok v=>
  rw[hv]at hne F
  cases v with
  |str z=>
   have hne:((match jI f with|some c=> .rais c ρ|none=> .stuck):aB)≠ .stuck:=hne
   have F9:cR K W X C l sf sc (match jI f with|some c=> .rais c ρ|none=> .stuck) Q E:=F
   cases hx:jI f with
   |none=>rw[hx]at hne;exact absurd rfl hne
   |some c=>
    rw[hx]at F9
    have H:=B.here a
    refine X0.rais A env s f c np cpos pos e Q E hx B.handled B.envk.scope (ja H hg) B.envk.globals B.envk.builtins hs a.M.inv (hE.1 sc e X A l s env ρ H (by rw[hv];exact λq=>nomatch q) hd hu _ _ ⟨λva q s₁ e1 a₁ r₁=> ?_,λe' c s' e1 ø=>by rw[hv]at e1;cases e1⟩)
    rw[hv]at e1
    obtain rfl:=dk e1
    cases r₁ with
    |str x t=>exact⟨a₁.inv,x,t,rfl,λh' tk ev hm=>F9.rais ev c ρ s₁ h' tk x t rfl (a.after' a₁ B.sol) hm⟩
  |_=>exact absurd rfl hne
theorem a7.congr{ρ':ak}(a:a7 K W X C sf sc s ρ)(h:∀y,ρ'.lookup y=ρ.lookup y):a7 K W X C sf sc s ρ':=by
 refine dN a.loc λhX m hn hv=> ?_
 exact⟨a.M,⟨hX,m,hn,λy p e=>hv y p (by rw[<-h];exact e)⟩,λy p e=>a.kinds y p (by rw[<-h];exact e),a.lives,a.kept⟩
theorem Hl{h:Heap}{v:ae}{a b:PV}(r:Rep W X h v (.tuple [a,b])):∃t va vb,v= .ref t/\ IsTup h t #[va,vb]/\ Rep W X h va a/\ Rep W X h vb b:=by
 refine r.tupE λt o vs k zq e1 c1 d1 n1 r1=> ?_;subst zq
 ·refine r1.consE λva l2 hl ra r2=> ?_
  ·refine r2.consE λvb l3 zq rb r3=> ?_;subst zq
   ·obtain rfl:=r3.nilI
    have:vs= #[va,vb]:=by
     apply Array.toList_inj.mp
     rw[hl]
    subst this
    exact⟨t,va,vb,rfl,⟨_,e1,c1,_,d1⟩,ra,rb⟩
theorem Hm(hE:aN g W n E₀)(B:Blk K g W X C A l sf sc env)(a:a7 K W X C sf sc s ρ){x y:Str}{px py tp p:ax}{k:Nat}{v:ai}(hx:bR sc x=true)(hy:bR sc y=true)(hxy:(x !=y)=true)(hline:(px.line==py.line)=true)(hv:pp v=true)
  (hne:(aW (E₀.ev sc v ρ) ρ (lR x y ρ))≠ .stuck) (hd:A.depth+n<=900) (hu:A.units+10*n<=9000) {Q:cO->ah->Prop} {E:ae->ah->Prop}
  (F:cR K W X C l sf sc (aW (E₀.ev sc v ρ) ρ (lR x y ρ)) Q E):wpAny W.M A (exec (.Assign [.Tuple [.Name x px, .Name y py] k tp] v p) env) Q E s:=by
 have hne':x≠y:=by simpa using hxy
 have hkx:env.kindOf x=some .local:=B.envk.names x .local (cN hx) (by decide) (by decide)
 have hky:env.kindOf y=some .local:=B.envk.names y .local (cN hy) (by decide) (by decide)
 have hs:swapsWithSole [.Tuple [.Name x px, .Name y py] k tp] v p.line env=pure false:=by
  cases v<;>first|rfl|exact bZ hv
 have fin:∀(va:ae) (pv:PV) (s₁:ah),lR x y ρ pv≠ .stuck->Rep W X s₁.heap va pv->∃t vx vy a b,va= .ref t/\ pv= .tuple [a,b]/\ IsTup s₁.heap t #[vx,vy]/\ Rep W X s₁.heap vx a/\ Rep W X s₁.heap vy b:=λva pv s₁ ne r=>by
  refine dB (Hg ne) λa b zq2=> ?_;subst zq2
  refine wO (Hl r) λt va vb e h1 h2 h3=> ?_
  exact⟨t,va,vb,a,b,e,rfl,h1,h2,h3⟩
 have up:∀(s₁:ah) (h':Heap),eW s₁.heap.objs.size s₁.heap h'->∀b o,s₁.heap.get? b=some o->h'.get? b=some o:=λs₁ h' ext b o e=>ext b o (eT (eK e)) e
 cases hw:kB v with
 |some es=>
   refine dB (sE hw) λk' tp' zq3=> ?_;subst zq3
   refine mT (He (es:=es) hv) λea eb zq2 sh h2 h3=> ?_;subst zq2
   ·have hsw:swappedStores [.Tuple [.Name x px, .Name y py] k tp] (.Tuple [ea,eb] k' tp') env=pure (some [x,y]):=Hc B.envk.scope hkx hky hne' hline (Hd sh) h2 h3
    refine Assign_Tuple_swapped (hs:=hs) (hw:=hsw) ((hE.1 sc _ X A l s env ρ (B.here a)).sstep a B.sol hne hd hu F λva pv s₁ ø af a₁ r ne1 F1=> ?_)
    refine wP (fin va pv s₁ ne1 r) λt vx vy a' b' zq5 zq6 hT ra rb=> ?_;subst zq5 zq6
    refine PyProof.Rows.unpackItems_tuple (items:= #[vx,vy]) B.handled hT λh' ext=> ?_
    have af2:After W X s₁ {s₁ with heap:=h'}:=After.of_keeps (tk:=s₁.toks) a₁.M.inv (up s₁ h' ext)
    show wpAny _ _ (do holding [vx] (bindName env y vy);(do holding [] (bindName env x vx);pure ())) _ _ _
    refine aJ (iV (bindName_ (jc B (a₁.after' af2 B.sol) hy (af2.rep rb) λs₃ a₃ k₃=> ?_)))
    refine aJ (iV (bindName_ (jc B a₃ hx ((af2.rep ra).mono (λb o nx e=>k₃ b o (λq=>nx (q▸B.XC)) e) λø ø ø nx=>nx) λs₄ a₄ ø=> ?_)))
    refine bk (F1.next _ s₄ rfl (a₄.congr λz=> ?_))
    rw[gd,gd,gd,gd]
    by_cases h1:z=y
    ·rw[if_pos h1,if_neg (by rw[h1];exact cF hne'),if_pos h1]
    ·rw[if_neg h1,if_neg h1]
 |none=>
  have hsw:swappedStores [.Tuple [.Name x px, .Name y py] k tp] v env=pure none:=by
   cases v<;>first|rfl|exact lK hw
  refine Assign_Tuple (hs:=hs) (hw:=hsw) ((hE.1 sc _ X A l s env ρ (B.here a)).sstep a B.sol hne hd hu F λva pv s₁ ø af a₁ r ne1 F1=> ?_)
  refine wP (fin va pv s₁ ne1 r) λt vx vy a' b' zq5 zq6 hT ra rb=> ?_;subst zq5 zq6
  refine PyProof.Rows.assign_Tuple_tuple (items:= #[vx,vy]) B.handled hT rfl rfl λh' ext=> ?_
  have af2:After W X s₁ {s₁ with heap:=h'}:=After.of_keeps (tk:=s₁.toks) a₁.M.inv (up s₁ h' ext)
  show wpAny _ _ (do holding [vy] (assign (.Name x px) env vx);(do holding [] (assign (.Name y py) env vy);pure ())) _ _ _
  refine aJ (iV (ko (jc B (a₁.after' af2 B.sol) hx (af2.rep ra) λs₃ a₃ k₃=> ?_)))
  refine aJ (iV (ko (jc B a₃ hy ((af2.rep rb).mono (λb o nx e=>k₃ b o (λq=>nx (q▸B.XC)) e) λø ø ø nx=>nx) λs₄ a₄ ø=> ?_)))
  exact bk (F1.next _ s₄ rfl a₄)
end
end
section
noncomputable def jP:aB->Res PV
 | .ret v=> .ok v
 | .next _=> .ok .none
 | .exc c _=> .exc c
 | .rais c _=> .exc c
 | .held c=> .exc c
 |_=> .stuck
section
variable{K:Addr->Obj->Prop}{g:Bool}{W:Wd}{X:Addr->Prop}{C:Addr}{A:aA}{l outer:List av}{sf s:ah}{sc:Scope}{env:av}{ρ:ak}{n:Nat}
theorem tY{Bh h':Heap}{e:Addr}{c:XC}{a0:ae}(B:Blk K g W (λb=>X b \/b=C) C A (env::outer) sf sc env)(M:be W (λb=>X b \/b=C) C sf s)(b:Base W (λb=>X b \/b=C) (env::outer) sf Bh)
  (fl:vU Bh outer e (W.excA c) a0 h') (ns:∀L m,s.heap.Ns L m->h'.Ns L m):f8 W X outer e c sf {s with heap:=h'}:=by
 have neC:∀b o,sf.heap.get? b=some o->b≠C:=λb o e q=>by rw[q,B.new]at e;exact am e
 refine⟨⟨Bh,a0,λb' o nx e=>b.keep b' o (λq=>q.elim nx (neC b' o e)) e,λb' o e=> ?_,b.solid,b.stays,b.tabs,fl⟩,λL m e=>ns L m (M.ns L m (λq=> ?_) e),⟨M.inv.gens,M.gens⟩,M.os,M.drawn⟩
 ·refine cr (b.live b' o e) (λq=> ?_) (λq=> ?_)
  ·exact .inl q
  ·right
   refine ay (oM.mp q) λev he hf=> ?_
   refine cr (bS.mp he) (λz=> ?_) (λz=> ?_)
   ·subst z
    rw[B.frm]at hf
    obtain rfl:=aq hf
    exact absurd rfl (neC _ o e)
   ·exact oM.mpr ⟨ev,z,hf⟩
 ·refine dj e λo ø ø e' ø=> ?_
  exact neC L o e' q
theorem Hn{e:Addr}{c:XC}(B:Blk K g W (λb=>X b \/b=C) C A (env::outer) sf sc env)(f:eO K W (λb=>X b \/b=C) (env::outer) C sf sc e c ρ s){Q:Unit->ah->Prop}{E:ae->ah->Prop}
  (h:∀s',f8 W X outer e c sf s'->Q () s'):wpAny W.M A (leaving env (.ref e)) Q E s:=by
 obtain⟨M,k,Bh,a0,m,b,fl,hn,hv,lv⟩:=f
 exact wpAny_leaves_onW B.frames B.frm fl λh' x1 x2=>h _ (tY B M b x1 λL m q=>x2.ns q)
theorem Ho{e:Addr}{c:XC}(B:Blk K g W (λb=>X b \/b=C) C A (env::outer) sf sc env)(f:nK W (λb=>X b \/b=C) (env::outer) C sf e c s){Q:Unit->ah->Prop}{E:ae->ah->Prop}
  (h:∀s',f8 W X outer e c sf s'->Q () s'):wpAny W.M A (leaving env (.ref e)) Q E s:=by
 obtain⟨M,Bh,a0,b,hh⟩:=f
 unfold leaving
 refine aJ (wpAny_noteFrame_againW B.frm hh.2.2.2 ?_)
 refine wpAny_landsW hh λh' hfl up=> ?_
 refine o5 hfl λk1 k2 zn1 k4=> ?_
 refine bM zn1 λø ø k3=> ?_
 exact h _ (tY B M b ⟨k1,k2,k3,k4⟩ λL m q=>up.ns q)
theorem Hp{e:Addr}{c:XC}{h₁:Heap}{tk:Nat}{v:ae}(B:Blk K g W (λb=>X b \/b=C) C A (env::outer) sf sc env)(a:a7 K W (λb=>X b \/b=C) C sf sc s ρ)(hm:wu s.heap h₁ e (W.excA c) [v]){Q:Unit->ah->Prop}{E:ae->ah->Prop}
  (h:∀s',f8 W X outer e c sf s'->Q () s'):wpAny W.M A (leaving env (.ref e)) Q E {s with heap:=h₁,toks:=tk}:=by
 have R:=B.ready a
 have hin:∀e∈(env::outer),∀b,e.frame=some b->b∈(env::outer).filterMap (·.frame):=λe he b hb=>oM.mpr ⟨e,he,hb⟩
 have isf:∀b,b∈(env::outer).filterMap (·.frame)->(∃m,s.heap.Ns b m)/\ W.base.get? b=none:=λb hb=>by
  refine ay (oM.mp hb) λev he hf=> ?_
  refine g' (R.below ev he) λø L m e1 e2 e3 ø=> ?_
  rw[hf]at e1;obtain rfl:=aq e1
  exact⟨⟨m,e3⟩,e2⟩
 have keepB:∀b o,s.heap.get? b=some o->(∀es ep,o.data≠ .dict es ep)->(hideAll s.heap ((env::outer).filterMap (·.frame))).get? b=some o:=λb o e nd=>ww _ e λhb=>by
  refine xA (isf b hb) λzn2 ø=> ?_
  refine D0 zn2 λm o' es ep e' d ø=> ?_
  rw[e]at e';cases e'
  exact nd es ep d
 have base:Base W (λb=>X b \/b=C) (env::outer) sf (hideAll s.heap ((env::outer).filterMap (·.frame))):=by
  refine⟨λb o nx e=> ?_,λb o e=> ?_,λb o t e=>keepB b o (a.M.solid b o t e) t.2,λb o e=> ?_,?_⟩
  ·refine ww _ (a.M.keep b o nx e) λhb=> ?_
   refine ay (oM.mp hb) λev he hf=> ?_
   refine g' (R.below ev he) λø L m e1 ø ø e4=> ?_
   rw[hf]at e1;obtain rfl:=aq e1
   exact nx e4
  ·refine xE (a.M.live b o e) λo' e' => ?_
   by_cases hb:b∈(env::outer).filterMap (·.frame)
   ·exact .inr hb
   ·exact .inl ⟨o',ww _ e' hb⟩
  ·exact ww _ (a.M.inv.stays b o e) λhb=>by
    have:=(isf b hb).2;rw[e]at this;exact lK this
  ·intro q hq
   refine ay (a.M.inv.tabs q hq) λps h1 h2=> ?_
   refine⟨ps,?_,?_⟩
   ·refine lH h1 λo vs file tf flags tg inF text tt op x1 r1 r2 r3 r4 r5 r6 x2 x3 r=> ?_
    exact⟨o,vs,file,tf,flags,tg,inF,text,tt,op,keepB _ _ x1 (by rw[r1];intro ø ø q;cases q),r1,r2,r3,r4,r5,r6,keepB _ _ x2 (by rw[x3];intro ø ø q;cases q),x3,r⟩
   ·refine xA h2 λzn3 t=> ?_
    refine mT zn3 λo vs x1 x2 x3 r=> ?_
    exact⟨⟨o,vs,keepB _ _ x1 (by rw[x3];intro ø ø q;cases q),x2,x3,r⟩,keepB _ _ t (by intro ø ø q;cases q)⟩
 have fr:∀ls:List av,(∀e∈ls,e∈(env::outer))->s.heap.FunFrames (hideAll s.heap ((env::outer).filterMap (·.frame))) ls:=λls=>by
  induction ls with
  |nil=>exact λø=>trivial
  |cons ev r ih=>
   intro hsub
   refine g' (R.below ev (hsub ev (fR ..))) λk L m e1 e2 e3 ø=> ?_
   refine gH e3 λo es ep e' d ø=> ?_
   refine⟨k,⟨L,o,e1,hideAll_none _ (hin ev (hsub ev (fR ..)) L e1),e',?_⟩,ih λe he=>hsub e (dS _ he)⟩
   first
    |exact⟨es,ep,d⟩
    |(rw[d];intro vs q;cases q)
    |exact d
 refine wpAny_leaves_madeW (base:=hideAll s.heap ((env::outer).filterMap (·.frame))) (h:=s.heap) B.frames B.frm (λb o q=>of_hideAll _ q) (fr _ λø h=>h) hm λh' t x1 x2 x3 x4=>h _ ?_
 have M₁:be W (λb=>X b \/b=C) C sf {s with heap:=h₁,toks:=tk}:=a.M.after (After.of_keeps a.M.inv hm.keeps)
 exact tY B M₁ base x1 λL m q=>x4.ns q
end
end
section
structure Binds(s:ah)(fd:dA)(args:Args)(binds:List (Str×ae)):Prop where
 of:BindsTo s fd args binds
theorem Binds.mk_eq{s:ah}{fd:dA}{args:Args}{binds:List (Str×ae)}(h:bindArgs fd args=pure binds):Binds s fd args binds:=⟨BindsTo.of_eq h⟩
structure bw(g:Bool)(W:Wd)(fa:Addr)(fd:dA)(body:List aC)(params:List Str):Prop where
 at_:∃o,W.base.get? fa=some o/\ o.data= .func fd
 body:fd.body= .stmts body
 globals:fd.globals=mainGlobals
 builtins:fd.builtins=builtinsNs
 code:g=true->∃c P,fd.code= .ref c/\ (c,P)∈W.tabs
 rec_:W.base.CodeRec fd.code fd.qualname
 kind:fd.scope.kind= .function
 co:fd.scope.isCoroutine=false
 gen:fd.scope.isGenerator=false
 nocell:∀y∈fd.scope.names,y.2≠ .cell
 nodup:params.Nodup
 local_:∀x∈params,fd.scope.names.lookup x=some .local
 bind:∀(s:ah) (vs:List ae),W.base.StaysIn s.heap->vs.length=params.length->Binds s fd ⟨vs,[]⟩ (params.zip vs)
theorem Hq{W:Wd}{X:Addr->Prop}{h:Heap}{params:List Str}{vs:List ae}{ps:List PV}(nd:params.Nodup)(r:a8 W X h vs ps)(x:Str)(p:PV)(e:(params.zip ps).lookup x=some p):∃v,(params.zip vs).lookup x=some v/\ Rep W X h v p:=by
 induction params generalizing vs ps with
 |nil=>exact am e
 |cons a params ih=>
  cases ps with
  |nil=>exact am e
  |cons q ps=>
   refine r.consE λv ws e1 rv rs=> ?_
   subst e1
   rw[mP,ch]at e ⊢
   cases k:x==a with
   |true=>rw[k]at e;obtain rfl:=aq e;exact⟨_,rfl,rv⟩
   |false=>rw[k]at e;exact ih (DF.mp nd).2 rs e
theorem yT{α:Type}{x:Str}:∀{a b:List (Str×α)},(a++b).lookup x=(a.lookup x).or (b.lookup x)
 |[],b=>by simp
 |(y,v)::a,b=>by
  rw[mK,ch,ch]
  cases x==y with
  |true=>rfl
  |false=>exact yT
theorem yU{α:Type}{x:Str}:∀{a:List (Str×α)},x∉a.map (·.1)->a.lookup x=none
 |[],_=>rfl
 |(y,v)::a,h=>by
  rw[fm,bS,not_or]at h
  have:(x==y)=false:=gv h.1
  rw[ch,this]
  exact yU h.2
theorem tZ{α:Type}{x:Str}:∀{a:List (Str×α)},(a.map (·.1)).Nodup->a.reverse.lookup x=a.lookup x
 |[],_=>rfl
 |(y,v)::a,nd=>by
  rw[fm,DF]at nd
  rw[List.reverse_cons,yT,tZ nd.2,ch,ch]
  cases q:x==y with
  |true=>
   rw[cN q,yU nd.1];rfl
  |false=>simp
theorem t8{α:Type}:∀{a:List Str} {b:List α},a.length=b.length->(a.zip b).map (·.1)=a
 |[],[],_=>rfl
 |x::a,y::b,h=>by rw[mP,fm,t8 (by simpa using h)]
theorem yV{x:Str}{p:PV}:∀{a:List Str} {b:List PV},(a.zip b).lookup x=some p->x∈a
 |[],_,h=>by simp at h
 |_::_,[],h=>by simp at h
 |y::a,q::b,h=>by
  rw[mP,ch]at h
  cases z:x==y with
  |true=>rw[cN z];exact fR ..
  |false=>rw[z]at h;exact dS _ (yV h)
section
variable{g:Bool}{W:Wd}{n:Nat}{ex:Scope->aC->ak->aB}
noncomputable def ge(W:Wd)(n:Nat)(fv:ae)(args:List PV)(r:Res PV):Prop:=
 ∀(A:aA) (l:List av) (s:ah) (X:Addr->Prop) (vs:List ae),Ready W X A l s->a8 W X s.heap vs args->r≠ .stuck->A.depth+n<=900->A.units+10*n<=9000->∀Q E,cQ W X l (RV W X) s r Q E->
  codeAny W.M A (.call fv ⟨vs,[]⟩) (λr s' =>match r with| .ok (.ret v)=>Q v s'| .ok _=>False| .error e=>E e s') s
theorem ge.k{fv:ae}{args:List PV}{r:Res PV}(h:ge W n fv args r):gc W n fv args r:=λA l s X vs R ra hne hd hu Q E F=>jz (h A l s X vs R ra hne hd hu Q E F)
theorem t9(O:aZ W){fa:Addr}{fd:dA}{body:List aC}{params:List Str}(D:bw g W fa fd body params)(hX:fD g W n ex)(args:List PV)(hlen:args.length=params.length):
  ge W (n+2) (.ref fa) args (jP (aw (ex fd.scope) body (params.zip args))):=λA l s X vs R ra hne hd hu Q E F=>by
 refine ay D.at_ λo ho hod=> ?_
 have hrl:(900:Nat)<recursionLimit:=by decide+kernel
 have hlv:vs.length=params.length:=by rw[ra.length,hlen]
 have hz:(params.zip vs).map (·.1)=params:=t8 hlv.symm
 have I:=R.inv
 refine rS (bU (show A.depth<=900 by exact aj (bf _ _) ‹_›) hrl) (I.stays _ _ ho) hod (I.nolimit O) (D.rec_.keeps I.stays) D.body (D.bind s vs I.stays hlv).of D.nocell (λx hx=>D.local_ x.1 (hz▸lD hx)) (λh₀ hns keep=> ?_) D.co D.gen D.kind
 have nC:s.heap.get? s.heap.objs.size=none:=dU (bP _)
 have B:Blk (λø ø=>False) g W (λb=>X b \/b=s.heap.objs.size) s.heap.objs.size (A.deeper (callEnv fd s.heap.objs.size fa)) (callEnv fd s.heap.objs.size fa::l) s fd.scope (callEnv fd s.heap.objs.size fa):=by
  refine {O:=O,inv:=I,frames:= ?_,guards:=R.guards,handled:=R.handled,below:= ?_,xtabs:=λq hq=> .inl (R.xtabs q hq),xbase:= ?_,new:=nC,XC:= .inr rfl,kp:=λb o k=>k.elim,envk:= ?_,locals:=rfl,top:=⟨l,rfl⟩,frm:=rfl}
  ·show A.frames.map _=_
   rw[R.frames];rfl
  ·intro e he
   rcases bS.mp he with q|q
   ·subst q
    refine⟨by show fd.scope.kind≠_;rw[D.kind];decide,s.heap.objs.size,rfl,?_, .inr rfl, .inl rfl⟩
    cases z:W.base.get? s.heap.objs.size with
    |none=>rfl
    |some o' =>have:=I.stays _ _ z;rw[nC]at this;exact am this
   ·refine g' (R.below e q) λk L m e1 e2 e3 e4=> ?_
    exact⟨k,L,e1,e2, .inl e4, .inr ⟨m,e3⟩⟩
  ·intro b o' e q
   rcases q with q|q
   ·exact R.xbase b o' e q
   ·have:=I.stays _ _ e;rw[q,nC]at this;exact am this
  ·exact⟨D.code,D.kind,λx k e ø ø=>e,D.globals,D.builtins,D.nocell⟩
 have af:After W X s {s with heap:=h₀,toks:=s.toks+(params.zip vs).length}:=After.of_keeps I keep
 have a:a7 (λø ø=>False) W (λb=>X b \/b=s.heap.objs.size) s.heap.objs.size s fd.scope {s with heap:=h₀,toks:=s.toks+(params.zip vs).length} (params.zip args):=by
  refine⟨(af.moves (C:=s.heap.objs.size)).weaken λb o' e nx q=>nx (.inl q),⟨.inr rfl,_,hns,λx p e=> ?_⟩,λx p e=>D.local_ x (yV e),λb hb=> ?_,λb o' k=>k.elim⟩
  ·refine ay (Hq D.nodup ra x p e) λv e1 e2=> ?_
   refine⟨v,?_,e2.mono (λb o' ø e=>keep b o' e) λb o' e nx q=>q.elim nx λq=>by rw[q,nC]at e;cases e⟩
   rw[tZ (by rw[hz];exact D.nodup)];exact e1
  ·rcases hb with q|q
   ·refine xE (R.xlt b q) λo' e=> ?_
    exact⟨o',keep _ _ e⟩
   ·subst q
    refine dj hns λo' ø ø e ø=> ?_
    exact⟨o',e⟩
 have close:∀{s':ah},be W (λb=>X b \/b=s.heap.objs.size) s.heap.objs.size s s'->After W X s s':=λM=>M.close (λb o' e nx q=>q.elim nx λq=>by rw[q,nC]at e;exact am e) nC
 have ne':aw (ex fd.scope) body (params.zip args)≠ .stuck:=λq=>hne (by rw[q];rfl)
 refine kR hX B (by show A.depth+1+n<=900;exact lI ‹_› (by rfl)) (by show A.units+3+10*n<=9000;exact wR ‹_› (by rfl)) body _ _ a ne' _ _ ⟨?_,?_,?_,?_,?_,?_⟩
 ·intro ρ' s' e a'
  rw[e]at F
  exact F.1 .none .none s' rfl (close a'.M) .none
 ·intro ρ' s' e a'
  rw[e]at hne;exact absurd rfl hne
 ·intro v p s' e M r
  rw[e]at F
  exact F.1 v p s' rfl (close M) r.narrow
 ·intro e c ρ' s' q f
  rw[q]at F
  exact Hn B f λs'' fl=>F.2 e c s'' rfl fl
 ·intro e c ρ' s₁ h' tk x t q a' hm
  rw[q]at F
  exact Hp B a' hm λs'' fl=>F.2 e c s'' rfl fl
 ·intro e c s' q f
  rw[q]at F
  exact Ho B f λs'' fl=>F.2 e c s'' rfl fl
theorem Qk(O:aZ W){fa:Addr}{fd:dA}{body:List aC}{params:List Str}(D:bw g W fa fd body params)(hX:fD g W n ex)(args:List PV)(hlen:args.length=params.length):
  gc W (n+2) (.ref fa) args (jP (aw (ex fd.scope) body (params.zip args))):=(t9 O D hX args hlen).k
end
end
section
theorem be.chg0{W:Wd}{X:Addr->Prop}{C:Addr}{s s₁:ah}(m:be W X C s s₁){B:Addr}{h':Heap}{tk:Nat}(I:Inv W s)(hB:s.heap.get? B=none)(ext:eW B s₁.heap h')(hX:∀q∈W.tabs,∃o,s.heap.get? q.2=some o):
  be W X C s {s₁ with heap:=h',toks:=tk}:=by
 have ne:∀b o,s.heap.get? b=some o->b≠B:=λb o e q=>by rw[q,hB]at e;exact am e
 refine⟨⟨λb o e=>ext b o (ne b o (I.stays b o e)) (m.inv.stays b o e),λq hq=> ?_,m.inv.gens⟩,λb o k e=>ext b o (ne b o e) (m.keep b o k e),λL f hL e=> ?_,m.gens,m.os,m.drawn,λb o e=> ?_,λb o t e=>ext b o (ne b o e) (m.solid b o t e)⟩
 ·refine ay (m.inv.tabs q hq) λps h1 h2=> ?_
  have n2:q.2≠B:=by obtain⟨o,e⟩:=hX q hq;exact ne _ _ e
  have n1:q.1≠B:=by
   refine ay (I.tabs q hq) λps' k1 ø=> ?_
   refine rZ k1 λo ø ø ø ø ø ø ø ø ø e ø=> ?_
   exact ne _ _ e
  exact⟨ps,h1.extBut ext n1 n2,h2.extBut ext n1 n2⟩
 ·have e1:=m.ns L f hL e
  have hLB:L≠B:=by
   refine dj e λo ø ø e' ø=> ?_
   exact ne _ _ e'
  exact e1.at' λo e2=>ext L o hLB e2
 ·refine xE (m.live b o e) λo' e' => ?_
  exact⟨o',ext b o' (ne b o e) e'⟩
section
variable{K:Addr->Obj->Prop}{g:Bool}{W:Wd}{X X1:Addr->Prop}{C:Addr}{A:aA}{l:List av}{sf s:ah}{sc:Scope}{env:av}{ρ:ak}{n:Nat}{E₀ E₁:Ev}{ex:Scope->aC->ak->aB}
theorem a7.wide'{I:Addr}{s':ah}(B:Blk K g W X C A l sf sc env)(a:a7 K W X C sf sc s ρ)(af:After W X s s')(hI:s.heap.get? I=none)(hn:∃o,s'.heap.get? I=some o):a7 K W (λb=>X b \/b=I) C sf sc s' ρ:=by
 have a':=a.after' af B.sol
 refine⟨a'.M.weaken λb o e nx q=>nx (.inl q),⟨.inl B.XC,?_⟩,a.kinds,λb hb=> ?_,a'.kept⟩
 ·refine dN a.loc λø m hm hv=> ?_
  refine⟨m,af.ns C m hm,λx p e=> ?_⟩
  refine ay (hv x p e) λv e1 e2=> ?_
  exact⟨v,e1,e2.mono af.keep λb o e nx q=>by
   rcases q with q|q
   ·exact nx q
   ·rw[q,hI]at e;cases e⟩
 ·rcases hb with q|q
  ·exact a'.lives b q
  ·subst q;exact hn
theorem Hr(hE:aN g W n E₀)(hE1:aN false W n E₁)(B:Blk K g W X C A l sf sc env)(a:a7 K W X C sf sc s ρ){elt iter:ai}{x y:Str}{px py p sp:ax}{ifs:List ai}{csc:Scope}(hset:cW iter=true)(hy:bR sc y=true)(hline:(py.line==p.line)=true)(hyc:(csc.names.lookup y).isNone=true)
  (hne:(aW ((ca (E₀.ev sc iter ρ)).bind λv=>(aE (bQ v)).bind λitems=>(cq E₁ csc x elt ifs items).bind λvs=> .ok (.list vs)) ρ λa=> .next (aQ y a ρ))≠ .stuck) (hd:A.depth+n<=900) (hu:A.units+10*n<=9000) {Q:cO->ah->Prop} {E:ae->ah->Prop}
  (F:cR K W X C l sf sc (aW ((ca (E₀.ev sc iter ρ)).bind λv=>(aE (bQ v)).bind λitems=>(cq E₁ csc x elt ifs items).bind λvs=> .ok (.list vs)) ρ λa=> .next (aQ y a ρ)) Q E):
  wpAny W.M A (exec (.Assign [.Name y py] (.ListComp elt [⟨.Name x px,iter,ifs,0⟩] csc p) sp) env) Q E s:=by
 have H:=B.here a
 have hne0:((ca (E₀.ev sc iter ρ)).bind λv=>(aE (bQ v)).bind λitems=>(cq E₁ csc x elt ifs items).bind λvs=>Res.ok (PV.list vs))≠ .stuck:=λq=>hne (by rw[q];rfl)
 refine bA (nJ hne0) λpv h1 h2 h3=> ?_
 rw[h3]at hne0 F
 refine xE (eF (fC hne0)) λitems hit=> ?_
 rw[hit,m0,eM]at hne0 F
 refine ay (pO (fC hne0)) λgg G hg=> ?_
 rw[hg,eM]at F
 refine ky (kQ G.plain) λf1 f2 f3 f4 f5=> ?_
 have hky:env.kindOf y=some .local:=B.envk.names y .local (cN hy) (by decide) (by decide)
 have hsw:swapsWith (.ListComp elt [⟨.Name x px,iter,ifs,0⟩] csc p) (some (.Name y py)) sp.line env=pure true:=by
  have hb:env.blockKind= .function:=by unfold av.blockKind;rw[B.envk.scope];rfl
  have hno:(csc.names.any λz=>z.1==y&&(z.2==NameKind.local||z.2==NameKind.cell))=false:=by
   rw[wx]
   intro z hz
   have:(z.1==y)=false:=by
    cases q:z.1==y with
    |false=>rfl
    |true=>
     exfalso
     have hz':∀(l:List (Str×NameKind)),z∈l->(l.lookup y).isNone=true->False:=λl=>by
      induction l with
      |nil=>intro h;simp at h
      |cons w r ih=>
       intro h k
       rw[ch]at k
       refine cr (bS.mp h) (λe=> ?_) (λe=> ?_)
       ·subst e
        have:(y==z.1)=true:=by rw[cN q];simp
        rw[this]at k;exact bZ k
       ·cases e2:y==w.1 with
        |true=>rw[e2]at k;exact bZ k
        |false=>rw[e2]at k;exact ih e k
     exact hz' _ hz hyc
   rw[this];simp
  unfold swapsWith
  dsimp only
  have e1:(ai.ListComp elt [⟨.Name x px,iter,ifs,0⟩] csc p).pos=p:=rfl
  rw[hb,hky,e1,hline]
  rw[hno];rfl
 rw[exec_Assign_Name_used _ _ _ _ hsw]
 refine aJ (lA (aJ ?_))
 refine aJ (fQ (wpAny_comprehension_use (Q:=λø s' =>Q .next s') rfl (tS hset env) f4 f1 f5 (hE.1 sc iter X A l s env ρ H (by rw[h1];exact λq=>nomatch q) hd hu _ _ ⟨λva q s₁ e1 a₁ r₁=> ?_,λe' c s' e1 ø=>by rw[h1]at e1;cases e1⟩))
  (λø s' hq=>bk (bk hq)) λø ø e=>e)
 rw[h1]at e1
 obtain rfl:=dk e1
 have H₁:=H.after a₁
 have at₁:=a.after' a₁ B.sol
 refine pN hit r₁ λo fp P St so It=> ?_
 refine Dw ?_ (by show 0<=sizeLine;exact bz (by rfl))
 refine Dx f3 (by intro y hy;simp at hy) (λh₄ hns4 hsb4=> ?_) f1
 dsimp only at hns4 hsb4 ⊢
 generalize hH1:s₁.heap.push o=H1 at It hns4 hsb4 ⊢
 have z1:H1.objs.size=s₁.heap.objs.size+1:=by rw[<-hH1,jy]
 generalize hH2:H1.push {cls:= .type "list",data:= .seq ([]:List ae).toArray}=H2 at hns4 hsb4 ⊢
 have z2:H2.objs.size=s₁.heap.objs.size+2:=by rw[<-hH2,jy,z1]
 have ne2:∀b:Nat,b<s₁.heap.objs.size->b≠H2.objs.size:=λb hb=>wU ‹_› ‹_›
 have ne3:∀b:Nat,b<H1.objs.size->b≠H2.objs.size:=λb hb=>wX z1 z2 hb
 have n12:∀a b c:Nat,b=a+1->c=a+2->a≠b/\ a≠c/\ b≠c:=λa b c h1 h2=>sv ‹_› ‹_›
 refine bM (n12 _ _ _ z1 z2) λd1 d2 d3=> ?_
 have nI:s₁.heap.get? s₁.heap.objs.size=none:=dU (bP _)
 have nD:s₁.heap.get? H1.objs.size=none:=dU (iX ‹_›)
 have nC:s₁.heap.get? H2.objs.size=none:=dU (iX ‹_›)
 have old:∀b o,s₁.heap.get? b=some o->h₄.get? b=some o:=λb o e=>
  hsb4.extBut b o (ne2 b (eK e)) (b4 _ (hH2▸b4 _ (hH1▸b4 _ e)))
 have a₄:After W X s₁ {s₁ with heap:=h₄,toks:=s₁.toks+([]:List (Str×ae)).length}:=After.of_keeps H₁.ready.inv old
 have M₄:be W (λb=>X b \/b=s₁.heap.objs.size \/b=H1.objs.size \/b=H2.objs.size) H2.objs.size s₁ {s₁ with heap:=h₄,toks:=s₁.toks+([]:List (Str×ae)).length}:=
  (a₄.moves (C:=H2.objs.size)).weaken λb o e nx q=>nx (.inl q)
 have kI:∀b o',H1.get? b=some o'->h₄.get? b=some o':=λb o' e=>hsb4.extBut b o' (ne3 b (eK e)) (b4 _ (hH2▸b4 _ e))
 have st₄:St 0 h₄:=(It.walks A H₁.ready.handled).frame _ _ _ It.start λb ø o e=>kI b o e
 have hl4:h₄.IsList H1.objs.size #[]:=⟨_,hsb4.extBut _ _ d3 (b4 _ (hH2▸et _ rfl)),rfl,_,rfl⟩
 have hn4:h₄.Ns H2.objs.size _:=hns4
 refine yB (yA (s:=s₁) hE1 H.envk G H₁.ready It hd hu nI nD nC d1 d2 d3 M₄ st₄ hl4 hn4 λs' ys M' hn' hl' rys=> ?_) λQ E hq=>(It.walks A H₁.ready.handled).self 0 _ Q E st₄ hq
 refine xE hn' λm' hm' => ?_
 have af:After W X s₁ s':=M'.close (λb o e nx q=>by
  rcases q with q|q|q|q
  ·exact nx q
  ·rw[q,nI]at e;exact am e
  ·rw[q,nD]at e;exact am e
  ·rw[q,nC]at e;exact am e) nC
 have hCne:H2.objs.size≠C:=λq=>by
  refine dN at₁.loc λø m hm ø=> ?_
  refine dj hm λo' ø ø e ø=> ?_
  rw[<-q,nC]at e;exact am e
 have sfC:sf.heap.get? H2.objs.size=none:=by
  cases q:sf.heap.get? H2.objs.size with
  |none=>rfl
  |some o' =>obtain⟨o'',e⟩:=at₁.M.live _ _ q;rw[nC]at e;exact am e
 have hKC:∀b o,K b o->b≠H2.objs.size:=λb o k q=>by have:=at₁.kept b o k;rw[q,nC]at this;exact am this
 have at':a7 K W (λb=>X b \/b=H2.objs.size) C sf sc s' ρ:=a7.wide' B at₁ af nC (let ⟨o',_,_,e,_⟩:=hm';⟨o',e⟩)
 have lv:∀b,X b->∃o,s₁.heap.get? b=some o:=at₁.lives
 have repD:Rep W (λb=>X b \/b=H2.objs.size) s'.heap (.ref H1.objs.size) (.list (items.filterMap gg)):=by
  refine o6 hl' λoD eD cD kD dD=> ?_
  refine .list eD cD dD (λhx=> ?_) (rys.mono (λb o nx e=>e) λb o e nx q=>nx (q.elim .inl λq=> .inr (.inr (.inr q))))
  refine cr (hx) (λhx=> ?_) (λhx=> ?_)
  ·refine xE (lv _ hx) λo e=> ?_
   rw[nD]at e;exact am e
  ·exact d3 hx
 refine ko (jc (B.wide sfC hKC) at' hy repD λs'' at'' k'' => ?_)
 refine⟨m',hm'.at' λo e=>k'' _ o hCne e,λh' hsb' => ?_⟩
 have hsb':Heap.SameBut H2.objs.size s''.heap h':=hsb'
 refine F.next _ {s'' with heap:=h'} rfl ⟨(at''.M.chg0 (tk:=s''.toks) B.inv sfC hsb'.extBut B.tabs).narrow sfC,?_,at''.kinds,λb q=> ?_,λb o k=>hsb'.extBut b o (hKC b o k) (at''.kept b o k)⟩
 ·refine dN at''.loc λø m hm hv=> ?_
  refine⟨B.XC,m,hm.at' λo e=>hsb'.extBut C o (cF hCne) e,λz q e=> ?_⟩
  refine ay (hv z q e) λw e1 e2=> ?_
  exact⟨w,e1,(e2.mono (λb o nx e=>hsb'.extBut b o (λq=>nx (.inr q)) e) λø ø ø nx=>nx:Rep W (λb=>X b \/b=H2.objs.size) h' w q).narrow⟩
 ·refine xE (lv b q) λo e=> ?_
  refine xE (at''.lives b (.inl q)) λo' e' => ?_
  exact⟨o',hsb'.extBut b o' (λq=>by rw[q,nC]at e;exact am e) e'⟩
end
end
section
noncomputable def XS(K:Addr->Obj->Prop)(W:Wd)(X:Addr->Prop)(C:Addr)(A:aA)(l:List av)(sf:ah)(sc:Scope)(env:av)(n:Nat)(s:ah)(st:aC)(r:aB):Prop:=
 r≠ .stuck->A.depth+n<=900->A.units+10*n<=9000->∀Q E,cR K W X C l sf sc r Q E->wpAny W.M A (exec st env) Q E s
noncomputable def pS(g:Bool)(W:Wd)(n:Nat):Prop:=∀(ex:Scope->aC->ak->aB),fD g W n ex->∀K sc X C A l sf env ρ s b h hs p,Blk K g W X C A l sf sc env->a7 K W X C sf sc s ρ->
 XS K W X C A l sf sc env n s (.Try b (h::hs) [] [] p) (match aw (ex sc) b ρ with
  | .next ρ' => .next ρ'
  | .ret v=> .ret v
  | .exc c ρ' =>f7 sc c ρ' (h::hs)
  |_=> .stuck)
section
variable{W:Wd}{C:Calls}{n:Nat}
theorem dE{K:Addr->Obj->Prop}{X:Addr->Prop}{Ca:Addr}{A:aA}{l:List av}{sf s:ah}{sc:Scope}{env:av}{st:aC}:XS K W X Ca A l sf sc env n s st .stuck:=λh=>absurd rfl h
theorem yW{A:aA}(Q E:ae->ah->Prop)(s:ah)(a:Int)(t:bE)(b:Int)(u:bE)(h:Q (.int (a+b) s.toks) {s with toks:=s.toks+1}):wpAny W.M A (inplaceOp .Add (.int a t) (.int b u)) Q E s:=by
 first
  |exact AutoIntOps.iadd_0 h
  |exact PySem.AutoIntOps.iadd_0 h
theorem yX{A:aA}(Q E:ae->ah->Prop)(s:ah)(a:Int)(t:bE)(b:Int)(u:bE)(h:Q (.int (a-b) s.toks) {s with toks:=s.toks+1}):wpAny W.M A (inplaceOp .Sub (.int a t) (.int b u)) Q E s:=by
 first
  |exact AutoIntOps.isub_0 h
  |exact PySem.AutoIntOps.isub_0 h
theorem Hs{i:Int}(b z:PV)(h:bJ .Add (.int i) b=some z):∃j,b= .int j/\ z= .int (i+j):=by
 cases b<;>first|(cases h;exact⟨_,rfl,rfl⟩)|cases h
theorem Ht{i:Int}(b z:PV)(h:bJ .Sub (.int i) b=some z):∃j,b= .int j/\ z= .int (i-j):=by
 cases b<;>first|(cases h;exact⟨_,rfl,rfl⟩)|cases h
section
variable{K:Addr->Obj->Prop}{g gen:Bool}{X:Addr->Prop}{Ca:Addr}{A:aA}{l:List av}{sf s:ah}{sc:Scope}{env:av}{ρ:ak}{E₀:Ev}{ex:Scope->aC->ak->aB}
theorem nM{st:aC}{b:Bool}{r:aB}(h:b=true->XS K W X Ca A l sf sc env n s st r):XS K W X Ca A l sf sc env n s st (if b=true then r else .stuck):=by
 cases b with
 |true=>exact h rfl
 |false=>exact dE
theorem Hu(hE:aN g W n E₀)(B:Blk K g W X Ca A l sf sc env)(a:a7 K W X Ca sf sc s ρ)(v:ai)(p:ax):XS K W X Ca A l sf sc env n s (.Expr v p) (s8 E₀ sc v ρ):=by
 unfold s8
 cases h:strE v with
 |some x=>
  refine dB (xd h) λk q e=> ?_
  rw[e]
  exact λø ø ø Q E F=>Hi B a F
 |none=>
  cases h2:pd v with
  |none=>exact dE
  |some c=>
   refine xE (w' h2) λq e=> ?_
   rw[e]
   exact λhne hd hu Q E F=>Hj hE B a hne hd hu F
theorem Hv{k:Nat}(hG:∀k,aN g W n (pE C gen k))(hF:∀k,aN false W n (pE C false k))(B:Blk K g W X Ca A l sf sc env)(a:a7 K W X Ca sf sc s ρ)(x:Str)(px:ax)(v:ai)(p:ax):XS K W X Ca A l sf sc env n s (.Assign [.Name x px] v p) (s9 (pE C gen (k+1)) sc x px v ρ):=by
 unfold s9
 cases hv:sF v with
 |none=>
  exact nM λh hne hd hu Q E F=>by
   rw[aI]at h
   exact G4 (hG _) B a h.1 h.2 hne hd hu F
 |some c=>
  obtain⟨elt,gs,csc,q⟩:=c
  have e0:=Ez hv
  subst e0
  refine nM λh=> ?_
  simp only[aI]at h
  show XS K W X Ca A l sf sc env n s _ (aW (nr (pE C gen k) (pE C false k) sc elt gs csc ρ) ρ λa=> .next (aQ x a ρ))
  unfold nr
  cases hg:ft gs with
  |none=>exact dE
  |some c=>
   obtain⟨t,iter,ifs,as⟩:=c
   show XS K W X Ca A l sf sc env n s _ (aW (match fW t with|none=> .stuck|some y=>s0 (pE C gen k) (pE C false k) sc elt csc ⟨t,iter,ifs,as⟩ y ρ) ρ λa=> .next (aQ x a ρ))
   cases hy:fW t with
   |none=>exact dE
   |some y=>
    refine xE (iY hy) λpy e=> ?_
    rw[hJ hg,e]
    show XS K W X Ca A l sf sc env n s _ (aW (if as=0 then(if(!cW iter)=true then .stuck else(ca ((pE C gen k).ev sc iter ρ)).bind λv=>(aE (bQ v)).bind λitems=>(cq (pE C false k) csc y elt ifs items).bind λvs=> .ok (.list vs))else .stuck) ρ λa=> .next (aQ x a ρ))
    by_cases ha:as=0
    ·subst ha
     rw[if_pos rfl]
     cases hs:cW iter with
     |false=>exact dE
     |true=>exact λhne hd hu Q E F=>Hr (hG k) (hF k) B a hs h.1.1 h.1.2 h.2 hne hd hu F
    ·rw[if_neg ha]
     exact dE
theorem Hw{k:Nat}(hG:∀k,aN g W n (pE C gen k))(hF:∀k,aN false W n (pE C false k))(B:Blk K g W X Ca A l sf sc env)(a:a7 K W X Ca sf sc s ρ)(ts:List ai)(v:ai)(p:ax):XS K W X Ca A l sf sc env n s (.Assign ts v p) (tc (pE C gen (k+1)) sc ts v ρ):=by
 unfold tc
 cases h:ft ts with
 |none=>exact dE
 |some t=>
  rw[hJ h]
  show XS K W X Ca A l sf sc env n s _ (ta (pE C gen (k+1)) sc t v ρ)
  unfold ta
  cases h2:hO t with
  |some q=>rw[lL h2];exact Hv hG hF B a q.1 q.2 v p
  |none=>
   show XS K W X Ca A l sf sc env n s _ (match(kB t).bind pr with|some m=>xk (pE C gen (k+1)) sc m v ρ|none=> .stuck)
   cases h3:(kB t).bind pr with
   |none=>exact dE
   |some m=>
    refine bl h3 λes h4 h5=> ?_
    refine dB (sE h4) λq tp e=> ?_
    rw[e,EQ h5]
    refine nM λh=> ?_
    simp only[aI]at h
    exact λhne hd hu Q E F=>Hm (hG _) B a h.1.1.1.1 h.1.1.1.2 h.1.1.2 h.1.2 h.2 hne hd hu F
theorem Hx(hE:aN g W n E₀)(B:Blk K g W X Ca A l sf sc env)(a:a7 K W X Ca sf sc s ρ)(t:ai)(op:mH)(v:ai)(p:ax):XS K W X Ca A l sf sc env n s (.AugAssign t op v p) (te E₀ sc t op v ρ):=by
 unfold te
 cases h:hO t with
 |none=>exact dE
 |some q=>
  rw[lL h]
  show XS K W X Ca A l sf sc env n s _ (match(ρ.lookup q.1).bind gq with|some i=>if op= .Add \/op= .Sub then aW (E₀.ev sc v ρ) ρ λb=>aW (aE (bJ op (.int i) b)) ρ λr=> .next (aQ q.1 r ρ)else .stuck|none=> .stuck)
  cases h2:(ρ.lookup q.1).bind gq with
  |none=>exact dE
  |some i=>
   refine bl h2 λw hx h3=> ?_
   rw[tE h3]at hx
   show XS K W X Ca A l sf sc env n s _ (if op= .Add \/op= .Sub then aW (E₀.ev sc v ρ) ρ λb=>aW (aE (bJ op (.int i) b)) ρ λr=> .next (aQ q.1 r ρ)else .stuck)
   by_cases ho:op= .Add \/op= .Sub
   ·rw[if_pos ho]
    rcases ho with rfl|rfl
    ·exact λhne hd hu Q E F=>yR hE B a (f:=λx y=>x+y) (λQ E s a t b u h=>yW Q E s a t b u h) (λb z h=>Hs b z h) hx hne hd hu F
    ·exact λhne hd hu Q E F=>yR hE B a (f:=λx y=>x-y) (λQ E s a t b u h=>yX Q E s a t b u h) (λb z h=>Ht b z h) hx hne hd hu F
   ·rw[if_neg ho];exact dE
theorem Hy(X0:kS W)(hE:aN g W n E₀)(B:Blk K g W X Ca A l sf sc env)(a:a7 K W X Ca sf sc s ρ)(v:ai)(p:ax):XS K W X Ca A l sf sc env n s (.Raise (some v) none p) (tw E₀ sc v ρ):=by
 unfold tw
 cases h:ti v with
 |none=>exact dE
 |some q=>
  refine dB (ER h) λfp p' e=> ?_
  rw[e]
  refine nM λh=> ?_
  rw[aI]at h
  exact λhne hd hu Q E F=>Hk X0 hE B a h.1 h.2 hne hd hu F
theorem Hz(hE:aN g W n E₀)(hX:fD g W n ex)(B:Blk K g W X Ca A l sf sc env)(a:a7 K W X Ca sf sc s ρ)(t it:ai)(b:List aC)(p:ax):XS K W X Ca A l sf sc env n s (.For t it b [] p) (th E₀ ex sc t it b ρ):=by
 unfold th
 cases h:fW t with
 |none=>exact dE
 |some x=>
  refine xE (iY h) λpx e=> ?_
  rw[e]
  refine nM λh=> ?_
  rw[aI]at h
  exact λhne hd hu Q E F=>Ha hE hX B a h.1 h.2 hne hd hu F
end
theorem ua(O:aZ W)(X0:kS W){g gen:Bool}{N:Nat}(hG:∀k,aN g W N (pE C gen k))(hF:∀k,aN false W N (pE C false k))(hT:pS g W N):∀k,fD g W N (pX C gen k)
 |0=>λK sc st X Ca A l sf env ρ s B a hne=>absurd rfl hne
 |k+1=>λK sc st X Ca A l sf env ρ s B a=>by
  have hE:=hG 24
  have hX:=ua O X0 hG hF hT k
  show XS K W X Ca A l sf sc env N s st (lS (pE C gen 24) (pX C gen k) sc st ρ)
  cases st with
  |Expr v p=>exact Hu hE B a v p
  |Assign ts v p=>exact Hw hG hF B a ts v p
  |AugAssign t op v p=>exact Hx hE B a t op v p
  |If t b o p=>exact λhne hd hu Q E F=>G6 hE hX B a hne hd hu F
  |While t b o p=>
   cases o with
   |nil=>exact λhne hd hu Q E F=>G7 hE hX B hd hu jK a hne F
   |cons=>exact dE
  |For t it b o p=>
   cases o with
   |nil=>exact Hz hE hX B a t it b p
   |cons=>exact dE
  |Return e p=>
   cases e with
   |some e=>exact λhne hd hu Q E F=>G5 hE B a hne hd hu F
   |none=>exact dE
  |Break p=>exact λhne hd hu Q E F=>wpAny_Break (F.brk ρ s rfl a)
  |Pass p=>exact λhne hd hu Q E F=>wpAny_Pass (F.next ρ s rfl a)
  |Raise v c p=>
   cases v with
   |none=>exact dE
   |some v=>
    cases c with
    |none=>exact Hy X0 hE B a v p
    |some _=>exact dE
  |Try b hs o f p=>
   cases o with
   |cons=>exact dE
   |nil=>
    cases f with
    |cons=>exact dE
    |nil=>
     cases hs with
     |nil=>exact dE
     |cons h hs=>exact hT _ hX K sc X Ca A l sf env ρ s _ _ _ _ B a
  |_=>exact dE
theorem HA(O:aZ W)(X0:kS W)(hC:bu W n C)(hT:pS true W (n+4))(k:Nat):fD true W (n+4) (pX C true k):=ua O X0 (λk=>pR O hC k) (λk=>(iG O hC k).mono (bf n 4)) hT k
theorem HB(O:aZ W)(X0:kS W)(hC:bu W n C)(hT:pS false W n)(k:Nat):fD false W n (pX C false k):=ua O X0 (λk=>iG O hC k) (λk=>iG O hC k) hT k
end
end
section
noncomputable def pU(W:Wd):Prop:=∀(A:aA) (env:av) (s:ah) (t:Str) (c:XC) (b:Bool) (e:Addr) (oe:Obj) (np pos:ax) (b₀:aC) (suite:List aC) (rest:List ExceptHandler) (Q:cO->ah->Prop) (E:ae->ah->Prop),
 jJ t c=some b->env.scope.kind= .function->env.kindOf t=some .globalImplicit->env.globals=mainGlobals->env.builtins=builtinsNs->Inv W s->s.heap.get? e=some oe->oe.cls=W.excA c->
 (if b then wpAny W.M (A.mark (some (.ref e))) (setFlight (.ref e) none) (λø s₂=>wpAny W.M (A.mark (some (.ref e))) (execs (b₀::suite) env) Q (notedBy W.M (A.mark (some (.ref e))) env (cameBackBy W.M A env E)) s₂) (notedBy W.M (A.mark (some (.ref e))) env (cameBackBy W.M A env E)) s
   else wpAny W.M A (handleBy (.ref e) env rest) Q E s)->
 wpAny W.M A (handleBy (.ref e) env (.ExceptHandler (some (.Name t np)) none (b₀::suite) pos::rest)) Q E s
section
variable{K:Addr->Obj->Prop}{g:Bool}{W:Wd}{X:Addr->Prop}{C:Addr}{A:aA}{l:List av}{sf s:ah}{sc:Scope}{env:av}{ρ:ak}{n:Nat}{ex:Scope->aC->ak->aB}{e:Addr}{c:XC}
theorem eO.at_(B:Blk K g W X C A l sf sc env)(f:eO K W X l C sf sc e c ρ s):a7 K W X C sf sc s ρ:=by
 obtain⟨M,k,Bh,a0,m,b,fl,hn,hv,lv,kp⟩:=f
 refine⟨M,⟨B.XC,m,hn,λx p q=> ?_⟩,k,λb' hb=> ?_,λb' o q=>fl.1 b' o (kp b' o q)⟩
 ·refine ay (hv x p q) λv e1 e2=> ?_
  exact⟨v,e1,e2.mono (λb o ø q=>fl.1 b o q) λø ø ø nx=>nx⟩
 ·rcases lv b' hb with ⟨o,q⟩|q
  ·exact⟨o,fl.1 _ _ q⟩
  ·refine dN (fl.2.2.1.mem q) λø o' e' ø=> ?_
   exact⟨o',e'⟩
theorem eO.to(B:Blk K g W X C A l sf sc env)(f:eO K W X l C sf sc e c ρ s){Bh h':Heap}{a0:ae}{m:Str->Option ae}(b:Base W X l sf Bh)(fl:vU Bh l e (W.excA c) a0 h')(hm:s.heap.Ns C m)
  (hv:∀x p,ρ.lookup x=some p->∃v,m x=some v/\ Rep W X Bh v p) (lv:∀b,X b->(∃o,Bh.get? b=some o) \/b∈l.filterMap (·.frame)) (kp:∀b o,K b o->Bh.get? b=some o) (up:s.heap.UpToSlots h'):eO K W X l C sf sc e c ρ {s with heap:=h'}:=by
 refine⟨⟨⟨λb' o e=>fl.1 b' o (b.stays b' o e),b.tabs.keeps fl.1,f.M.inv.gens⟩,λb' o nx e=>fl.1 b' o (b.keep b' o nx e),λL g hL e=>up.ns (f.M.ns L g hL e),f.M.gens,f.M.os,f.M.drawn,λb' o e=> ?_,λb' o t e=>fl.1 b' o (b.solid b' o t e)⟩,f.kinds,Bh,a0,m,b,fl,up.ns hm,hv,lv,kp⟩
 rcases b.live b' o e with ⟨o',e'⟩|hm
 ·exact⟨o',fl.1 _ _ e'⟩
 ·refine dN (fl.2.2.1.mem hm) λø o' e' ø=> ?_
  exact⟨o',e'⟩
theorem HC(B:Blk K g W X C A l sf sc env)(f:eO K W X l C sf sc e c ρ s){P:ah->Prop}{E:ae->ah->Prop}(h:∀s',eO K W X l C sf sc e c ρ s'->P s'):
  wpAny W.M A (noteFrame (.ref e) env) (λø s₂=>wpAny W.M A (setFlight (.ref e) none) (λø s₃=>P s₃) E s₂) E s:=by
 have f₀:=f
 obtain⟨outer,rfl⟩:=B.top
 obtain⟨M,k,Bh,a0,m,b,fl,hn,hv,lv,kp⟩:=f
 refine wpAny_looks_onW B.frames B.frm fl λh₁ hh up=> ?_
 exact wpAny_landsW hh λh₂ fl2 up2=>h _ (f₀.to B b fl2 hn hv lv kp (up.trans up2))
theorem HD(B:Blk K g W X C A l sf sc env)(f:eO K W X l C sf sc e c ρ s){A₁:aA}{Q:Unit->ah->Prop}{E:ae->ah->Prop}(h:∀s',eO K W X l C sf sc e c ρ s'->Q () s'):
  wpAny W.M A₁ (setFlight (.ref e) none) Q E s:=by
 have f₀:=f
 obtain⟨M,k,Bh,a0,m,b,fl,hn,hv,lv,kp⟩:=f
 exact lands_againW fl λh₂ fl2 up2=>h _ (f₀.to B b fl2 hn hv lv kp up2)
noncomputable def PS(K:Addr->Obj->Prop)(W:Wd)(X:Addr->Prop)(C:Addr)(A₁:aA)(l:List av)(sf s:ah)(sc:Scope)(env:av)(sts:List aC)(r:aB):Prop:=r≠ .stuck->∀Q E E',cR K W X C l sf sc r Q E'->wpAny W.M A₁ (execs sts env) Q E s
theorem jd{A₁:aA}{sts:List aC}:PS K W X C A₁ l sf s sc env sts .stuck:=λh=>absurd rfl h
theorem HE{e:ai}{x:Str}(h:s3 e=some x):∃px k tp q,e= .Compare (.Name x px) [.Eq] [.Tuple [] k tp] q:=by
 refine bl h λc hc h2=> ?_
 refine bl h2 λy hy h3=> ?_
 refine bl h3 λop ho h4=> ?_
 refine bl h4 λt ht h5=> ?_
 refine bl h5 λes hes h6=> ?_
 refine xA (eA h6) λhi h7=> ?_
 refine xE (Ew hc) λq e0=> ?_
 refine xE (iY hy) λpx e1=> ?_
 refine dB (sE hes) λk tp e2=> ?_
 exact⟨px,k,tp,q,by rw[e0,e1,hJ ho,hJ ht,e2,hi.1,gY.mp hi.2,h7]⟩
theorem HF(B:Blk K g W X C A l sf sc env)(a:a7 K W X C sf sc s ρ){A₁:aA}(hu:A₁.units<=9000)(e:ai)(p:ax):PS K W X C A₁ l sf s sc env [.Return (some e) p] (s4 e ρ):=by
 unfold s4
 cases h:strE e with
 |some x=>
  refine dB (xd h) λk q e1=> ?_
  rw[e1]
  intro hne Q E E' F
  refine bW (iy (kn ?_))
  have a':=a.after' (After.tok (tk:=s.toks+1) a.M.inv) B.sol
  exact F.ret _ _ _ rfl a'.M (.str _ _)
 |none=>
  cases h2:s3 e with
  |none=>exact jd
  |some x=>
   refine wM (HE h2) λpx k tp q e1=> ?_
   subst e1
   show PS _ _ _ _ _ _ _ _ _ _ _ (if x=aa "__debug__" then .stuck else(match ρ.lookup x with|none=> .stuck|some v=>(match kG .Eq v (.tuple [])with|none=> .stuck|some b=>aB.ret (.bool b))))
   by_cases hd:x=aa "__debug__"
   ·rw[if_pos hd];exact jd
   ·rw[if_neg hd]
    cases hx:ρ.lookup x with
    |none=>exact jd
    |some v=>
     show PS _ _ _ _ _ _ _ _ _ _ _ (match kG .Eq v (.tuple [])with|none=> .stuck|some b=>aB.ret (.bool b))
     cases hz:kG .Eq v (.tuple [])with
     |none=>exact jd
     |some z=>
      intro hne Q E E' F
      refine dN a.loc λø m hn hl=> ?_
      refine ay (hl x v hx) λw e1 e2=> ?_
      refine bW (iy (Dt (hm:=rfl) (dT (dM B.envk.scope (B.envk.names _ _ (a.kinds x v hx) (by decide) (by decide)) (by rw[B.locals];exact hn) e1 ?_) (gv hd))))
      refine wpAny_Tuple (Calls.spliced_nil ⟨by decide+kernel,?_⟩)
      have af:=After.push (X:=X) (tk:=s.toks) a.M.inv {cls:= .type "tuple",data:= .seq #[]}
      have a':=a.after' af B.sol
      refine kM hz (af.rep e2) (nw (B.ready a).xlt .nil) hu ?_
      exact F.ret _ _ _ rfl a'.M (.bool z)
theorem HG{ts:List ai}{v:ai}{q:Str×Bool}(h:pn ts v=some q):∃px k p,ts=[.Name q.1 px]/\ v= .Constant (.bool q.2) k p:=by
 refine bl h λx hx h2=> ?_
 refine eZ h2 λb hb h3=> ?_
 refine bl hx λt ht h4=> ?_
 refine bl hb λc hc h5=> ?_
 refine xE (iY h4) λpx e1=> ?_
 refine dB (sD hc) λk p e2=> ?_
 subst h3
 exact⟨px,k,p,by rw[hJ ht,e1],by rw[e2,EC h5]⟩
theorem HH(B:Blk K g W X C A l sf sc env)(a:a7 K W X C sf sc s ρ){A₁:aA}(hu:A₁.units<=9000)(sts:List aC):PS K W X C A₁ l sf s sc env sts (po sc sts ρ):=by
 unfold po
 cases h:ft sts with
 |none=>exact jd
 |some st=>
  rw[hJ h]
  show PS _ _ _ _ _ _ _ _ _ _ _ (xj sc st ρ)
  cases st with
  |Return e p=>
   cases e with
   |none=>exact jd
   |some e=>exact HF B a hu e p
  |Assign ts v p=>
   show PS _ _ _ _ _ _ _ _ _ _ _ (match pn ts v with|some q=>if bR sc q.1=true then .next (aQ q.1 (.bool q.2) ρ)else .stuck|none=> .stuck)
   cases h2:pn ts v with
   |none=>exact jd
   |some q=>
    refine dj (HG h2) λpx k p' e1 e2=> ?_
    rw[e1,e2]
    show PS _ _ _ _ _ _ _ _ _ _ _ (if bR sc q.1=true then .next (aQ q.1 (.bool q.2) ρ)else .stuck)
    cases hl:bR sc q.1 with
    |false=>exact jd
    |true=>
     intro hne Q E E' F
     refine bW (ix (hs:=rfl) (wpAny_Constant_bool (jc B a hl (.bool _) λs₃ a₃ ø=> ?_)))
     exact dW (F.next _ s₃ rfl a₃)
  |_=>exact jd
theorem HI{ty:Option ai}{nm:Option Str}{t:Str}(h:nt ty nm=some t):∃p,ty=some (.Name t p)/\ nm=none:=by
 cases ty with
 |none=>exact am h
 |some e=>cases nm with
  |some _=>exact am h
  |none=>refine xE (iY h) λp e1=> ?_;exact⟨p,by rw[e1],rfl⟩
theorem yY(hH:pU W)(B:Blk K g W X C A l sf sc env)(hu:A.units<=9000):∀(hs:List ExceptHandler) (s:ah),eO K W X l C sf sc e c ρ s->f7 sc c ρ hs≠ .stuck->∀Q E,cR K W X C l sf sc (f7 sc c ρ hs) Q E->
  wpAny W.M A (handleBy (.ref e) env hs) Q E s
 |[],s,f,hne,Q,E,F=>absurd rfl hne
 |h₀::r,s,f,hne,Q,E,F=>by
  have a:=f.at_ B
  obtain⟨M,k,Bh,a0,m,b,fl,hn,hv,lv,kp⟩:=id f
  refine ay fl.there λoe he hc=> ?_
  obtain⟨ty,nm,body,pos⟩:=h₀
  have hne:(match nt ty nm with|none=>aB.stuck|some t=>lQ sc c ρ t body (f7 sc c ρ r))≠ .stuck:=hne
  have F:cR K W X C l sf sc (match nt ty nm with|none=>aB.stuck|some t=>lQ sc c ρ t body (f7 sc c ρ r)) Q E:=F
  cases h1:nt ty nm with
  |none=>rw[h1]at hne;exact absurd rfl hne
  |some t=>
  rw[h1]at hne F
  cases body with
  |nil=>exact absurd rfl hne
  |cons b₀ suite=>
  refine ay (HI h1) λnp e1 e2=> ?_
  subst e1 e2
  have hg:(cj sc t&&(ρ.lookup t).isNone)=true:=Decidable.byContradiction λq=>hne (if_neg q)
  have e3:lQ sc c ρ t (b₀::suite) (f7 sc c ρ r)=(match jJ t c with|none=> .stuck|some y=>cond y (po sc (b₀::suite) ρ) (f7 sc c ρ r)):=if_pos hg
  have hne:lQ sc c ρ t (b₀::suite) (f7 sc c ρ r)≠ .stuck:=hne
  have F:cR K W X C l sf sc (lQ sc c ρ t (b₀::suite) (f7 sc c ρ r)) Q E:=F
  rw[e3]at hne F
  rw[aI]at hg
  cases ht:jJ t c with
  |none=>rw[ht]at hne;exact absurd rfl hne
  |some q=>
   rw[ht]at hne F
   refine hH A env s t c q e oe np pos b₀ suite r Q E ht B.envk.scope (ja (B.here a) hg.1) B.envk.globals B.envk.builtins a.M.inv he hc ?_
   cases q with
   |true=>
    rw[if_pos rfl]
    exact HD B f λs' f' =>HH B (f'.at_ B) (A₁:=A.mark (some (.ref e))) hu _ hne Q _ E F
   |false=>
    rw[if_neg (by simp)]
    exact yY hH B hu r s f hne Q E F
theorem yZ(hH:pU W):pS g W n:=λex hX K sc X C A l sf env ρ s b h₀ hs p B a hne hd hu Q E F=>by
 refine wpAny_Try_except ?_
 refine kR hX B hd hu b ρ s a (λq=>hne (by rw[q])) _ _ ⟨?_,?_,?_,?_,?_,?_⟩
 ·intro ρ' s' q a'
  rw[q]at F
  exact dW (F.next ρ' s' rfl a')
 ·intro ρ' s' q a'
  rw[q]at hne;exact absurd rfl hne
 ·intro v pv s' q M r'
  rw[q]at F
  exact F.ret v pv s' rfl M r'
 ·intro e c ρ' s' q f
  rw[q]at F hne
  exact HC B f (P:=λs₃=>wpAny W.M A (handleBy (.ref e) env (h₀::hs)) Q E s₃) (λs'' f' =>yY hH B (aj (bf _ _) ‹_›) (h₀::hs) s'' f' hne Q E F)
 ·intro e c ρ' s₁ h' tk x t q a' hm
  rw[q]at hne;exact absurd rfl hne
 ·intro e c s' q f
  rw[q]at hne;exact absurd rfl hne
end
end
section
inductive jQ:List aC->List (Str×Str)->Prop
 |nil:jQ [] []
 |doc {x k q p r tl}:jQ r tl->jQ (.Expr (.Constant (.str x) k q) p::r) tl
 |fld {zp a ap y yp p r tl}:(y==aa "__debug__")=false->jQ r tl->jQ (.Assign [.Attribute (.Name (aa "self") zp) a ap] (.Name y yp) p::r) ((a,y)::tl)
section
variable{W:Wd}{X:Addr->Prop}{A:aA}{s:ah}
theorem HJ{y z:Str}{t:bE}(h:y≠z):(gG y t).isStr z=false:=by
 unfold ae.isStr
 first
  |exact gv h
  |exact gv (cF h)
theorem HL{h:Heap}{name:Str}{hs:Int}{t:bE}{v:ae}{p:PV}{es:List eU}{fs:List (Str×PV)}(rr:dm W X h es fs)(r:Rep W X h v p)(hn:∀q∈fs,q.1≠name):putL name hs (.str name t) v es=es++[⟨hs, .str name t,v⟩]/\ dm W X h (es++[⟨hs, .str name t,v⟩]) (fs++[(name,p)])/\ es.find? (·.key.isStr name)=none/\ es.any (·.refKey)=false:=
 rr.ind (M:=λes fs=>(∀q∈fs,q.1≠name)->putL name hs (.str name t) v es=es++[⟨hs, .str name t,v⟩]/\ dm W X h (es++[⟨hs, .str name t,v⟩]) (fs++[(name,p)])/\ es.find? (·.key.isStr name)=none/\ es.any (·.refKey)=false)
  (λø=>⟨rfl, .cons r .nil,rfl,rfl⟩)
  (λ{hs' y t' v' es p' fs} r' _ ih hn=>by
   refine o5 (ih λq hq=>hn q (dS _ hq)) λa b c d=> ?_
   have hy:(gG y t').isStr name=false:=HJ (hn (y,p') (fR ..))
   refine⟨?_, .cons r' b,?_,?_⟩
   ·show(if(gG y t').isStr name then _ else _)=_
    rw[hy,if_neg kq,a];rfl
   ·rw[List.find?_cons,hy];exact c
   ·rw[rL,d];rfl) hn
theorem y0{env:av}{sf:Heap}{L x d C:Addr}{m:Str->Option ae}(KI:W.K.In sf)(hk:env.scope.kind= .function)(hL:env.locals=L)(hx:m (aa "self")=some (.ref x))
  (hself:env.kindOf (aa "self")=some .local) (hs:findIn W.K (.ref C) "__setattr__" =some (some (.builtin "object.__setattr__"))) (hp:plainOver W.K C=true) (hh:hasDictIn W.K C=true) (hxd:x≠d)
  (ht:∀a∈dP,takerIn W.K C a=some none) {look:Str->PV}:∀(sts:List aC) (tl:List (Str×Str)),jQ sts tl->∀(es:List eU) (n:Nat) (fs:List (Str×PV)) (ext:List (Addr×Obj)) (s₁:ah),
  Fr sf L s₁.heap m->eL sf L s₁.heap ((x,instObj C d)::(d,dictOf es n)::ext)->dm W X sf es fs->(∀p∈ext,p.1≠d)->
  (∀q∈tl,q.1∈dP/\ env.kindOf q.2=some .local/\ ∃v,m q.2=some v/\ Rep W X sf v (look q.2))->((fs.map (·.1))++(tl.map (·.1))).Nodup->es.length+tl.length<=900->∀(Q:cO->ah->Prop) (E:ae->ah->Prop),
  (∀h' tk es' n',Fr sf L h' m->eL sf L h' ((x,instObj C d)::(d,dictOf es' n')::ext)->dm W X sf es' (fs++tl.map λq=>(q.1,look q.2))->Q .next {s₁ with heap:=h',toks:=tk})->
  wpAny W.M A (execs sts env) Q E s₁:=by
 have nin:interactive env=false:=by unfold interactive;rw[hk];rfl
 intro sts tl hi
 induction hi with
 |nil=>
  intro es n fs ext s₁ F N R hext hv hnd hlen Q E h
  refine dW (h s₁.heap s₁.toks es n F N ?_)
  simpa using R
 |doc _ ih=>
  intro es n fs ext s₁ F N R hext hv hnd hlen Q E h
  refine bW (wv (hi:=nin) (kn ?_))
  exact ih es n fs ext {s₁ with toks:=s₁.toks+1} F N R hext hv hnd hlen Q E h
 | @fld zp a ap y yp p r tl hyd _ ih=>
  intro es n fs ext s₁ F N R hext hv hnd hlen Q E h
  refine DS (hv (a,y) (fR ..)) λha hky v hmy rv=> ?_
  have hmem:(d,dictOf es n)∈(x,instObj C d)::(d,dictOf es n)::ext:= .tail _ (.head _)
  have hfresh:∀q∈fs,q.1≠a:=λq hq e=>by
   rw[List.nodup_append]at hnd
   exact hnd.2.2 q.1 (lD hq) a (by simp) e
  refine bW (plainObj_wpAny_Assign_Attribute ?_ rfl)
  refine dT (dM hk hky (hL▸F.ns) hmy ?_) hyd
  refine dT (dM hk hself (hL▸F.ns) hx ?_) (by decide+kernel)
  refine o5 (HL (name:=a) (hs:=C3 W.w.params a) (t:=s₁.toks+1) R rv hfresh) λe1 R' e3 e4=> ?_
  have hl:(getL a es).isSome=true:=by unfold getL;rw[e3];simp only[e4];rfl
  refine set_dict (ox:=instObj C d) (dx:=d) (es:=es) (n:=n) (es':=es++[⟨C3 W.w.params a, .str a (s₁.toks+1),v⟩]) (n':=putN a es n) F KI N (InstAt.of_news N (.head _) hmem) rfl hs hp (ht a ha) hh hl
   (by rw[e1]) (.tail hxd (.head hext)) (by rw[cC,PF];simp only[gE]at hlen;exact aj (d7 (bV 1 _) _) (aj hlen (bz rfl))) (λh' F' N' => ?_)
  refine ih _ _ (fs++[(a,look y)]) ext {s₁ with heap:=h',toks:=s₁.toks+2} F' N' R' hext (λq hq=>hv q (dS _ hq)) ?_ ?_ Q E ?_
  ·simpa[bY] using hnd
  ·simp only[cC,gE,mJ]at hlen ⊢;exact lI ‹_› (by rfl)
  ·intro h'' tk es' n' F'' N'' R''
   exact h h'' tk es' n' F'' N'' (by simpa[bY] using R'')
end
end
section
structure ub(W:Wd)(c:aY)(fI fB cc cda:Addr)(fd fdB:dA)(params:List Str)(p0 p1 apos ap pos sp:ax)(sts stsB:List aC)(tl:List (Str×Str)):Prop where
 makes:makesIn W.K (W.clsA c)=true
 init:findIn W.K (.ref (W.clsA c)) "__init__" =some (some (.ref fI))
 initF:typeIn W.K (.ref fI)=some (.type "function")
 D:bw false W fI fd (.Expr (.Call (.Attribute (.Call (.Name "super" p0) [] [] p1) "__init__" apos) [.Name "arrlist" ap] [] pos) sp::sts) ("self" ::params)
 clos:fd.closure=[(aa "__class__",cc)]
 cell:W.base.IsCell cc (some (.ref (W.clsA c)))
 self1:((fd.params.posonlyargs++fd.params.args).head?).map (·.arg)=some ("self" :Str)
 code:fd.code= .ref cda
 file:∃o vs file tf,W.base.get? cda=some o/\ o.data= .fields vs/\ vs[2]? =some (.str file tf)/\ ((W.M.prog.main.file:Str)==file)=true
 line:(apos.endLine==pos.line)=true
 top:(W.M.prog.main.scope.names.lookup ("super" :Str)).isSome=false
 nsuper:fd.scope.names.lookup ("super" :Str)=some .globalImplicit
 ncls:fd.scope.names.lookup ("__class__" :Str)=some .free
 cls:∃cd,clsIn W.K (W.clsA c)=some cd
 sub:mroIn W.K (W.clsA c) (.ref (W.clsA c))=some true
 up:wy W.K (W.clsA c) (W.clsA c) "__init__" =some (some (.ref fB))
 upF:typeIn W.K (.ref fB)=some (.type "function")
 upD:fnIn W.K fB=true
 noany:nsIn W.K cStatics "thirdparty.any" =some none
 DB:bw false W fB fdB stsB ["self", "arrlist"]
 iniB:jQ stsB [(aa "arrlist",aa "arrlist")]
 ini:jQ sts tl
 setattr:findIn W.K (.ref (W.clsA c)) "__setattr__" =some (some (.builtin "object.__setattr__"))
 over:plainOver W.K (W.clsA c)=true
 taker:∀a∈dP,takerIn W.K (W.clsA c) a=some none
 arr:("arrlist" :Str)∈params
 from_:∀q∈tl,q.1∈dP/\ q.2∈params
 nd:(aa "arrlist" ::tl.map (·.1)).Nodup
 short:tl.length<=100
noncomputable def uc(c:aY)(params:List Str)(tl:List (Str×Str))(args:List PV):PV:=
 .inst c (((aa "arrlist",aa "arrlist")::tl).map λq=>(q.1,((params.zip args).lookup q.2).getD .none))
theorem HM{W:Wd}{X:Addr->Prop}{h:Heap}{params:List Str}{vs:List ae}{ps:List PV}{y:Str}(r:a8 W X h vs ps)(hl:vs.length=params.length)(hy:y∈params):∃v,(params.zip vs).lookup y=some v/\ Rep W X h v (((params.zip ps).lookup y).getD .none):=by
 induction params generalizing vs ps with
 |nil=>exact absurd hy eX
 |cons a params ih=>
  cases ps with
  |nil=>rw[r.nilI]at hl;exact absurd hl.symm (Dd _)
  |cons q ps=>
   refine r.consE λv ws e1 rv rs=> ?_
   subst e1
   rw[mP,mP,ch,ch]
   cases k:y==a with
   |true=>exact⟨v,rfl,rv⟩
   |false=>
    refine ih rs (Nat.succ.inj hl) ?_
    rcases bS.mp hy with e|e
    ·rw[e,beq_self_eq_true]at k;exact kA k
    ·exact e
section
variable{W:Wd}{n:Nat}
theorem Ql{sf h h':Heap}{L L':Addr}{m:Str->Option ae}{oL:Obj}(F:Fr sf L h m)(e:h.get? L=some oL)(e':h'.get? L=some oL)(k:∀b o,sf.get? b=some o->h'.get? b=some o):Fr sf L h' m:=
 ⟨F.ns.at' (λo q=>by rw[e]at q;obtain rfl:=aq q;exact e'),k,F.above⟩
theorem HN{M:Model}{A:aA}{cd:Code}{E:ae->ah->Prop}{s:ah}{env:av}{o:ai}{name:Str}{apos pos:ax}{es:List ai}{Q:ae->ah->Prop}(hs:bv es=true)(hl:es.length<29)(hline:(apos.endLine==pos.line)=true)
  (h:DG M A cd (attributeBase o name env (eval o env)) (λov s₁=>∀pl,wpAny M A (getMethod ov name pl) (λp s₂=>wpAny M A (callWith pos p.1 p.2 (eG env es) []) Q E s₂) E s₁) E s):
  DG M A cd (eval (.Call (.Attribute o name apos) es [] pos) env) Q E s:=by
 rw[arm_eval_Call,dY pos hs]
 refine _root_.PySem.wpAt_bind (_root_.PySem.wpAt_mono h (λov s₁ h₁=>PG ?_) λø ø e=>e)
 refine aJ (lA ?_)
 have hform:methodCallForm (es.length+([]:List Keyword).length) (eG env es) (backToKw pos (keywordEach [] env))=true:=by
  unfold methodCallForm
  have h1:(eG env es).all (λx=> !x.1)=true:=by simp[eG]
  have h2:(backToKw pos (keywordEach [] env))=[]:=rfl
  rw[h1,h2]
  simp
  exact aL ‹_› (by rfl)
 have hpos:methodCallPos true o env apos pos=pure pos:=by unfold methodCallPos;simp[hline]
 unfold methodCall
 rw[hform]
 refine aJ (iV (fQ (h₁ _) (λp s₂ h₂=> ?_) λø ø e=>e))
 exact aJ (wpAny_of_eq hpos h₂)
set_option tactic.hygienic true in
theorem y3(O:aZ W){c:aY}{fI fB cc cda:Addr}{fd fdB:dA}{params:List Str}{p0 p1 apos ap pos sp:ax}{sts stsB:List aC}{tl:List (Str×Str)}(Y:ub W c fI fB cc cda fd fdB params p0 p1 apos ap pos sp sts stsB tl)
  (args:List PV) (hlen:args.length=params.length):gc W n (.ref (W.clsA c)) args (.ok (uc c params tl args)):=λA l s X vs R ra hne hd hu Q E F=>by
 have hrl:(904:Nat)<recursionLimit:=by decide+kernel
 have hdep:A.depth+4<recursionLimit:=D' ‹_› ‹_› (by rfl)
 have I:=R.inv
 have KI:W.K.In s.heap:=I.kin O
 have hlv:vs.length=params.length:=by rw[ra.length,hlen]
 refine xE Y.cls λcd hcd=> ?_
 obtain⟨hh,g,dr,tk,os⟩:=s
 refine jz (make_core (rest:=vs) (kw:=[]) (init:= .ref fI) (makes_of KI Y.makes) (looks_findIn KI Y.init) (λself=>bind_fn KI self Y.initF) (.inl rfl) ?_)
 have k1:∀b o,hh.get? b=some o->((hh.push emptyDict).push (instObj (W.clsA c) hh.objs.size)).get? b=some o:=λb o e=>b4 _ (b4 _ e)
 have hx1:((hh.push emptyDict).push (instObj (W.clsA c) hh.objs.size)).get? (hh.objs.size+1)=some (instObj (W.clsA c) hh.objs.size):=by heap_get
 have hd1:((hh.push emptyDict).push (instObj (W.clsA c) hh.objs.size)).get? hh.objs.size=some (dictOf [] 0):=by heap_get
 have hw:(Code.builtin "type.__call__" ⟨.ref (W.clsA c)::vs,[]⟩).weight=1:=rfl
 generalize hh1:(hh.push emptyDict).push (instObj (W.clsA c) hh.objs.size)=h1 at k1 hx1 hd1 ⊢
 have sz1:h1.objs.size=hh.objs.size+2:=by rw[<-hh1,jy,jy]
 refine ay Y.D.at_ λoI hoI hoId=> ?_
 have st1:W.base.StaysIn h1:=λb o e=>k1 b o (I.stays b o e)
 have hz:((aa "self" ::params).zip (.ref (hh.objs.size+1)::vs)).map (·.1)=aa "self" ::params:=t8 (by simp[hlv])
 refine ks_codeAny_call_defAt (s:=⟨h1,g,dr,tk,os⟩) (by show A.depth+Code.weight _<recursionLimit;rw[hw];exact w0 (j:=1) hdep rfl) (st1 _ _ hoI) hoId (O.nolimit.keeps st1) (Y.D.rec_.keeps st1) Y.D.body (Y.D.bind _ (.ref (hh.objs.size+1)::vs) st1 (by simp[hlv])).of Y.D.nocell (λx hx=>Y.D.local_ x.1 (hz▸lD hx)) (λh₀ hns keep=> ?_) Y.D.co Y.D.gen Y.D.kind
 generalize hL:(⟨h1,g,dr,tk,os⟩:ah).heap.objs.size=L at hns
 have hL':h1.objs.size=L:=hL
 have nin:interactive (callEnv fd L fI)=false:=by
  show((callEnv fd L fI).scope.kind==_&&_)=false
  rw[show(callEnv fd L fI).scope.kind= .function from Y.D.kind];rfl
 have keep2:∀b o,hh.get? b=some o->h₀.get? b=some o:=λb o e=>keep b o (k1 b o e)
 have F2:Fr hh L h₀ (λx=>((aa "self" ::params).zip (.ref (hh.objs.size+1)::vs)).reverse.lookup x):=⟨hns,keep2,sA sz1 hL'⟩
 have K2:W.K.In h₀:=KI.keeps keep2
 have mD:∀y,((aa "self" ::params).zip (.ref (hh.objs.size+1)::vs)).reverse.lookup y=((aa "self" ::params).zip (.ref (hh.objs.size+1)::vs)).lookup y:=λy=>tZ (by rw[hz];exact Y.D.nodup)
 have m_self:((aa "self" ::params).zip (.ref (hh.objs.size+1)::vs)).reverse.lookup (aa "self")=some (.ref (hh.objs.size+1)):=by rw[mD,mP,ch,beq_self_eq_true]
 have m_par:∀y∈params,∃v,((aa "self" ::params).zip (.ref (hh.objs.size+1)::vs)).reverse.lookup y=some v/\ Rep W X hh v (((params.zip args).lookup y).getD .none):=λy hy=>by
  refine ay (HM ra hlv hy) λv e1 e2=> ?_
  refine⟨v,?_,e2⟩
  have hne':(y==aa "self")=false:=gv λq=>(DF.mp Y.D.nodup).1 (q▸hy)
  rw[mD,mP,ch,hne']
  exact e1
 refine eZ Y.self1 λar har har' => ?_
 refine rY Y.file λocd cvs file tf hcd1 hcd2 hcd3 hcd4=> ?_
 have st2:W.base.StaysIn h₀:=λb o e=>keep b o (st1 b o e)
 have hx2:=keep _ _ hx1
 have hd2:=keep _ _ hd1
 have I2:InstAt h₀ (hh.objs.size+1) (instObj (W.clsA c) hh.objs.size) (W.clsA c) (some (dictOf [] 0)):=⟨hx2,rfl,rfl,hd2⟩
 obtain⟨oD,hD1,hD2⟩:∃oD,h₀.get? (W.clsA c)=some oD/\ oD.data= .cls cd:=by
  unfold clsIn at hcd
  split at hcd
  ·rename_i c' d' cd' sl ho
   obtain rfl:=aq hcd
   exact⟨_,K2 _ _ ho,rfl⟩
  ·exact am hcd
 have hsub:Looks W.M h₀ (isSubtype (.ref (W.clsA c)) (.ref (W.clsA c))) true:=looks_mroIn K2 Y.sub
 show DG W.M _ (.func _ (callEnv fd L fI)) (execs _ (callEnv fd L fI)) _ _ ⟨h₀,g,dr,tk+_,os⟩
 refine ks_wpAt_execs_cons (ks_wpAt_Expr_any (HN rfl (by simp) Y.line ?_) nin rfl)
 refine ks_wpAt_super_base (env:=callEnv fd L fI) Y.nsuper Y.ncls (by decide+kernel) rfl (st2 _ _ hoI) hoId har Y.code (st2 _ _ hcd1) hcd2 hcd3 hcd4 Y.top ?_
 refine ks_loadName_global Y.D.kind Y.nsuper (loadGlobal_builtin (env:=callEnv fd L fI) (mg:=W.mg) (mb:=W.mb) (by show h₀.Ns fd.globals _;rw[Y.D.globals];exact O.g.keeps st2) (O.nogl _ (by decide+kernel)) (by show h₀.Ns fd.builtins _;rw[Y.D.builtins];exact O.b.keeps st2) ((O.mbv _ (by decide+kernel)).trans (by kernel_rfl)) ⟨rfl,?_⟩)
 refine wpAny_loadName_free Y.D.kind Y.ncls (by show fd.closure.lookup _=_;rw[Y.clos];rfl) (Y.cell.keeps st2) ?_
 refine dM Y.D.kind (Y.D.local_ _ (by rw[har'];exact fR ..)) F2.ns (by rw[har'];exact m_self) ?_
 refine ks_wpAny_isType_cls hD1 hD2 ⟨rfl,?_⟩
 refine ks_wpAny_call_super hD1 hD2 hx2 rfl (λc e=>by cases e) hsub (λh3 hso k3=> ?_)
 intro pl
 have st3:W.base.StaysIn h3:=λb o e=>k3 _ _ (st2 b o e)
 have K3:W.K.In h3:=K2.keeps k3
 obtain⟨ofB,hofB,hofBc⟩:∃of,h3.get? fB=some of/\ of.cls= .type "function" :=by
  have ht':(W.K.lookup fB).map (·.cls)=some (.type "function"):=Y.upF
  cases z:W.K.lookup fB with
  |none=>rw[z]at ht';cases ht'
  |some of=>rw[z]at ht';exact⟨of,K3 _ _ z,vR ht'⟩
 have hup:alongIn W.K (aa "__init__") ((cd.mro.dropWhile (· != .ref (W.clsA c))).drop 1)=some (some (.ref fB)):=by
  have:=Y.up
  unfold wy at this
  rw[hcd]at this
  exact this
 refine ks_wpAny_getMethod_super hso (looks_opaque K3 Y.noany) (l₀:=cd.mro) (λA Q E s k q=>aJ ((looks_clsIn K3 hcd) A _ E s k (bk q))) rfl K3 hup hofB hofBc (ks_ne K2 I2 hcd) (by decide+kernel) ?_
 have k4:∀b o,h3.get? b=some o->(h3.push {cls:= .type "method",data:= .fields #[.ref fB, .ref (hh.objs.size+1)]}).get? b=some o:=λb o e=>b4 _ e
 have hq4:(h3.push {cls:= .type "method",data:= .fields #[.ref fB, .ref (hh.objs.size+1)]}).get? h3.objs.size=some (methodObj (.ref fB) (.ref (hh.objs.size+1))):=Heap.get?_push_at rfl rfl
 generalize hh4:h3.push {cls:= .type "method",data:= .fields #[.ref fB, .ref (hh.objs.size+1)]}=h4 at k4 hq4 ⊢
 have k24:∀b o,h₀.get? b=some o->h4.get? b=some o:=λb o e=>k4 b o (k3 b o e)
 have F4:Fr hh L h4 (λx=>((aa "self" ::params).zip (.ref (hh.objs.size+1)::vs)).reverse.lookup x):=⟨hns.keeps k24,λb o e=>k24 b o (keep2 b o e),F2.above⟩
 have K4:W.K.In h4:=K2.keeps k24
 refine ay (m_par _ Y.arr) λva hva rva=> ?_
 refine callWith_of (P:=λh=>h.get? h3.objs.size=some (methodObj (.ref fB) (.ref (hh.objs.size+1)))/\ W.K.In h) (by simp[eG]) (λh p=>keeps_M (K:=W.K) Y.upD h ⟨p.1,p.2⟩) ?_
 refine Calls.evalArgs_plain (Calls.spliced_cons (dT (dM Y.D.kind (Y.D.local_ _ (.tail _ Y.arr)) F4.ns hva (Calls.spliced_nil ⟨⟨hq4,K4⟩,?_⟩)) (by decide+kernel)))
 refine jz (method_call hq4 ?_)
 refine ay Y.DB.at_ λoB hoB hoBd=> ?_
 have st4:W.base.StaysIn h4:=λb o e=>k24 _ _ (st2 b o e)
 have hzB:((["self", "arrlist"]:List Str).zip [.ref (hh.objs.size+1),va]).map (·.1)=(["self", "arrlist"]:List Str):=rfl
 refine rS (binds:=(["self", "arrlist"]:List Str).zip [.ref (hh.objs.size+1),va]) (by show A.depth+Code.weight _+1<recursionLimit;rw[hw];exact w0 (j:=2) hdep rfl) (st4 _ _ hoB) hoBd (O.nolimit.keeps st4) (Y.DB.rec_.keeps st4) Y.DB.body (Y.DB.bind _ [.ref (hh.objs.size+1),va] st4 rfl).of Y.DB.nocell (λx hx=>Y.DB.local_ x.1 (hzB▸lD hx)) (λh5 hns5 keep5=> ?_) Y.DB.co Y.DB.gen Y.DB.kind
 have k25:∀b o,h₀.get? b=some o->h5.get? b=some o:=λb o e=>keep5 b o (k24 b o e)
 refine gH hns λoL esL epL hoL hoLd hoLr=> ?_
 have hxne:hh.objs.size+1≠hh.objs.size:=Nat.succ_ne_self _
 have ltx:hh.objs.size+1<h4.objs.size:=eK (k24 _ _ hx2)
 have ltL:L<h4.objs.size:=eK (k24 _ _ hoL)
 have nh:∀b,hh.objs.size<=b->hh.get? b=none:=λb hb=>dU hb
 refine y0 (env:=callEnv fdB h4.objs.size fB) (X:=X) (sf:=hh) (L:=h4.objs.size) (x:=hh.objs.size+1) (d:=hh.objs.size) (C:=W.clsA c) (m:=λx=>((["self", "arrlist"]:List Str).zip [.ref (hh.objs.size+1),va]).reverse.lookup x) KI Y.DB.kind rfl (by kernel_rfl) (Y.DB.local_ (aa "self") (by decide)) Y.setattr Y.over (O.hdict c) hxne Y.taker
  (look:=λy=>((params.zip args).lookup y).getD .none) stsB _ Y.iniB [] 0 [] [(L,oL)] _ ⟨hns5,λb o e=>k25 b o (keep2 b o e),aj (sA sz1 hL') (dz ltL)⟩ (λp hp=> ?_) .nil (λp hp=> ?_) (λq hq=> ?_) ?_ (by decide) _ _ (λh6 tk6 es6 n6 F6 N6 R6=> ?_)
 ·simp only[bS,eX,or_false]at hp
  rcases hp with rfl|rfl|rfl
  ·exact⟨k25 _ _ hx2,by show hh.objs.size+1≠_;exact eT (ro (pa sz1 hL') ltL),nh _ (by show hh.objs.size<=hh.objs.size+1;exact mQ _)⟩
  ·exact⟨k25 _ _ hd2,by show hh.objs.size≠_;exact eT (bU (sA sz1 hL') ltL),nh _ (bP _)⟩
  ·exact⟨k25 _ _ hoL,by show L≠_;exact eT ltL,nh _ F2.above⟩
 ·simp only[bS,eX,or_false]at hp
  subst hp
  show L≠hh.objs.size
  exact mL (iT (pa sz1 hL'))
 ·simp only[bS,eX,or_false]at hq
  subst hq
  exact⟨by simp[dP],Y.DB.local_ _ (by decide),va,by kernel_rfl,rva⟩
 ·simp
 have hL6:h6.get? L=some oL:=(N6 (L,oL) (.tail _ (.tail _ (.head _)))).1
 have F7:Fr hh L h6 (λx=>((aa "self" ::params).zip (.ref (hh.objs.size+1)::vs)).reverse.lookup x):=⟨⟨oL,esL,epL,hL6,hoLd,hoLr⟩,F6.keep,F2.above⟩
 refine PG ?_
 refine y0 (env:=callEnv fd L fI) (X:=X) (sf:=hh) (L:=L) (x:=hh.objs.size+1) (d:=hh.objs.size) (C:=W.clsA c) (m:=λx=>((aa "self" ::params).zip (.ref (hh.objs.size+1)::vs)).reverse.lookup x) KI Y.D.kind rfl m_self (Y.D.local_ (aa "self") (fR ..)) Y.setattr Y.over (O.hdict c) hxne Y.taker
  (look:=λy=>((params.zip args).lookup y).getD .none) sts tl Y.ini es6 n6 _ [] _ F7 (λp hp=> ?_) R6 (λp hp=>nomatch hp) (λq hq=> ?_) ?_ ?_ _ _ (λh8 tk8 es8 n8 F8 N8 R8=> ?_)
 ·simp only[bS,eX,or_false]at hp
  rcases hp with rfl|rfl
  ·exact⟨(N6 _ (.head _)).1,by show hh.objs.size+1≠L;exact eT (pa sz1 hL'),nh _ (by show hh.objs.size<=hh.objs.size+1;exact mQ _)⟩
  ·exact⟨(N6 _ (.tail _ (.head _))).1,by show hh.objs.size≠L;exact eT (iT (pa sz1 hL')),nh _ (bP _)⟩
 ·refine xA (Y.from_ q hq) λy1 y2=> ?_
  refine ay (m_par _ y2) λv e1 e2=> ?_
  exact⟨y1,Y.D.local_ _ (.tail _ y2),v,e1,e2⟩
 ·simpa using Y.nd
 ·have:=Y.short
  have:es6.length=1:=by
   have:∀{es:List eU} {fs:List (Str×PV)},dm W X hh es fs->es.length=fs.length:=λ{es fs} r=>by
    induction es generalizing fs with
    |nil=>cases r;rfl
    |cons e es ih=>cases r with|cons _ r=>simp[ih r]
   rw[this R6];rfl
  exact this▸aj (d7 Y.short 1) (bz rfl)
 ·have af:After W X ⟨hh,g,dr,tk,os⟩ {(⟨hh,g,dr,tk,os⟩:ah)with heap:=h8,toks:=tk8}:=After.of_keeps I F8.keep
  refine⟨rfl,F.1 _ _ _ rfl af ?_⟩
  have nX:∀b,hh.objs.size<=b->¬X b:=λb hb hX=>by
   refine xE (R.xlt b hX) λo e=> ?_
   rw[show(⟨hh,g,dr,tk,os⟩:ah).heap=hh from rfl,nh b hb]at e;exact am e
  exact .inst (N8 _ (.head _)).1 (N8 _ (.tail _ (.head _))).1 (nX _ (mQ _)) (nX _ (bP _)) (R8.mono (λb o ø e=>F8.keep b o e) λø ø ø nx=>nx)
end
end
section
structure ud(W:Wd)(cP cT:Addr):Prop where
 value:W.excA .value= .type "ValueError"
 parse:W.excA .parse= .ref cP
 abi:W.excA .abi= .ref cT
 ownP:OwnCls "ParseError" cP [.type "Exception", .type "BaseException", .type "object"] "Exception.__new__" W.mg W.base
 ownT:OwnCls "ABITypeError" cT [.type "ValueError", .type "Exception", .type "BaseException", .type "object"] "ValueError.__new__" W.mg W.base
 exm:∀c d b,jJ (match d with| .parse=>aa "ParseError" | .value=>aa "ValueError" | .abi=>aa "ABITypeError") c=some b->exmOne W.K (W.excA c) (W.excA d)=some b
section
variable{W:Wd}{cP cT:Addr}{A:aA}{env:av}{s:ah}
theorem jR(O:aZ W)(I:Inv W s){x:Str}{p:ax}{v:ae}{Q E:ae->ah->Prop}(hs:env.scope.kind= .function)(hk:env.kindOf x=some .globalImplicit)(hg:env.globals=mainGlobals)(hd:(x==("__debug__" :Str))=false) (hv:W.mg x=some v) (h:Q v s):
  wpAny W.M A (eval (.Name x p) env) Q E s:=Calls.Name_function_global hs hk (Calls.loadGlobal_global (hg▸I.g O) hv h) hd
theorem kT(O:aZ W)(I:Inv W s){x:Str}{p:ax}{v:ae}{Q E:ae->ah->Prop}(hs:env.scope.kind= .function)(hk:env.kindOf x=some .globalImplicit)(hg:env.globals=mainGlobals)(hb:env.builtins=builtinsNs)(hd:(x==("__debug__" :Str))=false) (hm:W.mg x=none) (hv:W.mb x=some v) (h:Q v s):
  wpAny W.M A (eval (.Name x p) env) Q E s:=Calls.Name_function_global hs hk (Calls.loadGlobal_builtin (hg▸I.g O) hm (hb▸I.b O) hv h) hd
theorem y4(O:aZ W){B newId initId:String}{bm:List ae}(FB:ExcBaseFacts B newId initId bm){x:Str}{C:Addr}(W0:OwnCls x C bm newId W.mg W.base){np cpos pos:ax}{e:ai}{Q:cO->ah->Prop}{E:ae->ah->Prop}
  (hh:A.handled=none) (hs:env.scope.kind= .function) (hk:env.kindOf x=some .globalImplicit) (hg:env.globals=mainGlobals) (hstar:bv [e]=true) (hd:(x==("__debug__" :Str))=false) (I:Inv W s)
  (h:wpAny W.M A (eval e env) (λv s₁=>Inv W s₁/\ ∃x t,v= .str x t/\ ∀h' tk ev,wu s₁.heap h' ev (.ref C) [.str x t]->E (.ref ev) {s₁ with heap:=h',toks:=tk}) E s):
  wpAny W.M A (exec (.Raise (some (.Call (.Name x np) [e] [] cpos)) none pos) env) Q E s:=by
 refine DZ W0.obj λtl N nm q bs hdct sn sub ab col dd k0 k1 k2 k3 k5 mN hC hN hni T=> ?_
 refine wpAny_Raise_call_subT (C:=C) (nm:=nm) (q:=q) (N:=N) (bs:=bs) (bm:=tl) (hdct:=hdct) (sn:=sn) (sub:=sub) (ab:=ab) (col:=col) (dd:=dd) (k0:=k0) (k1:=k1) (k2:=k2) (k3:=k3) (k5:=k5)
  FB (mN:=mN) (T.hasType FB.hasBase) hh (by rw[dY cpos hstar];exact nH _) hni (jR O I hs hk hg hd W0.bound ⟨rfl,?_⟩)
 rw[dY cpos hstar]
 refine Calls.evalArgs_plain (Calls.spliced_cons (fQ h (λv s₁ h₁=>Calls.spliced_nil ?_) λø ø y=>y))
 obtain⟨I₁,y,t,rfl,h₁⟩:=h₁
 exact⟨rfl,by show 1<=sizeLine;decide+kernel,I₁.stays _ _ hC,hN.keeps I₁.stays,T.keeps I₁.stays,λh' e hm=>h₁ h' s₁.toks e hm⟩
theorem HO(O:aZ W)(Z:ud W cP cT):kS W where
 rais:=λA env s f c np cpos pos e Q E hx hh hs hk hg hb hstar I h=>by
  unfold jI at hx
  split at hx
  ·rename_i q
   subst q;obtain rfl:=aq hx
   rw[Z.parse]at h
   exact y4 O PySem.F.excBase_Exception Z.ownP hh hs hk hg hstar (by decide+kernel) I h
  ·split at hx
   ·rename_i q
    subst q;obtain rfl:=aq hx
    rw[Z.value]at h
    refine Raise_madeB PySem.F.excCall_ValueError PySem.F.excRaise_ValueError hh (kT O I hs hk hg hb (by decide+kernel) (O.nogl _ (by decide+kernel)) ((O.mbv _ (by decide+kernel)).trans PyProof.Rows.Boot.«ValueError») ⟨rfl,?_⟩) (by rw[tM hstar];simp[bv]at hstar;rfl)
    rw[dY cpos hstar]
    refine Calls.spliced_cons (fQ h (λv s₁ h₁=>Calls.spliced_nil ?_) λø ø y=>y)
    obtain⟨I₁,y,t,rfl,h₁⟩:=h₁
    exact⟨by show 1<=sizeLine;decide+kernel,λh' e hm=>h₁ h' s₁.toks e ⟨hm.keeps,hm.new,hm.there⟩⟩
   ·split at hx
    ·rename_i q
     subst q;obtain rfl:=aq hx
     rw[Z.abi]at h
     exact y4 O PySem.F.excBase_ValueError Z.ownT hh hs hk hg hstar (by decide+kernel) I h
    ·exact am hx
theorem HP(O:aZ W)(Z:ud W cP cT):pU W:=λA env s t c b e oe np pos b₀ suite rest Q E ht hs hk hg hb I he hc h=>by
 have key:∃d,exmOne W.K (W.excA c) (W.excA d)=some b/\ ∀(Q' E':ae->ah->Prop) (A':aA),Q' (W.excA d) s->wpAny W.M A' (eval (.Name t np) env) Q' E' s:=by
  have h3:=ht
  unfold jJ at h3
  split at h3
  ·rename_i q
   subst q
   exact⟨.parse,Z.exm c .parse b ht,λQ' E' A' k=>jR O I hs hk hg (by decide+kernel) (Z.ownP.bound.trans (by rw[Z.parse])) k⟩
  ·split at h3
   ·rename_i q
    subst q
    exact⟨.value,Z.exm c .value b ht,λQ' E' A' k=>kT O I hs hk hg hb (by decide+kernel) (O.nogl _ (by decide+kernel)) ((O.mbv _ (by decide+kernel)).trans (PyProof.Rows.Boot.«ValueError».trans (by rw[Z.value]))) k⟩
   ·split at h3
    ·rename_i q
     subst q
     exact⟨.abi,Z.exm c .abi b ht,λQ' E' A' k=>jR O I hs hk hg (by decide+kernel) (Z.ownT.bound.trans (by rw[Z.abi])) k⟩
    ·exact am h3
 obtain⟨d,hx,load⟩:=key
 refine wpAny_handleBy_cons (codeAny_handlers_test (load _ _ _ ?_)) (by intro q;cases q)
 have LT:Looks W.M s.heap (typeOf (.ref e)) (W.excA c):=hc▸(Looks.ld (part:=none) he).andThen .now
 refine(exm_one (I.kin O) LT hx).here ?_
 cases b with
 |true=>rw[if_pos rfl]at h;exact codeAny_handlers_suite h
 |false=>rw[if_neg (by decide)]at h;exact h
end
end
section
section
variable{W:Wd}{X:Addr->Prop}{A:aA}{s:ah}{l:List av}{n:Nat}{c:aY}
theorem Ready.in1(R:Ready W X A l s):Ready W X A.in1 l s:=⟨R.inv,R.frames,R.guards,R.handled,R.below,R.xtabs,R.xbase,R.xlt⟩
theorem HQ(O:aZ W){m:Str}{f:Addr}(hf:findIn W.K (.ref (W.clsA c)) m=some (some (.ref f)))(ht:typeIn W.K (.ref f)=some (.type "function")) (A:aA) (E:ae->ah->Prop) (s:ah) (x d:Addr) (es:List eU) (k:Nat) (pl:Sem Bool) (P:ae×List ae->ah->Prop) (I:Inv W s)
  (e1:s.heap.get? x=some (instObj (W.clsA c) d)) (e2:s.heap.get? d=some (dictOf es k)) (hs:shadowIn (some (dictOf es k)) m=some false) (h:P (.ref f,[.ref x]) s):wpAny W.M A (getMethod (.ref x) m pl) P E s:=
 method_fn (I.kin O) (kN e1 e2) (O.ga c) (plainGet_of (O.pget c)).2 hf ht hs h
theorem HR(O:aZ W)(I:Inv W s){e:Addr}{oe:Obj}{cls o nm:ae}(he:s.heap.get? e=some oe)(hc:oe.cls=cls)(hs:subIn W.K cls (.type "AttributeError")=some false) {Q:Unit->ah->Prop} {E:ae->ah->Prop} (h:Q () s):
  wpAny W.M A (noteIf true o nm (.ref e)) Q E s:=by
 have L:Looks W.M s.heap (isInstance (.ref e) (.type "AttributeError")) false:=((Looks.ld (part:=none) he).andThen .now).andThen (by rw[hc];exact looks_subIn (I.kin O) hs)
 have L2:Looks W.M s.heap (lacksNameAndObj (.ref e)) false:=by
  intro A Q E s' k q
  unfold lacksNameAndObj
  refine aJ ((L.keeps k).here ?_)
  exact bk q
 show wpAny W.M A (noteAttr (.ref e) o nm) Q E s
 unfold noteAttr
 refine aJ (L2.here ?_)
 exact bk h
theorem HS(O:aZ W)(hatt:∀c,subIn W.K (W.excA c) (.type "AttributeError")=some false) {a:Str} {p fget:Addr} {rest:List ae} (ha:findIn W.K (.ref (W.clsA c)) a=some (some (.ref p))) (hn:specialIn W.K (.ref p) "__get__" =some (some (.builtin "property.__get__"))) (ht:takesIn W.K (.ref p)=some true)
  (hp:recIn W.K p "property" =some (.ref fget::rest)) {fs:List (Str×PV)} {r:Res PV} (hK:ge W n (.ref fget) [.inst c fs] r) {va:ae} (R:Ready W X A l s) (ra:Rep W X s.heap va (.inst c fs)):SC W X l (RV W X) (n+1) A (getAttr va a true) s r:=λhne hd hu Q E F=>by
 refine ra.instE λx d es k zq4 e1 e2 n1 n2 fl=> ?_;subst zq4
 have I:=R.inv
 refine ay (O.cd c) λcd hcd hhd=> ?_
 refine get_bind (I.kin O) (kN e1 e2) (O.ga c) (findObj_data (by rw[hcd];rfl) ha hn ht) (plainGet_of (O.pget c)).2 (jz (prop_get (s:={s with toks:=s.toks+1}) ((After.tok (X:=X) (tk:=s.toks+1) I).inv.kin O) hp ?_))
 have af:After W X s {s with toks:=s.toks+1}:=After.tok I
 have R':Ready W X A.in1 l {s with toks:=s.toks+1}:=(R.after af).in1
 refine codeAny_mono (hK A.in1 l _ X [.ref x] R' (.cons (af.rep ra) .nil) hne (by show A.depth+n<=900;exact dz ‹_›) (by show A.units+1+10*n<=9000;exact lI ‹_› (by rfl)) (λv s' =>wpAny W.M A (handedOut v) Q E s') (λe s' =>wpAny W.M A (noteIf true (.ref x) (.str a s.toks) e) (λø s'' =>E e s'') E s') ⟨λv q s' e a' rq=> ?_,λe c s' hr fl' => ?_⟩) (λr s' z=> ?_)
 ·show wpAny W.M A (handedOut v) Q E s'
  rw[handedOut_of (yt rq)]
  exact bk (F.1 v q s' e (af.trans a') rq)
 ·obtain⟨zn1,h5⟩:=id fl'
  refine mU zn1 λB a0 h1 h12 hs h2 h3 h4=> ?_
  refine ay h4.there λoe he hc=> ?_
  exact HR O fl'.after.inv he hc (hatt c) (F.2 e c s' hr (fl'.before af))
 ·rcases r with e|(v|_|_|_)<;>first|exact z|exact z.elim
end
end
section
noncomputable def nN:aC:=(aT (an (ag 12) 1)).headD default
noncomputable def HT(st:aC):ai:=match st with
 | .Return e _=>e.getD default
 |_=>default
noncomputable def HU(e:ai):ai:=match e with
 | .BoolOp _ vs _=>(vs[1]?).getD default
 |_=>default
noncomputable def lX:ai:=HU (HT nN)
theorem HV:∃tp ap cp tp' bp cp' cpos bpos rpos,nN= .Return (some (.BoolOp .And [.Compare (.Call (.Name (aa "type") tp) [.Name (aa "self") ap] [] cp) [.Is] [.Call (.Name (aa "type") tp') [.Name (aa "other") bp] [] cp'] cpos,lX] bpos)) rpos:=⟨_,_,_,_,_,_,_,_,_,rfl⟩
noncomputable def nO(v:PV):Option aY:=match v with
 | .inst c _=>some c
 |_=>none
theorem y5{v:PV}{c:aY}(h:nO v=some c):∃fs,v= .inst c fs:=by
 cases v with
 |inst d fs=>obtain rfl:=aq h;exact⟨fs,rfl⟩
 |_=>exact am h
noncomputable def HW(E:Ev)(sc:Scope)(ρ:ak)(c d:Option aY):aB:=match c with
 |none=> .stuck
 |some c=>match d with
  |none=> .stuck
  |some d=>if c=d then aW (E.ev sc lX ρ) ρ λv=> .ret v else .ret (.bool false)
open Classical in
noncomputable def nQ(E:Ev):Scope->aC->ak->aB:=λsc st ρ=>
 if st=nN/\ cj sc (aa "type")=true then HW E sc ρ ((ρ.lookup (aa "self")).bind nO) ((ρ.lookup (aa "other")).bind nO)else .stuck
section
variable{g:Bool}{W:Wd}{X:Addr->Prop}{A:aA}{s:ah}{l:List av}{n:Nat}{sc:Scope}{env:av}{ρ:ak}{E₀:Ev}
theorem HX(O:aZ W):W.clsA .tup≠W.clsA .bas:=λe=>by
 have h1:=O.kit .tup .tup
 have h2:=O.kit .tup .bas
 rw[<-e,h1]at h2
 cases aq h2
set_option tactic.hygienic true in
theorem y6(O:aZ W)(I:Inv W s)(c:aY):∃o cd,s.heap.get? (W.clsA c)=some o/\ o.data= .cls cd:=by
 refine ay (O.cd c) λcd hc ø=> ?_
 unfold clsIn at hc
 split at hc
 ·rename_i c' d' cd' sl ho
  exact⟨_,cd',I.kin O _ _ ho,rfl⟩
 ·exact am hc
theorem HY(O:aZ W)(I:Inv W s){c d:aY}{Q E:ae->ah->Prop}(h:Q (.bool (c==d)) s):wpAny W.M A (compareOp .Is (.ref (W.clsA c)) (.ref (W.clsA d))) Q E s:=by
 show wpAny W.M A (do return ae.bool (<-isSame (.ref (W.clsA c)) (.ref (W.clsA d)))) Q E s
 by_cases e:c=d
 ·subst e
  have h:Q (.bool true) s:=by simpa using h
  exact aJ (wpAny_isSame_ref_self (bk h))
 ·have e1:W.clsA c≠W.clsA d:=λz=>by
   have:=HX O
   cases c<;>cases d<;>first|exact e rfl|exact this z|exact this z.symm
  have e2:(c==d)=false:=by cases c<;>cases d<;>first|rfl|exact absurd rfl e
  rw[e2]at h
  refine dX (y6 O I c) λoc cc h1 h2=> ?_
  refine dX (y6 O I d) λod cd h3 h4=> ?_
  unfold isSame
  refine aJ ?_
  dsimp only
  rw[if_neg (by simpa using e1)]
  refine aJ (wpAny_load h1 (aJ (wpAny_load h3 ?_)))
  split
  ·rename_i q1 q2
   rw[h2]at q1;cases q1
  ·exact bk (bk h)
theorem y7(O:aZ W)(H:Here g W X A l s sc env ρ){a:Str}{p q pos:ax}{c:aY}{fs:List (Str×PV)}(hg:cj sc (aa "type")=true) (ha:ρ.lookup a=some (.inst c fs)) (hd:a≠aa "__debug__") {Q E:ae->ah->Prop} (h:Q (.ref (W.clsA c)) s):
  wpAny W.M A (eval (.Call (.Name (aa "type") p) [.Name a q] [] pos) env) Q E s:=by
 refine dN H.loc λø m hn hl=> ?_
 refine ay (hl a _ ha) λw e1 e2=> ?_
 refine gF rfl ?_
 rw[dY pos (show bv [jx a q]=true from rfl)]
 refine kO O H (ja H hg) (by decide+kernel) (O.nogl _ (by simp[blt])) ((O.mbv _ (by decide+kernel)).trans (by kernel_rfl:bootBuiltins "type" =some (.type "type"))) ?_
 refine gu (W:=W) "type" A E s pos [] _ Q rfl (Calls.evalArgs_plain (Calls.spliced_cons ?_))
 refine dT (dM H.envk.scope (H.envk.names _ _ (H.kinds a _ ha) (by decide) (by decide)) hn e1 ?_) (gv hd)
 cases e2 with
 | @inst x d _ es k _ h1 h2 n1 n2 fl=>exact Calls.spliced_nil ⟨H.ready.inv,kto_own (kN h1 h2) h⟩
theorem HZ(hE:aN g W n E₀):fD g W n (nQ E₀):=λK sc st X C A l sf env ρ s B a hne hd hu Q E F=>by
 unfold nQ at hne F
 by_cases hc:st=nN/\ cj sc (aa "type")=true
 ·rw[if_pos hc]at hne F
  refine xA hc λzq0 hg=> ?_;subst zq0
  cases e1:(ρ.lookup (aa "self")).bind nO with
  |none=>rw[e1]at hne;exact absurd rfl hne
  |some c=>
   cases e2:(ρ.lookup (aa "other")).bind nO with
   |none=>rw[e1,e2]at hne;exact absurd rfl hne
   |some d=>
    rw[e1,e2]at hne F
    have hne:(if c=d then aW (E₀.ev sc lX ρ) ρ λv=> .ret v else .ret (.bool false))≠aB.stuck:=hne
    have F:cR K W X C l sf sc (if c=d then aW (E₀.ev sc lX ρ) ρ λv=> .ret v else .ret (.bool false)) Q E:=F
    refine bl e1 λv1 z1 e1=> ?_
    refine bl e2 λv2 z2 e2=> ?_
    refine xE (y5 e1) λfs zq1=> ?_;subst zq1
    refine xE (y5 e2) λgs zq1=> ?_;subst zq1
    have H:=B.here a
    have O:=B.O
    refine DV HV λtp ap cp tp' bp cp' cpos bpos rpos ef=> ?_
    rw[ef]
    refine iy (BoolOp_and (Dt (hm:=rfl) (y7 O H hg z1 (by decide+kernel) (y7 O H hg z2 (by decide+kernel) (HY O H.ready.inv (iF ?_))))))
    by_cases q:c=d
    ·subst q
     rw[if_pos rfl]at hne F
     rw[show(c==c)=true by cases c<;>rfl,if_pos rfl]
     exact BoolOp_one ((hE.1 sc lX X A l s env ρ H).sstep a B.sol hne hd hu F λvb b s₁ ø af a₁ rb ne1 F1=>F1.ret vb b s₁ rfl a₁.M rb)
    ·have e2:(c==d)=false:=by cases c<;>cases d<;>first|rfl|exact absurd rfl q
     rw[if_neg q]at F
     rw[e2,if_neg kq]
     exact F.ret _ _ s rfl a.M (.bool false)
 ·rw[if_neg hc]at hne;exact absurd rfl hne
theorem H0(O:aZ W){f:Addr}(hs:∀c,findIn W.K (.ref (W.clsA c)) "__eq__" =some (some (.ref f))) (hf:typeIn W.K (.ref f)=some (.type "function")) (hfirst:∀c d,notFirst W.K (W.clsA c) (.ref (W.clsA d))=true) {c d:aY} {fs gs:List (Str×PV)} {r:Res PV} (hb:∀v,r= .ok v->∃b,v= .bool b)
  (hK:ge W n (.ref f) [.inst c fs, .inst d gs] r) {va vb:ae} (R:Ready W X A l s) (ra:Rep W X s.heap va (.inst c fs)) (rb:Rep W X s.heap vb (.inst d gs)):SC W X l (RV W X) n A (compareOp .Eq va vb) s r:=λhne hd hu Q E F=>by
 have KI:=R.inv.kin O
 refine ra.instE λx dx es k zq4 e1 e2 n1 n2 fl=> ?_;subst zq4
 refine rb.instE λy dy es' k' zq4 e3 e4 n3 n4 fl' => ?_;subst zq4
 have IA:=kN e1 e2
 have one:wpAny W.M A (tryCompare (.ref x) (cmpInfo .Eq).2.1 (.ref y)) (λr s' =>∃v,r=some v/\ Q v s') E s:=by
  unfold tryCompare
  refine aJ (ifBound_K KI IA (hs c) (beq_iff_eq.mpr hf) (jz (codeAny_mono (hK A l s X [.ref x, .ref y] R (.cons ra (.cons rb .nil)) hne hd hu (λv s' =>∃b,v= .bool b/\ Q v s') E ⟨λv p s' e af rv=> ?_,λe c' s' h fl=>F.2 e c' s' h fl⟩) λr s' z=> ?_)))
  ·refine xE (hb p e) λb zq1=> ?_;subst zq1
   have q:=F.1 v _ s' e af rv
   obtain rfl:=rv.boolI
   exact⟨b,rfl,q⟩
  ·rcases r with e|(v|_|_|_)<;>first|exact z|exact z.elim|skip
   refine ay z λb zq1 z=> ?_;subst zq1
   exact bk ⟨_,rfl,z⟩
 have hc:A.units<cLine:=bU (bf _ 65) (jM (aj (bf _ _) ‹_›))
 show wpAny W.M A (richCompare .Eq (.ref x) (.ref y)) Q E s
 unfold richCompare
 simp only[oneThing_ref]
 refine iV (aJ (wpAny_cRoomFor hc ?_))
 refine aJ (IA.type.here (aJ ((kN e3 e4).type.here ?_)))
 have done:∀{t:Option ae->Sem ae},(∀v s',Q v s'->wpAny W.M A (t (some v)) Q E s')->wpAny W.M A (tryCompare (.ref x) (cmpInfo .Eq).2.1 (.ref y)>>=t) Q E s:=λht=>
  aJ (fQ one (λr s' z=>by obtain⟨v,rfl,q⟩:=z;exact ht v s' q) λø ø z=>z)
 split
 ·rename_i q
  have e:subIn W.K (.ref (W.clsA d)) (.ref (W.clsA c))=some false:=by
   refine cr (Bool.or_eq_true_iff.mp (hfirst c d)) (λe=> ?_) (λe=> ?_)
   ·rw[beq_iff_eq.mp e]at q;simp at q
   ·exact beq_iff_eq.mp e
  refine aJ ((looks_subIn KI e).here ?_)
  simp only[oW,if_false]
  exact done λv s' z=>bk z
 ·refine aJ (bk ?_)
  simp only[oW,if_false]
  exact done λv s' z=>bk z
end
end
section
noncomputable def iH(f:List (List Nat))(c:Nat):List (List Nat):=f.dropLast++[f.getLastD []++[c]]
noncomputable def dF(d:Int)(c:Nat):Int:=if c=40 then d+1 else if c=41 then d-1 else d
noncomputable def cS(p:List (List Nat)×Int)(c:Nat):List (List Nat)×Int:=
 let d:=dF p.2 c
 (if c=44/\ d=0 then p.1++[[]]else iH p.1 c,d)
noncomputable def cE(x:List Nat):List (List Nat):=(x.foldl cS ([[]],0)).1
inductive dG:List ae->List (List Nat)->Prop
 |nil:dG [] []
 |cons {y:Str} {k:bE} {vs:List ae} {f:List (List Nat)}:dG vs f->dG (.str y k::vs) (ao y::f)
theorem dG.reps{W:Wd}{X:Addr->Prop}{h:Heap}{vs:List ae}{f:List (List Nat)}(r:dG vs f):a8 W X h vs (f.map .str):=by
 induction r with
 |nil=>exact .nil
 |cons _ ih=>exact .cons (.str _ _) ih
theorem dG.len{vs:List ae}{f:List (List Nat)}(r:dG vs f):vs.length=f.length:=by
 induction r with
 |nil=>rfl
 |cons _ ih=>exact congrArg (· +1) ih
theorem dG.push{y:Str}{k:bE}{vs:List ae}{f:List (List Nat)}(r:dG vs f):dG (vs++[.str y k]) (f++[ao y]):=by
 induction r with
 |nil=>exact .cons .nil
 |cons _ ih=>exact .cons ih
theorem dG.last{vs:List ae}{f:List (List Nat)}(r:dG vs f)(h:f≠[]):∃ws y k,vs=ws++[.str y k]/\ dG ws f.dropLast/\ f.getLastD []=ao y:=by
 induction r with
 |nil=>exact absurd rfl h
 | @cons y k vs f r ih=>
  cases f with
  |nil=>
   cases r
   exact⟨[],y,k,rfl, .nil,rfl⟩
  |cons z f=>
   refine gH (ih (λq=>List.cons_ne_nil _ _ q)) λws z' k' e t l=> ?_
   exact⟨.str y k::ws,z',k',by rw[e];rfl, .cons t,l⟩
section
variable{W:Wd}{X:Addr->Prop}{A:aA}{s:ah}{env:av}{Q:Bool->ah->Prop}{E:ae->ah->Prop}
theorem ue{m:Str->Option ae}{nm x y:Str}{u:bE}{p1 p2 p3:ax}{k:Nat}{wh:Sem ae}(hk:env.scope.kind= .function)(hl:env.kindOf nm=some .local)(hd:(nm==("__debug__" :Str))=false) (hn:s.heap.Ns env.locals m) (hv:m nm=some (.str x u)) (hu:A.units<=9000)
  (h:Q (ao x==ao y) {s with toks:=s.toks+1}):wpAny W.M A (isTrue (.Compare (.Name nm p1) [.Eq] [.Constant (.str y) k p2] p3) env wh) Q E s:=
 oU (hm:=rfl) (dT (dM hk hl hn hv (kn (kM (W:=W) (X:=λø=>False) (op:= .Eq) (a:= .str (ao x)) (b:= .str (ao y)) rfl (.str x u) (.str y _) hu (iF h)))) hd)
theorem H5{m:Str->Option ae}{nm:Str}{i j:Int}{u:bE}{p1 p2 p3:ax}{k:Nat}{wh:Sem ae}(hk:env.scope.kind= .function)(hl:env.kindOf nm=some .local)(hd:(nm==("__debug__" :Str))=false) (hn:s.heap.Ns env.locals m) (hv:m nm=some (.int i u)) (hu:A.units<=9000)
  (h:Q (i==j) {s with toks:=s.toks+1}):wpAny W.M A (isTrue (.Compare (.Name nm p1) [.Eq] [.Constant (.int j) k p2] p3) env wh) Q E s:=
 oU (hm:=rfl) (dT (dM hk hl hn hv (d8 (kM (W:=W) (X:=λø=>False) (op:= .Eq) (a:= .int i) (b:= .int j) rfl (.int i u) (.int j _) hu (iF h)))) hd)
theorem H6{x:Str}{t:bE}{Q E:ae->ah->Prop}(h:∀o St,(∀A':aA,A'.handled=none->Walks iu W.w A' s.heap.objs.size [s.heap.objs.size] [s.heap.objs.size] x.cps.size (SignAt x) St)->St 0 (s.heap.push o)->
  (∀i h',St i h'->∃o,h'.get? s.heap.objs.size=some o)->Q (.ref s.heap.objs.size) {s with heap:=s.heap.push o}):wpAny W.M A (pyIter (.str x t)) Q E s:=by
 cases ha:x.cps.all (· <128)
 ·exact wpAny_pyIter_wide ha (h _ (λi h' =>h'.IsStrIter s.heap.objs.size "str_iterator" x t i) (λA' hA=>Walks.strWide hA _ x t) ⟨_,et _ rfl,rfl,rfl⟩ λi h' st=>let ⟨o,h1,_⟩:=st;⟨o,h1⟩)
 ·exact wpAny_pyIter_ascii ha (h _ (λi h' =>h'.IsStrIter s.heap.objs.size "str_ascii_iterator" x t i) (λA' hA=>Walks.strAscii hA _ x t) ⟨_,et _ rfl,rfl,rfl⟩ λi h' st=>let ⟨o,h1,_⟩:=st;⟨o,h1⟩)
end
section
variable{W:Wd}{X:Addr->Prop}{A:aA}{env:av}{hh:Heap}{C F:Addr}
structure kU(env:av)(C:Addr):Prop where
 kind:env.scope.kind= .function
 locals:env.locals=C
 found:env.kindOf (aa "found")=some .local
 depth:env.kindOf (aa "depth")=some .local
 sign:env.kindOf (aa "sign")=some .local
theorem H7(P:kU env C):(env.scope.kind== .class||(env.scope.kind== .module&&env.locals !=env.globals))=false:=by rw[P.kind];rfl
theorem pV{s:ah}{m:Str->Option ae}{news:List (Addr×Obj)}(P:kU env C)(Fr0:Fr hh C s.heap m)(N:eL hh C s.heap news){x:Str}(hx:env.kindOf x=some .local){v:ae}{Q:Unit->ah->Prop}{E:ae->ah->Prop}
  (h:∀h',Fr hh C h' (λy=>if y=x then some v else m y)->eL hh C h' news->(∀b o,b≠C->s.heap.get? b=some o->h'.get? b=some o)->Q () {s with heap:=h',toks:=s.toks+1}):wpAny W.M A (storeName env x v) Q E s:=by
 refine lC hx (by rw[P.locals];exact Fr0.ns) (λh' hn hs=> ?_) (H7 P)
 rw[P.locals]at hn hs
 exact h h' (Fr0.set hn hs) (N.set hs) λb o hb e=>(hs.2 b hb).trans e
theorem H8:ao (aa "(")=[40]:=by decide+kernel
theorem H9:ao (aa ")")=[41]:=by decide+kernel
theorem y8:ao (aa ",")=[44]:=by decide+kernel
theorem y9:ao (aa "")=[]:=by decide+kernel
noncomputable def H':List ax:=[⟨234,4,234,9⟩,⟨234,13,234,15⟩,⟨234,12,234,16⟩,⟨234,4,234,16⟩,⟨235,4,235,9⟩,⟨235,12,235,13⟩,⟨235,4,235,13⟩,⟨236,8,236,12⟩,⟨236,16,236,20⟩,⟨236,4,244,40⟩,⟨237,11,237,15⟩,⟨237,19,237,22⟩,⟨237,11,237,22⟩,⟨238,12,238,17⟩,⟨238,21,238,22⟩,⟨238,12,238,22⟩,⟨237,8,240,22⟩,⟨239,13,239,17⟩,⟨239,21,239,24⟩,⟨239,13,239,24⟩,⟨240,12,240,17⟩,⟨240,21,240,22⟩,⟨240,12,240,22⟩,⟨239,8,240,22⟩,⟨241,11,241,15⟩,⟨241,19,241,22⟩,⟨241,11,241,22⟩,⟨241,27,241,32⟩,⟨241,36,241,37⟩,⟨241,27,241,37⟩,⟨241,11,241,37⟩,⟨242,12,242,17⟩,⟨242,12,242,24⟩,⟨242,25,242,27⟩,⟨242,12,242,28⟩,⟨242,12,242,28⟩,⟨244,12,244,17⟩,⟨244,19,244,20⟩,⟨244,18,244,20⟩,⟨244,12,244,21⟩,⟨244,24,244,29⟩,⟨244,31,244,32⟩,⟨244,30,244,32⟩,⟨244,24,244,33⟩,⟨244,36,244,40⟩,⟨244,24,244,40⟩,⟨244,12,244,40⟩,⟨241,8,244,40⟩,⟨245,11,245,16⟩,⟨245,4,245,16⟩]
noncomputable def pP(n:Nat):ax:=H'.getD n default
noncomputable abbrev uf:aC:=
 .If (.Compare (.Name (aa "sign") (pP 10)) [.Eq] [.Constant (.str (aa "(")) 0 (pP 11)] (pP 12)) [.AugAssign (.Name (aa "depth") (pP 13)) .Add (.Constant (.int 1) 0 (pP 14)) (pP 15)]
  [.If (.Compare (.Name (aa "sign") (pP 17)) [.Eq] [.Constant (.str (aa ")")) 0 (pP 18)] (pP 19)) [.AugAssign (.Name (aa "depth") (pP 20)) .Sub (.Constant (.int 1) 0 (pP 21)) (pP 22)] [] (pP 23)] (pP 16)
theorem Ia{s:ah}{m:Str->Option ae}{news:List (Addr×Obj)}(P:kU env C)(Fr0:Fr hh C s.heap m)(N:eL hh C s.heap news){c:Nat}{u t:bE}{d:Int}(hs:m (aa "sign")=some (.str ⟨#[c]⟩ u)) (hd:m (aa "depth")=some (.int d t)) (hu:A.units<=9000)
  {Q:cO->ah->Prop} {E:ae->ah->Prop}
  (h:∀h' tk t' m',Fr hh C h' m'->eL hh C h' news->(∀b o,b≠C->s.heap.get? b=some o->h'.get? b=some o)->m' (aa "depth")=some (.int (dF d c) t')->(∀y,y≠aa "depth" ->m' y=m y)->Q .next {s with heap:=h',toks:=tk}):
  wpAny W.M A (exec uf env) Q E s:=by
 have aug:∀(Q':cO->ah->Prop),(∀s',Q .next s'->Q' .next s')->∀{op:mH} {f:Int->Int} {s₁:ah} {p1 p2 p3:ax} {k:Nat},s₁.heap=s.heap->s₁={s with toks:=s₁.toks}->f d=dF d c->(∀(Q E:ae->ah->Prop) (s:ah) (t u:bE),Q (.int (f d) s.toks) {s with toks:=s.toks+1}->wpAny W.M A (inplaceOp op (.int d t) (.int 1 u)) Q E s)->
   wpAny W.M A (execs [.AugAssign (.Name (aa "depth") p1) op (.Constant (.int 1) k p2) p3] env) Q' E s₁:=λQ' hQ {op f s₁ p1 p2 p3 k} e e' hf hop=>by
  have F1:Fr hh C s₁.heap m:=e▸Fr0
  have N1:eL hh C s₁.heap news:=e▸N
  refine bW (wpAny_AugAssign_Name (dM P.kind P.depth (by rw[P.locals];exact F1.ns) hd (d8 (hop _ _ _ _ _ ?_))))
  refine pV (s:={{s₁ with toks:=s₁.toks+1}with toks:=s₁.toks+1+1}) P F1 N1 P.depth λh' F' N' k=> ?_
  have:=h h' (s₁.toks+1+1+1) (s₁.toks+1) _ F' N' (λb o hb q=>k b o hb (by show s₁.heap.get? b=_;rw[e];exact q)) (by rw[if_pos rfl,hf]) (λy hy=>if_neg hy)
  refine dW (hQ _ ?_)
  rw[e']
  exact this
 refine jA (ue P.kind P.sign (by decide+kernel) (by rw[P.locals];exact Fr0.ns) hs hu ?_)
 rw[H8,show ao (⟨#[c]⟩:Str)=[c]from rfl]
 by_cases h1:c=40
 ·rw[show(([c]:List Nat)==[40])=true by rw[h1];rfl,if_pos rfl]
  exact aug Q (λø z=>z) (f:=λd=>d+1) rfl rfl (by show d+1=_;rw[dF,if_pos h1]) (λQ E s t u q=>yW Q E s d t 1 u q)
 ·rw[show(([c]:List Nat)==[40])=false by simp[h1],if_neg (by simp)]
  refine bW (jA (ue P.kind P.sign (by decide+kernel) (by rw[P.locals];exact Fr0.ns) hs hu ?_))
  rw[H9,show ao (⟨#[c]⟩:Str)=[c]from rfl]
  by_cases h2:c=41
  ·rw[show(([c]:List Nat)==[41])=true by rw[h2];rfl,if_pos rfl]
   exact aug _ (λø z=>dW z) (f:=λd=>d-1) rfl rfl (by show d-1=_;rw[dF,if_neg h1,if_pos h2]) (λQ E s t u q=>yX Q E s d t 1 u q)
  ·rw[show(([c]:List Nat)==[41])=false by simp[h2],if_neg (by simp)]
   refine dW (dW ?_)
   exact h s.heap _ t m Fr0 N (λb o ø e=>e) (by rw[hd,dF,if_neg h1,if_neg h2]) λy hy=>rfl
end
end
section
section
variable{W:Wd}{X:Addr->Prop}{A:aA}{env:av}{hh:Heap}{C F:Addr}
noncomputable abbrev ug:aC:=
 .If (.BoolOp .And [.Compare (.Name (aa "sign") (pP 24)) [.Eq] [.Constant (.str (aa ",")) 0 (pP 25)] (pP 26), .Compare (.Name (aa "depth") (pP 27)) [.Eq] [.Constant (.int 0) 0 (pP 28)] (pP 29)] (pP 30))
  [.Expr (.Call (.Attribute (.Name (aa "found") (pP 31)) (aa "append") (pP 32)) [.Constant (.str (aa "")) 0 (pP 33)] [] (pP 34)) (pP 35)]
  [.Assign [.Subscript (.Name (aa "found") (pP 36)) (.UnaryOp .USub (.Constant (.int 1) 0 (pP 37)) (pP 38)) (pP 39)] (.BinOp (.Subscript (.Name (aa "found") (pP 40)) (.UnaryOp .USub (.Constant (.int 1) 0 (pP 41)) (pP 42)) (pP 43)) .Add (.Name (aa "sign") (pP 44)) (pP 45)) (pP 46)] (pP 47)
theorem za(v w:ae):∀ws:List ae,ki_setL (ws++[w]) ws.length v=some (ws++[v])
 |[]=>rfl
 |x::r=>by
  show(match ki_setL (r++[w]) r.length v with|some q=>some (x::q)|none=>none)=_
  rw[za v w r];rfl
theorem Ib{s:ah}{m:Str->Option ae}{ext:List (Addr×Obj)}{vs:List ae}{f:List (List Nat)}{n:Nat}(P:kU env C)(Fr0:Fr hh C s.heap m)(N:eL hh C s.heap ((F,listOf vs.toArray n)::ext))(hext:∀p∈ext,p.1≠F)(T:dG vs f)(hf:f≠[])
  {c:Nat} {u t:bE} {d:Int} (hs:m (aa "sign")=some (.str ⟨#[c]⟩ u)) (hd:m (aa "depth")=some (.int d t)) (hF:m (aa "found")=some (.ref F)) (hu:A.units<=9000) (hlen:f.length<=2^22) (hls:∀x∈f,x.length<=2^22) 
  {Q:cO->ah->Prop} {E:ae->ah->Prop}
  (h:∀h' tk n' vs',Fr hh C h' m->eL hh C h' ((F,listOf vs'.toArray n')::ext)->dG vs' (if c=44/\ d=0 then f++[[]]else iH f c)->Q .next {s with heap:=h',toks:=tk}):
  wpAny W.M A (exec ug env) Q E s:=by
 have z22:(2:Nat)^22=4194304:=by decide
 have hsl:sizeLine=16777216:=by first|exact mM|decide+kernel
 have nin:interactive env=false:=by unfold interactive;rw[P.kind];rfl
 have hnz:∀{h:Heap},Fr hh C h m->h.Ns env.locals m:=λF' =>by rw[P.locals];exact F'.ns
 refine jA ?_
 have test:∀(Q':Bool->ah->Prop),(∀tk,Q' (decide (c=44/\ d=0)) {s with toks:=tk})->wpAny W.M A (isTrue (.BoolOp .And [.Compare (.Name (aa "sign") (pP 24)) [.Eq] [.Constant (.str (aa ",")) 0 (pP 25)] (pP 26), .Compare (.Name (aa "depth") (pP 27)) [.Eq] [.Constant (.int 0) 0 (pP 28)] (pP 29)] (pP 30)) env (eval (.BoolOp .And [.Compare (.Name (aa "sign") (pP 24)) [.Eq] [.Constant (.str (aa ",")) 0 (pP 25)] (pP 26), .Compare (.Name (aa "depth") (pP 27)) [.Eq] [.Constant (.int 0) 0 (pP 28)] (pP 29)] (pP 30)) env)) Q' E s:=λQ' hQ=>by
  refine isTrue_and (ue P.kind P.sign (by decide+kernel) (hnz Fr0) hs hu ?_)
  rw[y8,show ao (⟨#[c]⟩:Str)=[c]from rfl]
  by_cases h1:c=44
  ·rw[show(([c]:List Nat)==[44])=true by rw[h1];rfl,if_pos rfl]
   refine isTrue_and (H5 P.kind P.depth (by decide+kernel) (hnz Fr0) hd hu ?_)
   by_cases h2:d=0
   ·rw[show(d==0)=true by rw[h2];rfl,if_pos rfl]
    refine isTrue_and_nil ?_
    have:=hQ (s.toks+1+1)
    rwa [show decide (c=44/\ d=0)=true by simp[h1,h2]]at this
   ·rw[show(d==0)=false by simpa using h2,if_neg (by decide)]
    have:=hQ (s.toks+1+1)
    rwa [show decide (c=44/\ d=0)=false by simp[h2]]at this
  ·rw[show(([c]:List Nat)==[44])=false by simp[h1],if_neg (by decide)]
   have:=hQ (s.toks+1)
   rwa [show decide (c=44/\ d=0)=false by simp[h1]]at this
 refine test _ λtk=> ?_
 have F1:Fr hh C ({s with toks:=tk}:ah).heap m:=Fr0
 have N1:eL hh C ({s with toks:=tk}:ah).heap ((F,listOf vs.toArray n)::ext):=N
 by_cases hc:c=44/\ d=0
 ·rw[show decide (c=44/\ d=0)=true by simp[hc],if_pos rfl]
  refine bW (wv (hi:=nin) (pM rfl rfl (by decide) (by decide+kernel) (dT (dM P.kind P.found (hnz F1) hF λpl=> ?_) (by decide+kernel))))
  refine listMethod_K N1 (.head _) PySem.F.slot_list_append PySem.F.type_list_append ?_
  refine Calls.callWith_builtin rfl (Calls.evalArgs_plain (Calls.spliced_cons (kn (Calls.spliced_nil ?_))))
  refine append_K (s:={s with toks:=tk+1}) F1 N1 (.head hext) (λh' F' N' => ?_) (by rw[oS,T.len,hsl];exact aL ‹_› (by rfl))
  refine dW ?_
  have:=h h' (tk+1) (n+1) (vs++[.str (aa "") tk]) F' (by simpa using N') (by rw[if_pos hc];have:=T.push (y:=aa "") (k:=tk);rwa [y9]at this)
  exact this
 ·rw[show decide (c=44/\ d=0)=false by simp[hc],if_neg (by decide)]
  refine gH (T.last hf) λws y k zq3 Tw hy=> ?_;subst zq3
  have hsz:(ws++[gG y k]).toArray.size=ws.length+1:=by simp
  have wl:ws.length+1<=2^22:=by have:=T.len;simp at this;exact kz ‹_› ‹_›
  have ly:y.length<=2^22:=by
   have:ao y∈f:=by
    rw[<-hy]
    cases f with
    |nil=>exact absurd rfl hf
    |cons a r=>rw[List.getLastD_cons,<-List.getLast_eq_getLastD];exact List.getLast_mem (by simp)
   rw[<-b7];exact hls _ this
  have hL:∀{s':ah},s'.heap=s.heap->s'.heap.IsList F (ws++[gG y k]).toArray:=λ{s'} e=>by rw[e];exact PySem.IsL.isList (n:=n) (N _ (.head _)).1
  refine bW (wpAny_Assign_Subscript ?_ rfl)
  refine fU (oV (dT (dM P.kind P.found (hnz F1) hF ?_) (by decide+kernel)))
  refine wb (d8 (Dy ?_))
  refine jN (W:=W) (hL rfl).typeIs Df.lookup (wpAny_getItem_list_neg (hL rfl) (by decide) (by rw[hsz];exact wW (gB _)) (by decide) (x:= .str y k) ?_ ?_) rfl
  ·have:((-1:Int)+((ws++[gG y k]).toArray.size:Nat)).toNat=ws.length:=by rw[hsz];exact congrArg Int.toNat (z1 _)
   rw[this];simp
  refine dT (dM P.kind P.sign (hnz F1) hs ?_) (by decide+kernel)
  refine SB.add (λt' k' => ?_) (by rw[show(⟨#[c]⟩:Str).length=1 from rfl,hsl];exact fo ‹_› (by rfl))
  refine dT (dM P.kind P.found (hnz F1) hF ?_) (by decide+kernel)
  refine wb (d8 (Dy ?_))
  refine ki_setNeg (s:={s with toks:=k'+1+1}) F1 N1 (by decide) (by decide) (j:=ws.length) (by rw[hsz];exact sz ((if_pos (by decide)).trans (z1 _)) (gk _)) (q:=ws++[.str (y++⟨#[c]⟩) t']) (by rw[wz];exact za _ _ ws) (.head hext) λh' F' N' => ?_
  refine dW ?_
  have:=h h' (k'+1+1) n (ws++[.str (y++⟨#[c]⟩) t']) F' N' (by
   rw[if_neg hc]
   have:=Tw.push (y:=y++⟨#[c]⟩) (k:=t')
   rw[i9]at this
   unfold iH
   rw[hy]
   exact this)
  exact this
end
end
section
section
variable{W:Wd}{n:Nat}
noncomputable abbrev uh:List aC:=[.Assign [.Name (aa "found") (pP 0)] (.List [.Constant (.str (aa "")) 0 (pP 1)] (pP 2)) (pP 3), .Assign [.Name (aa "depth") (pP 4)] (.Constant (.int 0) 0 (pP 5)) (pP 6),
 .For (.Name (aa "sign") (pP 7)) (.Name (aa "text") (pP 8)) [uf,ug] [] (pP 9), .Return (some (.Name (aa "found") (pP 48))) (pP 49)]
noncomputable def dp(x:List Nat)(i:Nat):List (List Nat)×Int:=(x.take i).foldl cS ([[]],0)
theorem ui{x:List Nat}{i c:Nat}(h:x[i]? =some c):dp x (i+1)=cS (dp x i) c:=by
 unfold dp
 rw[wj,h]
 simp
theorem zb{x:List Nat}:(dp x x.length).1=cE x:=by unfold dp cE;rw[Dh]
theorem uj(x:List Nat):∀i,(dp x i).1≠[]/\ (dp x i).1.length<=i+1/\ ∀y∈(dp x i).1,y.length<=i
 |0=>by simp[dp]
 |i+1=>by
  refine bM (uj x i) λh1 h2 h3=> ?_
  cases e:x[i]? with
  |none=>
   have:dp x (i+1)=dp x i:=by unfold dp;rw[wj,e];simp
   rw[this];exact⟨h1,iW ‹_›,λy hy=>by have:=h3 y hy;exact iW ‹_›⟩
  |some c=>
   rw[ui e]
   unfold cS
   dsimp only
   split
   ·exact⟨by simp,by simp;omega,λy hy=>by
     refine cr (g8.mp hy) (λq=> ?_) (λq=> ?_)
     ·have:=h3 y q;exact iW ‹_›
     ·simp at q;subst q;simp⟩
   ·unfold iH
    refine⟨by simp,by simp;have:=h1;cases hp:(dp x i).1 with
     |nil=>exact absurd hp h1
     |cons a r=>rw[hp]at h2;simp at h2 ⊢;exact iW ‹_›,λy hy=> ?_⟩
    refine cr (g8.mp hy) (λq=> ?_) (λq=> ?_)
    ·have:=h3 y (PH _ q);exact iW ‹_›
    ·simp at q;subst q
     have:((dp x i).1.getLast?.getD []).length<=i:=by
      cases hp:(dp x i).1 with
      |nil=>exact absurd hp h1
      |cons a r=>
       rw[List.getLast?_cons,Option.getD_some]
       have:=h3 (r.getLast?.getD a) (by
        rw[hp]
        cases hr:r.getLast? with
        |none=>simp
        |some z=>simp;right;exact DH hr)
       exact this
     simp;exact‹_›
theorem uk{n j:Nat}(h:j<n):n+1-(j+1)<n+1-j:=o7 ‹_›
noncomputable def Ic(W:Wd)(A:aA)(x:ai)(it:ae)(b c:List aC)(env:av)(Q:cO->ah->Prop)(s:ah):Prop:=
 ∃I:Nat->ah->Prop,(∃n,I n s)/\ ∀n s',I n s'->∀E:ae->ah->Prop,wpAny W.M A (pyNext it) (λr s₁=>match r with
  |none=>wpAny W.M A (execs c env) Q E s₁
  |some v=>wpAny W.M A (assign x env v) (λø s₂=>wpAny W.M A (execs b env) (λf s₃=>match f with
   | .next| .cont=>∃m,m<n/\ I m s₃
   | .brk=>Q .next s₃
   | .ret v=>Q (.ret v) s₃) E s₂) E s₁) E s'
theorem zc{W:Wd}{A:aA}{x i:ai}{b c:List aC}{env:av}{p:ax}{s:ah}{Q:cO->ah->Prop}{E:ae->ah->Prop}(h:wpAny W.M A (eval i env) (λv s₁=>wpAny W.M A (pyIter v) (λit s₂=>Ic W A x it b c env Q s₂) E s₁) E s)
  (hs:∀v,foldedSetIterable i env v=pure v:=by intro ø;rfl) (ht:∀it v,letOwnedTupleGo x it v=pure ():=by intro ø ø;rfl):wpAny W.M A (exec (.For x i b c p) env) Q E s:=
 wpAny_For (hs:=hs) (fQ h (λø ø h₁=>fQ h₁ (λit ø h₂=>by
  obtain⟨I,⟨n,hn⟩,k⟩:=h₂
  refine codeAny_forLoop I (λn s hI=>fQ (k n s hI _) (λr s₁ h₁=> ?_) λø ø h=>h) n hn (ht it)
  cases r with
  |none=>exact h₁
  |some v=>exact h₁) λø ø h=>h) λø ø h=>h)
inductive zd(hh:Heap)(C F I₀:Addr)(St:Nat->Heap->Prop)(x:List Nat)(g:Array gC)(dr:Drawn)(os:iv)(k:Nat)(s':ah):Prop
 |mk (i:Nat) (h':Heap) (tk':Nat) (m':Str->Option ae) (vs':List ae) (n':Nat) (t':bE) (oI':Obj):s' =⟨h',g,dr,tk',os⟩->k=x.length+1-i->i<=x.length->Fr hh C h' m'->eL hh C h' [(F,listOf vs'.toArray n'),(I₀,oI')]->St i h'->dG vs' (dp x i).1->m' (aa "found")=some (.ref F)->m' (aa "depth")=some (.int (dp x i).2 t')->zd hh C F I₀ St x g dr os k s'
theorem Ie{env:av}{hh:Heap}{C F I₀:Addr}{A:aA}{St:Nat->Heap->Prop}{x:List Nat}{h4:Heap}{m':Str->Option ae}{vs':List ae}{n':Nat}{t' u:bE}{oI4:Obj}{g:Array gC}{dr:Drawn}{os:iv}{tk4 i c:Nat}(P:kU env C)(frame:∀j h h',St j h->(∀b∈[I₀],∀o,h.get? b=some o->h'.get? b=some o)->St j h')(cI:C≠I₀)(fI:F≠I₀)
  (F4:Fr hh C h4 m') (N4:eL hh C h4 [(F,listOf vs'.toArray n'),(I₀,oI4)]) (st4:St (i+1) h4) (T':dG vs' (dp x i).1) (mf:m' (aa "found")=some (.ref F)) (md:m' (aa "depth")=some (.int (dp x i).2 t')) (hc':x[i]? =some c) (hx:x.length<=aX) (hlt:i<x.length) (A1:A.units<=9000)
  {Q:cO->ah->Prop} {E E':ae->ah->Prop} (h:∀h7 tk7 m7 vs7 n7 t7,Fr hh C h7 m7->eL hh C h7 [(F,listOf vs7.toArray n7),(I₀,oI4)]->St (i+1) h7->dG vs7 (dp x (i+1)).1->m7 (aa "found")=some (.ref F)->m7 (aa "depth")=some (.int (dp x (i+1)).2 t7)->Q .next ⟨h7,g,dr,tk7,os⟩):
  wpAny W.M A (storeName env (aa "sign") (.str ⟨#[c]⟩ u)) (λø s=>wpAny W.M A (execs [uf,ug] env) Q E' s) E ⟨h4,g,dr,tk4,os⟩:=by
 have ht:=gt
 have hext4:∀p∈[(I₀,oI4)],p.1≠F:=λp hp=>by rw[dw]at hp;subst hp;exact cF fI
 refine pV (s:=⟨h4,g,dr,tk4,os⟩) P F4 N4 P.sign λh5 F5 N5 k5=> ?_
 have st5:St (i+1) h5:=frame _ _ _ st4 λb hb o e=>by
  rw[dw]at hb;subst hb
  exact k5 _ o (cF cI) e
 refine bW (Ia (s:=⟨h5,g,dr,tk4+1,os⟩) P F5 N5 (c:=c) (u:=u) (t:=t') (d:=(dp x i).2) (by rw[if_pos rfl]) (by rw[if_neg (by decide+kernel)];exact md) A1 λh6 tk6 t6' m6 F6 N6 k6 md6 mo6=> ?_)
 have st6:St (i+1) h6:=frame _ _ _ st5 λb hb o e=>by
  rw[dw]at hb;subst hb
  exact k6 _ o (cF cI) e
 refine bM (uj x i) λl1 l2 l3=> ?_
 have m6f:m6 (aa "found")=some (.ref F):=by rw[mo6 _ (by decide+kernel),if_neg (by decide+kernel)];exact mf
 refine bW (Ib (s:=⟨h6,g,dr,tk6,os⟩) P F6 N6 hext4 T' l1 (c:=c) (u:=u) (t:=t6') (d:=dF (dp x i).2 c) (by rw[mo6 _ (by decide+kernel),if_pos rfl]) md6 m6f A1 (aj l2 (aj hlt (aj hx (by decide+kernel)))) (λz hz=>aj (l3 z hz) (aj (dz hlt) (aj hx (by decide+kernel)))) λh7 tk7 n7 vs7 F7 N7 T7=> ?_)
 have st7:St (i+1) h7:=frame _ _ _ st6 λb hb o e=>by
  rw[dw]at hb;subst hb
  have e3:h6.get? b=some oI4:=((N6 (b,oI4) (.tail _ (.head _))).1)
  have e:h6.get? b=some o:=e
  rw[e]at e3;cases aq e3;exact((N7 (b,oI4) (.tail _ (.head _))).1)
 exact dW (h h7 tk7 m6 vs7 n7 t6' F7 N7 st7 (by rw[ui hc'];exact T7) m6f (by rw[ui hc'];exact md6))
theorem Ig{env:av}{hh:Heap}{C:Addr}{A:aA}{h₀:Heap}{y:Str}{ty:bE}{g:Array gC}{dr:Drawn}{os:iv}{tk:Nat}(P:kU env C)(htext:env.scope.names.lookup (aa "text")=some .local) (hfound:env.scope.names.lookup (aa "found")=some .local) (hdepth:env.scope.names.lookup (aa "depth")=some .local)
  (F0:Fr hh C h₀ (λz=>([(aa "text",gG y ty)]:List (Str×ae)).reverse.lookup z)) (nh:∀b,C<=b->hh.get? b=none) (ltC:C<h₀.objs.size) (hx:(ao y).length<=aX) (A1:A.units<=9000) (Hh:A.handled=none)
  {Q:cO->ah->Prop} {E:ae->ah->Prop} (h:∀F h4 tk4 vs n,(∀b o,hh.get? b=some o->h4.get? b=some o)->h4.get? F=some (listOf vs.toArray n)->hh.get? F=none->dG vs (cE (ao y))->Q (.ret (.ref F)) ⟨h4,g,dr,tk4,os⟩):
  wpAny W.M A (execs uh env) Q E ⟨h₀,g,dr,tk,os⟩:=by
 have zC:=P.locals
 subst zC
 have nC:hh.get? env.locals=none:=nh _ (bP _)
 refine bW (ix (hs:=rfl) (wpAny_List ?_))
 rw[dY (pP 2) (show bv [ai.Constant (.str (aa "")) 0 (pP 1)]=true from rfl)]
 refine Calls.spliced_cons (kn (Calls.spliced_nil ⟨by show 1<=sizeLine;decide+kernel,?_⟩))
 obtain⟨F,hF⟩:∃F,F=h₀.objs.size:=⟨_,rfl⟩
 have N1:eL hh env.locals (h₀.push (listOf [gG (aa "") tk].toArray 0)) [(F,listOf [gG (aa "") tk].toArray 0)]:=λp hp=>by
  rw[dw]at hp;subst hp
  exact⟨by rw[hF];exact et _ rfl,by rw[hF];exact mL ltC,nh _ (by rw[hF];exact dz ltC)⟩
 rw[<-hF]
 refine pV P (F0.push (listOf [gG (aa "") tk].toArray 0)) N1 hfound λh2 F2 N2 ø=> ?_
 refine bW (ix (hs:=rfl) (d8 (pV P F2 N2 hdepth λh3 F3 N3 ø=> ?_)))
 refine bW (zc (hs:=by intro ø;rfl) (dT (dM (v:= .str y ty) P.kind htext F3.ns (by
  rw[if_neg (by decide+kernel),if_neg (by decide+kernel)];rfl) ?_) (by decide+kernel)))
 refine H6 λoI St Wk st0 own=> ?_
 dsimp only at Wk st0 own ⊢
 obtain⟨I₀,hI⟩:∃I₀,I₀=h3.objs.size:=⟨_,rfl⟩
 rw[<-hI]at Wk own ⊢
 have hC3:env.locals<h3.objs.size:=by obtain⟨o,_,_,e,_⟩:=F3.ns;exact eK e
 have hF3:F<h3.objs.size:=eK (N3 _ (.head _)).1
 have cI:env.locals≠I₀:=by rw[hI];exact eT hC3
 have fI:F≠I₀:=by rw[hI];exact eT hF3
 have nI:hh.get? I₀=none:=nh _ (by rw[hI];exact dz hC3)
 have FC:F≠env.locals:=(N3 _ (.head _)).2.1
 have nF:hh.get? F=none:=(N3 _ (.head _)).2.2
 have lx:(ao y).length=y.cps.size:=by simp[ao]
 refine xE (own 0 _ st0) λoI0 eI0=> ?_
 obtain⟨m3,F3',mf3,t0,md3⟩:∃m3,Fr hh env.locals h3 m3/\ m3 (aa "found")=some (.ref F)/\ ∃t0,m3 (aa "depth")=some (.int 0 t0):=
  ⟨_,F3,by rw[if_neg (by decide+kernel),if_pos rfl],_,by rw[if_pos rfl]⟩
 obtain⟨vs0,n0,T0,N0⟩:∃vs0 n0,dG vs0 [[]]/\ eL hh env.locals h3 [(F,listOf vs0.toArray n0)]:=⟨_,_,by
  have:dG [gG (aa "") tk] [ao (aa "")]:= .cons .nil
  rw[y9]at this
  exact this,N3⟩
 refine⟨zd hh env.locals F I₀ St (ao y) g dr os,⟨_,⟨0,h3.push oI,_,m3,vs0,n0,t0,oI0,rfl,rfl,dR _,F3'.push oI,?_,st0,T0,mf3,md3⟩⟩,?_⟩
 rotate_left
 ·intro k s' zn1 E1
  obtain⟨i,h',tk',m',vs',n',t',oI',rfl,rfl,hi,F',N',st',T',mf,md⟩:=zn1
  have hext:∀p∈[(I₀,oI')],p.1≠F:=λp hp=>by rw[dw]at hp;subst hp;exact cF fI
  by_cases hlt:i<(ao y).length
  ·refine(Wk A Hh).item i ⟨h',g,dr,tk',os⟩ _ _ (by rw[<-lx];exact hlt) st' λv h4 tk4 hP st4 k4=> ?_
   refine dX hP λc u hc zq3=> ?_;subst zq3
   have hc':(ao y)[i]? =some c:=by simpa[ao] using hc
   refine xE (own _ _ st4) λoI4 eI4=> ?_
   have k4':∀b o,b≠I₀->h'.get? b=some o->h4.get? b=some o:=gI k4
   have F4:Fr hh env.locals h4 m':=⟨F'.ns.at' (λo e=>k4' _ o cI e),λb o e=>k4' b o (λq=>by rw[q,nI]at e;exact am e) (F'.keep b o e),F'.above⟩
   have N4:eL hh env.locals h4 [(F,listOf vs'.toArray n'),(I₀,oI4)]:=λp hp=>by
    simp only[bS,eX,or_false]at hp
    rcases hp with rfl|rfl
    ·exact⟨k4' _ _ fI (N' _ (.head _)).1,FC,nF⟩
    ·exact⟨eI4,cF cI,nI⟩
   exact ko (Ie P (Wk A Hh).frame cI fI F4 N4 st4 T' mf md hc' hx hlt A1 λh7 tk7 m7 vs7 n7 t7 q1 q2 q3 q4 q5 q6=>⟨(ao y).length+1-(i+1),uk hlt,i+1,h7,tk7,m7,vs7,n7,t7,oI4,rfl,rfl,hlt,q1,q2,q3,q4,q5,q6⟩)
  ·have:i=(ao y).length:=mX ‹_› ‹_›
   subst this
   refine(Wk A Hh).done ⟨h',g,dr,tk',os⟩ _ _ (by rw[<-lx];exact st') λh4 tk4 k4=> ?_
   have k4':∀b o,b≠I₀->h'.get? b=some o->h4.get? b=some o:=gI k4
   have F4:Fr hh env.locals h4 m':=⟨F'.ns.at' (λo e=>k4' _ o cI e),λb o e=>k4' b o (λq=>by rw[q,nI]at e;exact am e) (F'.keep b o e),F'.above⟩
   refine dW (bW (iy (dT (dM P.kind hfound F4.ns mf ?_) (by decide+kernel))))
   rw[zb]at T'
   exact h F h4 tk4 vs' n' F4.keep (k4' _ _ fI (N' _ (.head _)).1) nF T'
 ·intro p hp
  simp only[bS,eX,or_false]at hp
  rcases hp with rfl|rfl
  ·exact⟨b4 _ (N0 _ (.head _)).1,FC,nF⟩
  ·exact⟨eI0,cF cI,nI⟩
theorem Ih(O:aZ W){fa:Addr}{fd:dA}(D:bw false W fa fd uh ["text"]) (hfound:fd.scope.names.lookup (aa "found")=some .local) (hdepth:fd.scope.names.lookup (aa "depth")=some .local) (hsign:fd.scope.names.lookup (aa "sign")=some .local)
  (x:List Nat) (hx:x.length<=aX):gc W (n+1) (.ref fa) [.str x] (.ok (.list ((cE x).map .str))):=λA l s X vs R ra hne hd hu Q E Fin=>by
 have ht:=gt
 have hrl:(900:Nat)<recursionLimit:=by decide+kernel
 have I:=R.inv
 refine ay D.at_ λo ho hod=> ?_
 refine ra.consE λv ws zq rv rs=> ?_;subst zq
 obtain rfl:=rs.nilI
 refine rv.strE λy ty zq2 zq3=> ?_;subst zq2 zq3
 obtain⟨hh,g,dr,tk,os⟩:=s
 refine jz (rS (binds:=[(aa "text", .str y ty)]) (bU (aj (bf A.depth _) hd) hrl) (I.stays _ _ ho) hod (I.nolimit O) (D.rec_.keeps I.stays) D.body (D.bind _ [.str y ty] I.stays rfl).of D.nocell (λx hx=>by rw[dw]at hx;subst hx;exact D.local_ _ (by simp)) (λh₀ hns keep=> ?_) D.co D.gen D.kind)
 have P:kU (callEnv fd hh.objs.size fa) hh.objs.size:=⟨D.kind,rfl,hfound,hdepth,hsign⟩
 have F0:Fr hh hh.objs.size h₀ (λz=>([(aa "text",gG y ty)]:List (Str×ae)).reverse.lookup z):=⟨hns,keep,bP _⟩
 have A1:(A.deeper (callEnv fd hh.objs.size fa)).units<=9000:=by show A.units+3<=9000;exact r7 ‹_› (by rfl)
 have nh:∀b,hh.objs.size<=b->hh.get? b=none:=λb hb=>dU hb
 have ltC:hh.objs.size<h₀.objs.size:=by obtain⟨o,_,_,e,_⟩:=hns;exact eK e
 refine Ig P (D.local_ _ (by simp)) hfound hdepth F0 nh ltC hx A1 R.handled λF h4 tk4 vs n keep4 e4 nF T=> ?_
 refine Fin.1 _ _ _ rfl (After.of_keeps (tk:=tk4) I keep4) ?_
 have nX:¬X F:=λhX=>by
  refine xE (R.xlt F hX) λo e=> ?_
  rw[show(⟨hh,g,dr,tk,os⟩:ah).heap=hh from rfl,nF]at e;exact am e
 exact .list e4 rfl rfl nX T.reps
end
end
section
noncomputable def dZ:aY->Addr| .tup=>214| .bas=>266
noncomputable def lY:XC->ae| .parse=> .ref 24| .value=> .type "ValueError" | .abi=> .ref 37
noncomputable def bd:List (Addr×Addr):=[(155,151),(187,183),(209,205),(239,235)]
noncomputable def wd(w:fk)(h:Heap)(mg mb:Str->Option ae):Wd:=⟨w,ghostOf h bd,HK w.params,mg,mb,dZ,lY,bd⟩
section
variable(P:al)
theorem Ii:noTabs (HK P)=true:=by kernel_rfl
theorem Ij:∀c d:aY,kitOne (HK P) (.ref (dZ c)) (.ref (dZ d))=some (c==d):=λc d=>by cases c<;>cases d<;>kernel_rfl
theorem Ik:∀c:aY,kitOne (HK P) (.ref (dZ c)) (.type "str")=some false:=λc=>by cases c<;>kernel_rfl
theorem Il:∀c:aY,plainGet (HK P) (dZ c) "__class__" =true:=λc=>by cases c<;>kernel_rfl
theorem Im:∀c:aY,hasDictIn (HK P) (dZ c)=true:=λc=>by cases c<;>kernel_rfl
theorem Io:∀c:aY,findIn (HK P) (.ref (dZ c)) "__class__" =some (some (.builtin "object.__class__")):=λc=>by cases c<;>kernel_rfl
theorem Ip:specialIn (HK P) (.builtin "object.__class__") "__get__" =some (some (.builtin "getset_descriptor.__get__")):=by kernel_rfl
theorem Iq:takesIn (HK P) (.builtin "object.__class__")=some true:=by kernel_rfl
theorem Ir:∀c:aY,mroIn (HK P) (dZ c) (.type "object")=some true:=λc=>by cases c<;>kernel_rfl
theorem Iu:∀c:aY,findIn (HK P) (.ref (dZ c)) "__getattribute__" =some (some (.builtin "object.__getattribute__")):=λc=>by cases c<;>kernel_rfl
theorem Iv:∀c:aY,∀a∈dP,findIn (HK P) (.ref (dZ c)) a=some none:=λc a ha=>by
 simp only[dP,bS,eX,or_false]at ha
 rcases ha with rfl|rfl|rfl|rfl<;>cases c<;>kernel_rfl
theorem Iw:∀c:aY,∃cd,clsIn (HK P) (dZ c)=some cd/\ cd.hasDict=true:=λc=>by
 have h:(clsIn (HK P) (dZ c)).any (·.hasDict)=true:=by cases c<;>kernel_rfl
 refine ay (any_some h) λcd e1 e2=> ?_
 exact⟨cd,e1,e2⟩
theorem Ix:∀x∈blt,nsIn (HK P) mainGlobals x=some none:=λx hx=>by
 have h:blt.all (λx=>nsIn (HK P) mainGlobals x==some none)=true:=by kernel_rfl
 exact beq_iff_eq.mp (ba.mp h x hx)
end
theorem ul{h:Heap}{K:Frag}(X:K.In h)(TB:∀P∈([151,183,205,235]:List Addr),h.get? P=some (tabObj #[]))(hc:bd.all (λq=>codeHdIn K q.1 q.2)=true):TabsAt bd h:=λq hq=>by
 refine⟨codeHd_of_K X (ba.mp hc q hq),TB q.2 ?_⟩
 simp only[bd,bS,eX,or_false]at hq
 rcases hq with rfl|rfl|rfl|rfl<;>simp
theorem um(P:al):bd.all (λq=>codeHdIn (HK P) q.1 q.2)=true:=by kernel_rfl
theorem Iy{w:fk}{h:Heap}{p:ki}{loose:List Str}{mean:ExcName->Option ae}{mg mb:Str->Option ae}(KX:(HK w.params).In h)(TB:∀P∈([151,183,205,235]:List Addr),h.get? P=some (tabObj #[]))(T:Top p loose mean mg mb h):aZ (wd w h mg mb):=by
 have hT:=ul KX TB (um _)
 have X':(HK w.params).In (ghostOf h bd):=ghost_K hT KX (Ii _)
 have T':=ghost_top hT T
 refine {kin:=X',g:=T'.g,b:=T'.b,mbv:=T'.builtins,nolimit:=T'.nolimit,nogl:=λx hx=>mg_none_of X' T'.g (Ix _ x hx),tupN:=bH X' T'.g (by kernel_rfl),basN:=bH X' T'.g (by kernel_rfl),kit:=Ij _,kitS:=Ik _,pget:=Il _,hdict:=Im _,fcls:=Io _,scls:=Ip _,tcls:=Iq _,mcls:=Ir _,ga:=Iu _,fld:=Iv _,bfor:= ?_,tabInj:= ?_,cd:=Iw _}
 ·intro A s Q E I hq
  refine mU T'.bmain λbm ob h1 h2 h3 h4 h5 h6=> ?_
  exact wpAny_builtinsFor (T'.g.keeps I.stays) h1 h2 (I.stays _ _ h3) h4 h5 h6 hq
 ·intro q hq q' hq' e
  have hq:q∈bd:=hq
  have hq':q'∈bd:=hq'
  simp only[bd,bS,eX,or_false]at hq hq'
  rcases hq with rfl|rfl|rfl|rfl<;>rcases hq' with rfl|rfl|rfl|rfl<;>first|rfl|(cases e)
end
section
noncomputable def az(K:Frag)(fa:Addr):dA:=match K.lookup fa with
 |some ⟨_,_, .func fd,_⟩=>fd
 |_=>default
theorem un{K:Frag}{h:Heap}(X:K.In h){fa:Addr}(e:fnIn K fa=true):∃o,h.get? fa=some o/\ o.data= .func (az K fa):=by
 unfold fnIn at e
 unfold az
 split at e
 ·rename_i ho
  rw[ho]
  exact⟨_,X _ _ ho,rfl⟩
 ·exact bZ e
structure aU(K:Frag)(fa:Addr)(st:aC)(params:List Str):Prop where
 fn:fnIn K fa=true
 body:(az K fa).body= .stmts (aT st)
 globals:(az K fa).globals=mainGlobals
 builtins:(az K fa).builtins=builtinsNs
 rec_:codeIn K (az K fa).code (az K fa).qualname=true
 kind:(az K fa).scope.kind= .function
 co:(az K fa).scope.isCoroutine=false
 gen:(az K fa).scope.isGenerator=false
 nocell:(az K fa).scope.names.all (λy=>y.2 != .cell)=true
 nodup:params.Nodup
 local_:params.all (λx=>(az K fa).scope.names.lookup x==some .local)=true
 scope:(az K fa).scope=ck st
theorem aU.ok{g:Bool}{W:Wd}{K:Frag}{fa:Addr}{st:aC}{params:List Str}(D:aU K fa st params)(X:K.In W.base)(hc:g=true->∃c P,(az K fa).code= .ref c/\ (c,P)∈W.tabs)
  (hb:∀(s:ah) (vs:List ae),W.base.StaysIn s.heap->vs.length=params.length->Binds s (az K fa) ⟨vs,[]⟩ (params.zip vs)):bw g W fa (az K fa) (aT st) params where
 at_:=un X D.fn
 body:=D.body
 globals:=D.globals
 builtins:=D.builtins
 code:=hc
 rec_:=codeRec_of X D.rec_
 kind:=D.kind
 co:=D.co
 gen:=D.gen
 nocell:=λy hy=>by have:=ba.mp D.nocell y hy;simpa using this
 nodup:=D.nodup
 local_:=λx hx=>beq_iff_eq.mp (ba.mp D.local_ x hx)
 bind:=hb
theorem uo{vs:List ae}(h:vs.length=0):vs=[]:=oR h
theorem pW{n:Nat}{vs:List ae}(h:vs.length=n+1):∃a r,vs=a::r/\ r.length=n:=by
 cases vs with
 |nil=>exact absurd h (Dd n).symm
 |cons a r=>exact⟨a,r,rfl,Nat.succ.inj h⟩
theorem dH{vs:List ae}(h:vs.length=1):∃a,vs=[a]:=dX (pW h) λa r e k=>⟨a,by rw[e,oR k]⟩
theorem je{vs:List ae}(h:vs.length=2):∃a b,vs=[a,b]:=dX (pW h) λa r e k=>xE (dH k) λb e2=>⟨a,b,by rw[e,e2]⟩
theorem ze{vs:List ae}(h:vs.length=3):∃a b c,vs=[a,b,c]:=dX (pW h) λa r e k=>dB (je k) λb c e2=>⟨a,b,c,by rw[e,e2]⟩
theorem Iz{vs:List ae}(h:vs.length=4):∃a b c d,vs=[a,b,c,d]:=dX (pW h) λa r e k=>wK (ze k) λb c d e2=>⟨a,b,c,d,by rw[e,e2]⟩
theorem cv{Q:Prop}(h:false=true):Q:=wg h
set_option tactic.hygienic true in
theorem uq{K:Frag}{h:Heap}(X:K.In h){a:Addr}{vs:List ae}(e:(match K.lookup a with|some ⟨_,_, .seq ws _,_⟩=>ws.toList|_=>[])=vs)(hne:vs≠[]):∃o n,h.get? a=some o/\ o.data= .seq vs.toArray n:=by
 split at e
 ·rename_i ws n _ ho
  subst e
  exact⟨_,n,X _ _ ho,by simp⟩
 ·exact absurd e.symm hne
theorem zf(P:al):aU (HK P) 47 (ag 6) (au (ag 6)):=
 ⟨by kernel_rfl,by kernel_rfl,by kernel_rfl,by kernel_rfl,by kernel_rfl,by kernel_rfl,by kernel_rfl,by kernel_rfl,by kernel_rfl,by decide+kernel,by kernel_rfl,by kernel_rfl⟩
theorem IB(P:al)(a b:ae):bindArgs (az (HK P) 47) ⟨[a,b],[]⟩=pure ((au (ag 6)).zip [a,b]):=by kernel_rfl
theorem zg{W:Wd}{P:al}(X:(HK P).In W.base)(hT:W.tabs=bd):bw false W 47 (az (HK P) 47) (aT (ag 6)) (au (ag 6)):=
 aU.ok (zf P) X (cv) (λs vs ø hl=>by
  refine dB (je (hl.trans (show(au (ag 6)).length=2 by kernel_rfl))) λa b zq2=> ?_;subst zq2
  exact Binds.mk_eq (IB P a b))
theorem zh(P:al):aU (HK P) 54 (ag 7) (au (ag 7)):=
 ⟨by kernel_rfl,by kernel_rfl,by kernel_rfl,by kernel_rfl,by kernel_rfl,by kernel_rfl,by kernel_rfl,by kernel_rfl,by kernel_rfl,by decide+kernel,by kernel_rfl,by kernel_rfl⟩
theorem IE(P:al)(a b:ae):bindArgs (az (HK P) 54) ⟨[a,b],[]⟩=pure ((au (ag 7)).zip [a,b]):=by kernel_rfl
theorem zi{W:Wd}{P:al}(X:(HK P).In W.base)(hT:W.tabs=bd):bw false W 54 (az (HK P) 54) (aT (ag 7)) (au (ag 7)):=
 aU.ok (zh P) X (cv) (λs vs ø hl=>by
  refine dB (je (hl.trans (show(au (ag 7)).length=2 by kernel_rfl))) λa b zq2=> ?_;subst zq2
  exact Binds.mk_eq (IE P a b))
theorem zj(P:al):aU (HK P) 61 (ag 8) (au (ag 8)):=
 ⟨by kernel_rfl,by kernel_rfl,by kernel_rfl,by kernel_rfl,by kernel_rfl,by kernel_rfl,by kernel_rfl,by kernel_rfl,by kernel_rfl,by decide+kernel,by kernel_rfl,by kernel_rfl⟩
theorem IF(P:al)(a b:ae):bindArgs (az (HK P) 61) ⟨[a,b],[]⟩=pure ((au (ag 8)).zip [a,b]):=by kernel_rfl
theorem zk{W:Wd}{P:al}(X:(HK P).In W.base)(hT:W.tabs=bd):bw false W 61 (az (HK P) 61) (aT (ag 8)) (au (ag 8)):=
 aU.ok (zj P) X (cv) (λs vs ø hl=>by
  refine dB (je (hl.trans (show(au (ag 8)).length=2 by kernel_rfl))) λa b zq2=> ?_;subst zq2
  exact Binds.mk_eq (IF P a b))
theorem zn(P:al):aU (HK P) 68 (ag 9) (au (ag 9)):=
 ⟨by kernel_rfl,by kernel_rfl,by kernel_rfl,by kernel_rfl,by kernel_rfl,by kernel_rfl,by kernel_rfl,by kernel_rfl,by kernel_rfl,by decide+kernel,by kernel_rfl,by kernel_rfl⟩
theorem IG(P:al)(a b:ae):bindArgs (az (HK P) 68) ⟨[a,b],[]⟩=pure ((au (ag 9)).zip [a,b]):=by kernel_rfl
theorem zo{W:Wd}{P:al}(X:(HK P).In W.base)(hT:W.tabs=bd):bw false W 68 (az (HK P) 68) (aT (ag 9)) (au (ag 9)):=
 aU.ok (zn P) X (cv) (λs vs ø hl=>by
  refine dB (je (hl.trans (show(au (ag 9)).length=2 by kernel_rfl))) λa b zq2=> ?_;subst zq2
  exact Binds.mk_eq (IG P a b))
theorem zt(P:al):aU (HK P) 75 (ag 10) (au (ag 10)):=
 ⟨by kernel_rfl,by kernel_rfl,by kernel_rfl,by kernel_rfl,by kernel_rfl,by kernel_rfl,by kernel_rfl,by kernel_rfl,by kernel_rfl,by decide+kernel,by kernel_rfl,by kernel_rfl⟩
theorem IH(P:al)(a b:ae):bindArgs (az (HK P) 75) ⟨[a,b],[]⟩=pure ((au (ag 10)).zip [a,b]):=by kernel_rfl
theorem zu{W:Wd}{P:al}(X:(HK P).In W.base)(hT:W.tabs=bd):bw false W 75 (az (HK P) 75) (aT (ag 10)) (au (ag 10)):=
 aU.ok (zt P) X (cv) (λs vs ø hl=>by
  refine dB (je (hl.trans (show(au (ag 10)).length=2 by kernel_rfl))) λa b zq2=> ?_;subst zq2
  exact Binds.mk_eq (IH P a b))
theorem zv(P:al):aU (HK P) 82 (ag 11) (au (ag 11)):=
 ⟨by kernel_rfl,by kernel_rfl,by kernel_rfl,by kernel_rfl,by kernel_rfl,by kernel_rfl,by kernel_rfl,by kernel_rfl,by kernel_rfl,by decide+kernel,by kernel_rfl,by kernel_rfl⟩
theorem II(P:al)(a:ae):bindArgs (az (HK P) 82) ⟨[a],[]⟩=pure ((au (ag 11)).zip [a]):=by kernel_rfl
theorem zw{W:Wd}{P:al}(X:(HK P).In W.base)(hT:W.tabs=bd):bw false W 82 (az (HK P) 82) (aT (ag 11)) (au (ag 11)):=
 aU.ok (zv P) X (cv) (λs vs ø hl=>by
  refine xE (dH (hl.trans (show(au (ag 11)).length=1 by kernel_rfl))) λa zq1=> ?_;subst zq1
  exact Binds.mk_eq (II P a))
theorem IJ(P:al):aU (HK P) 97 (an (ag 12) 0) (au (an (ag 12) 0)):=
 ⟨by kernel_rfl,by kernel_rfl,by kernel_rfl,by kernel_rfl,by kernel_rfl,by kernel_rfl,by kernel_rfl,by kernel_rfl,by kernel_rfl,by decide+kernel,by kernel_rfl,by kernel_rfl⟩
theorem IK(P:al):∀(fd:dA),fd=az (HK P) 97->∀(s:ah) (a b:ae) (o:Obj) (m:Nat),s.heap.get? 90=some o->o.data= .seq ([.none]:List ae).toArray m->fd.defaults= .ref 90->Binds s fd ⟨[a,b],[]⟩ ((au (an (ag 12) 0)).zip [a,b]):=
 λfd hfd s a b o m e1 e2 hd=>⟨DI hd e1 e2 rfl (by subst hfd;kernel_rfl)⟩
theorem IL(P:al):(az (HK P) 97).defaults= .ref 90:=by kernel_rfl
theorem zx{W:Wd}{P:al}(X:(HK P).In W.base)(hT:W.tabs=bd):bw false W 97 (az (HK P) 97) (aT (an (ag 12) 0)) (au (an (ag 12) 0)):=
 aU.ok (IJ P) X (cv) (λs vs hs hl=>by
  refine dB (je (hl.trans (show(au (an (ag 12) 0)).length=2 by kernel_rfl))) λa b zq2=> ?_;subst zq2
  refine dX (uq (a:=90) (vs:=[.none]) X (show(match(HK P).lookup 90 with|some ⟨_,_, .seq ws _,_⟩=>ws.toList|_=>[])=[.none] by kernel_rfl) (by simp)) λo m e1 e2=> ?_
  exact IK P _ rfl s a b o m (hs _ _ e1) e2 (IL P))
theorem zy(P:al):aU (HK P) 104 (an (ag 12) 1) (au (an (ag 12) 1)):=
 ⟨by kernel_rfl,by kernel_rfl,by kernel_rfl,by kernel_rfl,by kernel_rfl,by kernel_rfl,by kernel_rfl,by kernel_rfl,by kernel_rfl,by decide+kernel,by kernel_rfl,by kernel_rfl⟩
theorem IM(P:al)(a b:ae):bindArgs (az (HK P) 104) ⟨[a,b],[]⟩=pure ((au (an (ag 12) 1)).zip [a,b]):=by kernel_rfl
theorem IN{W:Wd}{P:al}(X:(HK P).In W.base)(hT:W.tabs=bd):bw false W 104 (az (HK P) 104) (aT (an (ag 12) 1)) (au (an (ag 12) 1)):=
 aU.ok (zy P) X (cv) (λs vs ø hl=>by
  refine dB (je (hl.trans (show(au (an (ag 12) 1)).length=2 by kernel_rfl))) λa b zq2=> ?_;subst zq2
  exact Binds.mk_eq (IM P a b))
theorem zA(P:al):aU (HK P) 133 (an (ag 12) 5) (au (an (ag 12) 5)):=
 ⟨by kernel_rfl,by kernel_rfl,by kernel_rfl,by kernel_rfl,by kernel_rfl,by kernel_rfl,by kernel_rfl,by kernel_rfl,by kernel_rfl,by decide+kernel,by kernel_rfl,by kernel_rfl⟩
theorem IP(P:al)(a b:ae):bindArgs (az (HK P) 133) ⟨[a,b],[]⟩=pure ((au (an (ag 12) 5)).zip [a,b]):=by kernel_rfl
theorem zB{W:Wd}{P:al}(X:(HK P).In W.base)(hT:W.tabs=bd):bw false W 133 (az (HK P) 133) (aT (an (ag 12) 5)) (au (an (ag 12) 5)):=
 aU.ok (zA P) X (cv) (λs vs ø hl=>by
  refine dB (je (hl.trans (show(au (an (ag 12) 5)).length=2 by kernel_rfl))) λa b zq2=> ?_;subst zq2
  exact Binds.mk_eq (IP P a b))
theorem zD(P:al):aU (HK P) 140 (an (ag 12) 6) (au (an (ag 12) 6)):=
 ⟨by kernel_rfl,by kernel_rfl,by kernel_rfl,by kernel_rfl,by kernel_rfl,by kernel_rfl,by kernel_rfl,by kernel_rfl,by kernel_rfl,by decide+kernel,by kernel_rfl,by kernel_rfl⟩
theorem IQ(P:al)(a:ae):bindArgs (az (HK P) 140) ⟨[a],[]⟩=pure ((au (an (ag 12) 6)).zip [a]):=by kernel_rfl
theorem IR{W:Wd}{P:al}(X:(HK P).In W.base)(hT:W.tabs=bd):bw false W 140 (az (HK P) 140) (aT (an (ag 12) 6)) (au (an (ag 12) 6)):=
 aU.ok (zD P) X (cv) (λs vs ø hl=>by
  refine xE (dH (hl.trans (show(au (an (ag 12) 6)).length=1 by kernel_rfl))) λa zq1=> ?_;subst zq1
  exact Binds.mk_eq (IQ P a))
theorem zE(P:al):aU (HK P) 156 (an (ag 12) 8) (au (an (ag 12) 8)):=
 ⟨by kernel_rfl,by kernel_rfl,by kernel_rfl,by kernel_rfl,by kernel_rfl,by kernel_rfl,by kernel_rfl,by kernel_rfl,by kernel_rfl,by decide+kernel,by kernel_rfl,by kernel_rfl⟩
theorem IS(P:al):(az (HK P) 156).code= .ref 155:=by kernel_rfl
theorem IT:(((155,151):Addr×Addr)∈bd):=by decide+kernel
theorem IU(P:al)(a:ae):bindArgs (az (HK P) 156) ⟨[a],[]⟩=pure ((au (an (ag 12) 8)).zip [a]):=by kernel_rfl
theorem IV{W:Wd}{P:al}(X:(HK P).In W.base)(hT:W.tabs=bd):bw true W 156 (az (HK P) 156) (aT (an (ag 12) 8)) (au (an (ag 12) 8)):=
 aU.ok (zE P) X (λø=>⟨155,151,IS P,hT▸IT⟩) (λs vs ø hl=>by
  refine xE (dH (hl.trans (show(au (an (ag 12) 8)).length=1 by kernel_rfl))) λa zq1=> ?_;subst zq1
  exact Binds.mk_eq (IU P a))
theorem IW(P:al):aU (HK P) 181 (an (ag 13) 0) (au (an (ag 13) 0)):=
 ⟨by kernel_rfl,by kernel_rfl,by kernel_rfl,by kernel_rfl,by kernel_rfl,by kernel_rfl,by kernel_rfl,by kernel_rfl,by kernel_rfl,by decide+kernel,by kernel_rfl,by kernel_rfl⟩
theorem IX(P:al):∀(fd:dA),fd=az (HK P) 181->∀(s:ah) (a b c:ae) (o:Obj) (m:Nat),s.heap.get? 173=some o->o.data= .seq ([.none]:List ae).toArray m->fd.defaults= .ref 173->Binds s fd ⟨[a,b,c],[]⟩ ((au (an (ag 13) 0)).zip [a,b,c]):=
 λfd hfd s a b c o m e1 e2 hd=>⟨DI hd e1 e2 rfl (by subst hfd;kernel_rfl)⟩
theorem IY(P:al):(az (HK P) 181).defaults= .ref 173:=by kernel_rfl
theorem IZ{W:Wd}{P:al}(X:(HK P).In W.base)(hT:W.tabs=bd):bw false W 181 (az (HK P) 181) (aT (an (ag 13) 0)) (au (an (ag 13) 0)):=
 aU.ok (IW P) X (cv) (λs vs hs hl=>by
  refine wK (ze (hl.trans (show(au (an (ag 13) 0)).length=3 by kernel_rfl))) λa b c zq3=> ?_;subst zq3
  refine dX (uq (a:=173) (vs:=[.none]) X (show(match(HK P).lookup 173 with|some ⟨_,_, .seq ws _,_⟩=>ws.toList|_=>[])=[.none] by kernel_rfl) (by simp)) λo m e1 e2=> ?_
  exact IX P _ rfl s a b c o m (hs _ _ e1) e2 (IY P))
theorem zF(P:al):aU (HK P) 188 (an (ag 13) 1) (au (an (ag 13) 1)):=
 ⟨by kernel_rfl,by kernel_rfl,by kernel_rfl,by kernel_rfl,by kernel_rfl,by kernel_rfl,by kernel_rfl,by kernel_rfl,by kernel_rfl,by decide+kernel,by kernel_rfl,by kernel_rfl⟩
theorem I0(P:al):(az (HK P) 188).code= .ref 187:=by kernel_rfl
theorem I1:(((187,183):Addr×Addr)∈bd):=by decide+kernel
theorem I3(P:al)(a:ae):bindArgs (az (HK P) 188) ⟨[a],[]⟩=pure ((au (an (ag 13) 1)).zip [a]):=by kernel_rfl
theorem zG{W:Wd}{P:al}(X:(HK P).In W.base)(hT:W.tabs=bd):bw true W 188 (az (HK P) 188) (aT (an (ag 13) 1)) (au (an (ag 13) 1)):=
 aU.ok (zF P) X (λø=>⟨187,183,I0 P,hT▸I1⟩) (λs vs ø hl=>by
  refine xE (dH (hl.trans (show(au (an (ag 13) 1)).length=1 by kernel_rfl))) λa zq1=> ?_;subst zq1
  exact Binds.mk_eq (I3 P a))
theorem zH(P:al):aU (HK P) 195 (an (ag 13) 2) (au (an (ag 13) 2)):=
 ⟨by kernel_rfl,by kernel_rfl,by kernel_rfl,by kernel_rfl,by kernel_rfl,by kernel_rfl,by kernel_rfl,by kernel_rfl,by kernel_rfl,by decide+kernel,by kernel_rfl,by kernel_rfl⟩
theorem I4(P:al)(a:ae):bindArgs (az (HK P) 195) ⟨[a],[]⟩=pure ((au (an (ag 13) 2)).zip [a]):=by kernel_rfl
theorem I5{W:Wd}{P:al}(X:(HK P).In W.base)(hT:W.tabs=bd):bw false W 195 (az (HK P) 195) (aT (an (ag 13) 2)) (au (an (ag 13) 2)):=
 aU.ok (zH P) X (cv) (λs vs ø hl=>by
  refine xE (dH (hl.trans (show(au (an (ag 13) 2)).length=1 by kernel_rfl))) λa zq1=> ?_;subst zq1
  exact Binds.mk_eq (I4 P a))
theorem zI(P:al):aU (HK P) 203 (an (ag 13) 3) (au (an (ag 13) 3)):=
 ⟨by kernel_rfl,by kernel_rfl,by kernel_rfl,by kernel_rfl,by kernel_rfl,by kernel_rfl,by kernel_rfl,by kernel_rfl,by kernel_rfl,by decide+kernel,by kernel_rfl,by kernel_rfl⟩
theorem I6(P:al)(a:ae):bindArgs (az (HK P) 203) ⟨[a],[]⟩=pure ((au (an (ag 13) 3)).zip [a]):=by kernel_rfl
theorem zJ{W:Wd}{P:al}(X:(HK P).In W.base)(hT:W.tabs=bd):bw false W 203 (az (HK P) 203) (aT (an (ag 13) 3)) (au (an (ag 13) 3)):=
 aU.ok (zI P) X (cv) (λs vs ø hl=>by
  refine xE (dH (hl.trans (show(au (an (ag 13) 3)).length=1 by kernel_rfl))) λa zq1=> ?_;subst zq1
  exact Binds.mk_eq (I6 P a))
theorem zK(P:al):aU (HK P) 210 (an (ag 13) 4) (au (an (ag 13) 4)):=
 ⟨by kernel_rfl,by kernel_rfl,by kernel_rfl,by kernel_rfl,by kernel_rfl,by kernel_rfl,by kernel_rfl,by kernel_rfl,by kernel_rfl,by decide+kernel,by kernel_rfl,by kernel_rfl⟩
theorem I7(P:al):(az (HK P) 210).code= .ref 209:=by kernel_rfl
theorem I8:(((209,205):Addr×Addr)∈bd):=by decide+kernel
theorem I9(P:al)(a:ae):bindArgs (az (HK P) 210) ⟨[a],[]⟩=pure ((au (an (ag 13) 4)).zip [a]):=by kernel_rfl
theorem Ja{W:Wd}{P:al}(X:(HK P).In W.base)(hT:W.tabs=bd):bw true W 210 (az (HK P) 210) (aT (an (ag 13) 4)) (au (an (ag 13) 4)):=
 aU.ok (zK P) X (λø=>⟨209,205,I7 P,hT▸I8⟩) (λs vs ø hl=>by
  refine xE (dH (hl.trans (show(au (an (ag 13) 4)).length=1 by kernel_rfl))) λa zq1=> ?_;subst zq1
  exact Binds.mk_eq (I9 P a))
theorem Jb(P:al):aU (HK P) 233 (an (ag 14) 0) (au (an (ag 14) 0)):=
 ⟨by kernel_rfl,by kernel_rfl,by kernel_rfl,by kernel_rfl,by kernel_rfl,by kernel_rfl,by kernel_rfl,by kernel_rfl,by kernel_rfl,by decide+kernel,by kernel_rfl,by kernel_rfl⟩
theorem Jc(P:al):∀(fd:dA),fd=az (HK P) 233->∀(s:ah) (a b c d:ae) (o:Obj) (m:Nat),s.heap.get? 225=some o->o.data= .seq ([.none, .none]:List ae).toArray m->fd.defaults= .ref 225->Binds s fd ⟨[a,b,c,d],[]⟩ ((au (an (ag 14) 0)).zip [a,b,c,d]):=
 λfd hfd s a b c d o m e1 e2 hd=>⟨DI hd e1 e2 rfl (by subst hfd;kernel_rfl)⟩
theorem Jd(P:al):(az (HK P) 233).defaults= .ref 225:=by kernel_rfl
theorem Je{W:Wd}{P:al}(X:(HK P).In W.base)(hT:W.tabs=bd):bw false W 233 (az (HK P) 233) (aT (an (ag 14) 0)) (au (an (ag 14) 0)):=
 aU.ok (Jb P) X (cv) (λs vs hs hl=>by
  refine wM (Iz (hl.trans (show(au (an (ag 14) 0)).length=4 by kernel_rfl))) λa b c d zq4=> ?_;subst zq4
  refine dX (uq (a:=225) (vs:=[.none, .none]) X (show(match(HK P).lookup 225 with|some ⟨_,_, .seq ws _,_⟩=>ws.toList|_=>[])=[.none, .none] by kernel_rfl) (by simp)) λo m e1 e2=> ?_
  exact Jc P _ rfl s a b c d o m (hs _ _ e1) e2 (Jd P))
theorem zL(P:al):aU (HK P) 240 (an (ag 14) 1) (au (an (ag 14) 1)):=
 ⟨by kernel_rfl,by kernel_rfl,by kernel_rfl,by kernel_rfl,by kernel_rfl,by kernel_rfl,by kernel_rfl,by kernel_rfl,by kernel_rfl,by decide+kernel,by kernel_rfl,by kernel_rfl⟩
theorem Jf(P:al):(az (HK P) 240).code= .ref 239:=by kernel_rfl
theorem Jg:(((239,235):Addr×Addr)∈bd):=by decide+kernel
theorem Jh(P:al)(a:ae):bindArgs (az (HK P) 240) ⟨[a],[]⟩=pure ((au (an (ag 14) 1)).zip [a]):=by kernel_rfl
theorem zM{W:Wd}{P:al}(X:(HK P).In W.base)(hT:W.tabs=bd):bw true W 240 (az (HK P) 240) (aT (an (ag 14) 1)) (au (an (ag 14) 1)):=
 aU.ok (zL P) X (λø=>⟨239,235,Jf P,hT▸Jg⟩) (λs vs ø hl=>by
  refine xE (dH (hl.trans (show(au (an (ag 14) 1)).length=1 by kernel_rfl))) λa zq1=> ?_;subst zq1
  exact Binds.mk_eq (Jh P a))
theorem zN(P:al):aU (HK P) 247 (an (ag 14) 2) (au (an (ag 14) 2)):=
 ⟨by kernel_rfl,by kernel_rfl,by kernel_rfl,by kernel_rfl,by kernel_rfl,by kernel_rfl,by kernel_rfl,by kernel_rfl,by kernel_rfl,by decide+kernel,by kernel_rfl,by kernel_rfl⟩
theorem Ji(P:al)(a:ae):bindArgs (az (HK P) 247) ⟨[a],[]⟩=pure ((au (an (ag 14) 2)).zip [a]):=by kernel_rfl
theorem Jj{W:Wd}{P:al}(X:(HK P).In W.base)(hT:W.tabs=bd):bw false W 247 (az (HK P) 247) (aT (an (ag 14) 2)) (au (an (ag 14) 2)):=
 aU.ok (zN P) X (cv) (λs vs ø hl=>by
  refine xE (dH (hl.trans (show(au (an (ag 14) 2)).length=1 by kernel_rfl))) λa zq1=> ?_;subst zq1
  exact Binds.mk_eq (Ji P a))
theorem zO(P:al):aU (HK P) 255 (an (ag 14) 3) (au (an (ag 14) 3)):=
 ⟨by kernel_rfl,by kernel_rfl,by kernel_rfl,by kernel_rfl,by kernel_rfl,by kernel_rfl,by kernel_rfl,by kernel_rfl,by kernel_rfl,by decide+kernel,by kernel_rfl,by kernel_rfl⟩
theorem Jk(P:al)(a:ae):bindArgs (az (HK P) 255) ⟨[a],[]⟩=pure ((au (an (ag 14) 3)).zip [a]):=by kernel_rfl
theorem Jl{W:Wd}{P:al}(X:(HK P).In W.base)(hT:W.tabs=bd):bw false W 255 (az (HK P) 255) (aT (an (ag 14) 3)) (au (an (ag 14) 3)):=
 aU.ok (zO P) X (cv) (λs vs ø hl=>by
  refine xE (dH (hl.trans (show(au (an (ag 14) 3)).length=1 by kernel_rfl))) λa zq1=> ?_;subst zq1
  exact Binds.mk_eq (Jk P a))
theorem zP(P:al):aU (HK P) 263 (an (ag 14) 4) (au (an (ag 14) 4)):=
 ⟨by kernel_rfl,by kernel_rfl,by kernel_rfl,by kernel_rfl,by kernel_rfl,by kernel_rfl,by kernel_rfl,by kernel_rfl,by kernel_rfl,by decide+kernel,by kernel_rfl,by kernel_rfl⟩
theorem Jm(P:al)(a:ae):bindArgs (az (HK P) 263) ⟨[a],[]⟩=pure ((au (an (ag 14) 4)).zip [a]):=by kernel_rfl
theorem zQ{W:Wd}{P:al}(X:(HK P).In W.base)(hT:W.tabs=bd):bw false W 263 (az (HK P) 263) (aT (an (ag 14) 4)) (au (an (ag 14) 4)):=
 aU.ok (zP P) X (cv) (λs vs ø hl=>by
  refine xE (dH (hl.trans (show(au (an (ag 14) 4)).length=1 by kernel_rfl))) λa zq1=> ?_;subst zq1
  exact Binds.mk_eq (Jm P a))
theorem zR(P:al):aU (HK P) 275 (ag 16) (au (ag 16)):=
 ⟨by kernel_rfl,by kernel_rfl,by kernel_rfl,by kernel_rfl,by kernel_rfl,by kernel_rfl,by kernel_rfl,by kernel_rfl,by kernel_rfl,by decide+kernel,by kernel_rfl,by kernel_rfl⟩
theorem Jn(P:al):bindArgs (az (HK P) 275) ⟨[],[]⟩=pure ((au (ag 16)).zip []):=by kernel_rfl
theorem zS{W:Wd}{P:al}(X:(HK P).In W.base)(hT:W.tabs=bd):bw false W 275 (az (HK P) 275) (aT (ag 16)) (au (ag 16)):=
 aU.ok (zR P) X (cv) (λs vs ø hl=>by
  obtain rfl:=uo (hl.trans (show(au (ag 16)).length=0 by kernel_rfl))
  exact Binds.mk_eq (Jn P))
theorem zT(P:al):aU (HK P) 282 (ag 17) (au (ag 17)):=
 ⟨by kernel_rfl,by kernel_rfl,by kernel_rfl,by kernel_rfl,by kernel_rfl,by kernel_rfl,by kernel_rfl,by kernel_rfl,by kernel_rfl,by decide+kernel,by kernel_rfl,by kernel_rfl⟩
theorem Jo(P:al):bindArgs (az (HK P) 282) ⟨[],[]⟩=pure ((au (ag 17)).zip []):=by kernel_rfl
theorem zU{W:Wd}{P:al}(X:(HK P).In W.base)(hT:W.tabs=bd):bw false W 282 (az (HK P) 282) (aT (ag 17)) (au (ag 17)):=
 aU.ok (zT P) X (cv) (λs vs ø hl=>by
  obtain rfl:=uo (hl.trans (show(au (ag 17)).length=0 by kernel_rfl))
  exact Binds.mk_eq (Jo P))
theorem zV(P:al):aU (HK P) 289 (ag 18) (au (ag 18)):=
 ⟨by kernel_rfl,by kernel_rfl,by kernel_rfl,by kernel_rfl,by kernel_rfl,by kernel_rfl,by kernel_rfl,by kernel_rfl,by kernel_rfl,by decide+kernel,by kernel_rfl,by kernel_rfl⟩
theorem Jp(P:al):bindArgs (az (HK P) 289) ⟨[],[]⟩=pure ((au (ag 18)).zip []):=by kernel_rfl
theorem zW{W:Wd}{P:al}(X:(HK P).In W.base)(hT:W.tabs=bd):bw false W 289 (az (HK P) 289) (aT (ag 18)) (au (ag 18)):=
 aU.ok (zV P) X (cv) (λs vs ø hl=>by
  obtain rfl:=uo (hl.trans (show(au (ag 18)).length=0 by kernel_rfl))
  exact Binds.mk_eq (Jp P))
theorem Jq(P:al):aU (HK P) 296 (ag 19) (au (ag 19)):=
 ⟨by kernel_rfl,by kernel_rfl,by kernel_rfl,by kernel_rfl,by kernel_rfl,by kernel_rfl,by kernel_rfl,by kernel_rfl,by kernel_rfl,by decide+kernel,by kernel_rfl,by kernel_rfl⟩
theorem Jr(P:al)(a:ae):bindArgs (az (HK P) 296) ⟨[a],[]⟩=pure ((au (ag 19)).zip [a]):=by kernel_rfl
theorem ur{W:Wd}{P:al}(X:(HK P).In W.base)(hT:W.tabs=bd):bw false W 296 (az (HK P) 296) (aT (ag 19)) (au (ag 19)):=
 aU.ok (Jq P) X (cv) (λs vs ø hl=>by
  refine xE (dH (hl.trans (show(au (ag 19)).length=1 by kernel_rfl))) λa zq1=> ?_;subst zq1
  exact Binds.mk_eq (Jr P a))
theorem zX(P:al):aU (HK P) 306 (ag 21) (au (ag 21)):=
 ⟨by kernel_rfl,by kernel_rfl,by kernel_rfl,by kernel_rfl,by kernel_rfl,by kernel_rfl,by kernel_rfl,by kernel_rfl,by kernel_rfl,by decide+kernel,by kernel_rfl,by kernel_rfl⟩
theorem Js(P:al)(a:ae):bindArgs (az (HK P) 306) ⟨[a],[]⟩=pure ((au (ag 21)).zip [a]):=by kernel_rfl
theorem zY{W:Wd}{P:al}(X:(HK P).In W.base)(hT:W.tabs=bd):bw false W 306 (az (HK P) 306) (aT (ag 21)) (au (ag 21)):=
 aU.ok (zX P) X (cv) (λs vs ø hl=>by
  refine xE (dH (hl.trans (show(au (ag 21)).length=1 by kernel_rfl))) λa zq1=> ?_;subst zq1
  exact Binds.mk_eq (Js P a))
theorem Jt(P:al):aU (HK P) 313 (ag 22) (au (ag 22)):=
 ⟨by kernel_rfl,by kernel_rfl,by kernel_rfl,by kernel_rfl,by kernel_rfl,by kernel_rfl,by kernel_rfl,by kernel_rfl,by kernel_rfl,by decide+kernel,by kernel_rfl,by kernel_rfl⟩
theorem Ju(P:al)(a:ae):bindArgs (az (HK P) 313) ⟨[a],[]⟩=pure ((au (ag 22)).zip [a]):=by kernel_rfl
theorem zZ{W:Wd}{P:al}(X:(HK P).In W.base)(hT:W.tabs=bd):bw false W 313 (az (HK P) 313) (aT (ag 22)) (au (ag 22)):=
 aU.ok (Jt P) X (cv) (λs vs ø hl=>by
  refine xE (dH (hl.trans (show(au (ag 22)).length=1 by kernel_rfl))) λa zq1=> ?_;subst zq1
  exact Binds.mk_eq (Ju P a))
theorem z0(P:al):aU (HK P) 318 (ag 23) (au (ag 23)):=
 ⟨by kernel_rfl,by kernel_rfl,by kernel_rfl,by kernel_rfl,by kernel_rfl,by kernel_rfl,by kernel_rfl,by kernel_rfl,by kernel_rfl,by decide+kernel,by kernel_rfl,by kernel_rfl⟩
theorem Jv(P:al)(a:ae):bindArgs (az (HK P) 318) ⟨[a],[]⟩=pure ((au (ag 23)).zip [a]):=by kernel_rfl
theorem z3{W:Wd}{P:al}(X:(HK P).In W.base)(hT:W.tabs=bd):bw false W 318 (az (HK P) 318) (aT (ag 23)) (au (ag 23)):=
 aU.ok (z0 P) X (cv) (λs vs ø hl=>by
  refine xE (dH (hl.trans (show(au (ag 23)).length=1 by kernel_rfl))) λa zq1=> ?_;subst zq1
  exact Binds.mk_eq (Jv P a))
theorem z4(P:al):aU (HK P) 323 (ag 24) (au (ag 24)):=
 ⟨by kernel_rfl,by kernel_rfl,by kernel_rfl,by kernel_rfl,by kernel_rfl,by kernel_rfl,by kernel_rfl,by kernel_rfl,by kernel_rfl,by decide+kernel,by kernel_rfl,by kernel_rfl⟩
theorem Jw(P:al)(a:ae):bindArgs (az (HK P) 323) ⟨[a],[]⟩=pure ((au (ag 24)).zip [a]):=by kernel_rfl
theorem z5{W:Wd}{P:al}(X:(HK P).In W.base)(hT:W.tabs=bd):bw false W 323 (az (HK P) 323) (aT (ag 24)) (au (ag 24)):=
 aU.ok (z4 P) X (cv) (λs vs ø hl=>by
  refine xE (dH (hl.trans (show(au (ag 24)).length=1 by kernel_rfl))) λa zq1=> ?_;subst zq1
  exact Binds.mk_eq (Jw P a))
theorem z6(P:al):aU (HK P) 328 (ag 25) (au (ag 25)):=
 ⟨by kernel_rfl,by kernel_rfl,by kernel_rfl,by kernel_rfl,by kernel_rfl,by kernel_rfl,by kernel_rfl,by kernel_rfl,by kernel_rfl,by decide+kernel,by kernel_rfl,by kernel_rfl⟩
theorem Jx(P:al)(a:ae):bindArgs (az (HK P) 328) ⟨[a],[]⟩=pure ((au (ag 25)).zip [a]):=by kernel_rfl
theorem z7{W:Wd}{P:al}(X:(HK P).In W.base)(hT:W.tabs=bd):bw false W 328 (az (HK P) 328) (aT (ag 25)) (au (ag 25)):=
 aU.ok (z6 P) X (cv) (λs vs ø hl=>by
  refine xE (dH (hl.trans (show(au (ag 25)).length=1 by kernel_rfl))) λa zq1=> ?_;subst zq1
  exact Binds.mk_eq (Jx P a))
theorem z8(P:al):aU (HK P) 333 (ag 26) (au (ag 26)):=
 ⟨by kernel_rfl,by kernel_rfl,by kernel_rfl,by kernel_rfl,by kernel_rfl,by kernel_rfl,by kernel_rfl,by kernel_rfl,by kernel_rfl,by decide+kernel,by kernel_rfl,by kernel_rfl⟩
theorem Jy(P:al)(a:ae):bindArgs (az (HK P) 333) ⟨[a],[]⟩=pure ((au (ag 26)).zip [a]):=by kernel_rfl
theorem z9{W:Wd}{P:al}(X:(HK P).In W.base)(hT:W.tabs=bd):bw false W 333 (az (HK P) 333) (aT (ag 26)) (au (ag 26)):=
 aU.ok (z8 P) X (cv) (λs vs ø hl=>by
  refine xE (dH (hl.trans (show(au (ag 26)).length=1 by kernel_rfl))) λa zq1=> ?_;subst zq1
  exact Binds.mk_eq (Jy P a))
theorem Aa(P:al):aU (HK P) 340 (ag 27) (au (ag 27)):=
 ⟨by kernel_rfl,by kernel_rfl,by kernel_rfl,by kernel_rfl,by kernel_rfl,by kernel_rfl,by kernel_rfl,by kernel_rfl,by kernel_rfl,by decide+kernel,by kernel_rfl,by kernel_rfl⟩
theorem Jz(P:al)(a:ae):bindArgs (az (HK P) 340) ⟨[a],[]⟩=pure ((au (ag 27)).zip [a]):=by kernel_rfl
theorem Ab{W:Wd}{P:al}(X:(HK P).In W.base)(hT:W.tabs=bd):bw false W 340 (az (HK P) 340) (aT (ag 27)) (au (ag 27)):=
 aU.ok (Aa P) X (cv) (λs vs ø hl=>by
  refine xE (dH (hl.trans (show(au (ag 27)).length=1 by kernel_rfl))) λa zq1=> ?_;subst zq1
  exact Binds.mk_eq (Jz P a))
theorem Ac(P:al):aU (HK P) 345 (ag 28) (au (ag 28)):=
 ⟨by kernel_rfl,by kernel_rfl,by kernel_rfl,by kernel_rfl,by kernel_rfl,by kernel_rfl,by kernel_rfl,by kernel_rfl,by kernel_rfl,by decide+kernel,by kernel_rfl,by kernel_rfl⟩
theorem JA(P:al)(a:ae):bindArgs (az (HK P) 345) ⟨[a],[]⟩=pure ((au (ag 28)).zip [a]):=by kernel_rfl
theorem Ad{W:Wd}{P:al}(X:(HK P).In W.base)(hT:W.tabs=bd):bw false W 345 (az (HK P) 345) (aT (ag 28)) (au (ag 28)):=
 aU.ok (Ac P) X (cv) (λs vs ø hl=>by
  refine xE (dH (hl.trans (show(au (ag 28)).length=1 by kernel_rfl))) λa zq1=> ?_;subst zq1
  exact Binds.mk_eq (JA P a))
end
section
theorem JB(P:al):∀c d b,jJ (match d with|XC.parse=>aa "ParseError" |XC.value=>aa "ValueError" |XC.abi=>aa "ABITypeError") c=some b->exmOne (HK P) (lY c) (lY d)=some b:=λc d b h=>by
 have key:∀c d,exmOne (HK P) (lY c) (lY d)=jJ (match d with|XC.parse=>aa "ParseError" |XC.value=>aa "ValueError" |XC.abi=>aa "ABITypeError") c:=λc d=>by
  cases c<;>cases d<;>kernel_rfl
 rw[key,h]
theorem JC(P:al):∀c,subIn (HK P) (lY c) (.type "AttributeError")=some false:=λc=>by cases c<;>kernel_rfl
theorem JD(P:al):excIn (HK P) 24 [.type "Exception", .type "BaseException", .type "object"] "Exception.__new__" =true:=by kernel_rfl
theorem JE(P:al):excIn (HK P) 37 [.type "ValueError", .type "Exception", .type "BaseException", .type "object"] "ValueError.__new__" =true:=by kernel_rfl
theorem JF(P:al):nsIn (HK P) mainGlobals "ParseError" =some (some (.ref 24)):=by kernel_rfl
theorem JG(P:al):nsIn (HK P) mainGlobals "ABITypeError" =some (some (.ref 37)):=by kernel_rfl
section
variable{w:fk}{h:Heap}{mg mb:Str->Option ae}
theorem JH{p:ki}{loose:List Str}(O:aZ (wd w h mg mb))(T:TopRead p loose mg mb (ghostOf h bd)):ud (wd w h mg mb) 24 37 where
 value:=rfl
 parse:=rfl
 abi:=rfl
 ownP:=own_of_in (K:=HK w.params) O.kin T (JF _) (JD _)
 ownT:=own_of_in (K:=HK w.params) O.kin T (JG _) (JE _)
 exm:=JB w.params
theorem Ae{K:Frag}{h:Heap}(X:K.In h){c:Addr}{v:ae}(e:(match K.lookup c with|some ⟨_,_, .cell u,_⟩=>u|_=>none)=some v):h.IsCell c (some v):=by
 split at e
 ·rename_i ho
  subst e
  exact⟨_,X _ _ ho,rfl⟩
 ·exact am e
theorem Af{K:Frag}{h:Heap}(X:K.In h){c:Addr}(f:String)(e:(match K.lookup c with|some ⟨_,_, .fields vs,_⟩=>(match(vs[2]? :Option ae)with|some (.str x _)=>((f:Str)==x)|_=>false)|_=>false)=true):
  ∃o vs file tf,h.get? c=some o/\ o.data= .fields vs/\ vs[2]? =some (.str file tf)/\ ((f:Str)==file)=true:=by
 split at e
 ·rename_i ho
  split at e
  ·rename_i hv
   exact⟨_,_,_,_,X _ _ ho,rfl,hv,e⟩
  ·exact bZ e
 ·exact bZ e
end
theorem JI(P:al):makesIn (HK P) 214=true:=by kernel_rfl
theorem JJ(P:al):findIn (HK P) (.ref 214) "__init__" =some (some (.ref 181)):=by kernel_rfl
theorem JK(P:al):typeIn (HK P) (.ref 181)=some (.type "function"):=by kernel_rfl
theorem JL(P:al):(az (HK P) 181).closure=[(aa "__class__",168)]:=by kernel_rfl
theorem JM(P:al):(match(HK P).lookup 168 with|some ⟨_,_, .cell u,_⟩=>u|_=>none)=some (.ref 214):=by kernel_rfl
theorem JN(P:al):(((az (HK P) 181).params.posonlyargs++(az (HK P) 181).params.args).head?).map (·.arg)=some (aa "self"):=by kernel_rfl
theorem JO(P:al):(az (HK P) 181).code= .ref 180:=by kernel_rfl
theorem JP(P:al):(match(HK P).lookup 180 with|some ⟨_,_, .fields vs,_⟩=>(match(vs[2]? :Option ae)with|some (.str x _)=>((iu.main.file:Str)==x)|_=>false)|_=>false)=true:=by kernel_rfl
theorem JQ(P:al):(az (HK P) 181).scope.names.lookup (aa "super")=some .globalImplicit:=by kernel_rfl
theorem JR(P:al):(az (HK P) 181).scope.names.lookup (aa "__class__")=some .free:=by kernel_rfl
theorem JS(P:al):mroIn (HK P) 214 (.ref 214)=some true:=by kernel_rfl
theorem JT(P:al):wy (HK P) 214 214 "__init__" =some (some (.ref 97)):=by kernel_rfl
theorem JU(P:al):findIn (HK P) (.ref 214) "__setattr__" =some (some (.builtin "object.__setattr__")):=by kernel_rfl
theorem JV(P:al):plainOver (HK P) 214=true:=by kernel_rfl
theorem JW(P:al):∀a∈dP,takerIn (HK P) 214 a=some none:=λa ha=>by
 have h:dP.all (λa=>takerIn (HK P) 214 a==some none)=true:=by kernel_rfl
 exact beq_iff_eq.mp (ba.mp h a ha)
theorem JX(P:al):makesIn (HK P) 266=true:=by kernel_rfl
theorem JY(P:al):findIn (HK P) (.ref 266) "__init__" =some (some (.ref 233)):=by kernel_rfl
theorem JZ(P:al):typeIn (HK P) (.ref 233)=some (.type "function"):=by kernel_rfl
theorem J1(P:al):(az (HK P) 233).closure=[(aa "__class__",220)]:=by kernel_rfl
theorem J2(P:al):(match(HK P).lookup 220 with|some ⟨_,_, .cell u,_⟩=>u|_=>none)=some (.ref 266):=by kernel_rfl
theorem J3(P:al):(((az (HK P) 233).params.posonlyargs++(az (HK P) 233).params.args).head?).map (·.arg)=some (aa "self"):=by kernel_rfl
theorem J4(P:al):(az (HK P) 233).code= .ref 232:=by kernel_rfl
theorem J5(P:al):(match(HK P).lookup 232 with|some ⟨_,_, .fields vs,_⟩=>(match(vs[2]? :Option ae)with|some (.str x _)=>((iu.main.file:Str)==x)|_=>false)|_=>false)=true:=by kernel_rfl
theorem J6(P:al):(az (HK P) 233).scope.names.lookup (aa "super")=some .globalImplicit:=by kernel_rfl
theorem J7(P:al):(az (HK P) 233).scope.names.lookup (aa "__class__")=some .free:=by kernel_rfl
theorem J8(P:al):mroIn (HK P) 266 (.ref 266)=some true:=by kernel_rfl
theorem J9(P:al):wy (HK P) 266 266 "__init__" =some (some (.ref 97)):=by kernel_rfl
theorem J'(P:al):findIn (HK P) (.ref 266) "__setattr__" =some (some (.builtin "object.__setattr__")):=by kernel_rfl
theorem Ka(P:al):plainOver (HK P) 266=true:=by kernel_rfl
theorem Kb(P:al):∀a∈dP,takerIn (HK P) 266 a=some none:=λa ha=>by
 have h:dP.all (λa=>takerIn (HK P) 266 a==some none)=true:=by kernel_rfl
 exact beq_iff_eq.mp (ba.mp h a ha)
theorem Ag:(iu.main.scope.names.lookup (aa "super")).isSome=false:=by kernel_rfl
theorem Ah(P:al):typeIn (HK P) (.ref 97)=some (.type "function"):=by kernel_rfl
theorem Ai(P:al):fnIn (HK P) 97=true:=by kernel_rfl
theorem Aj(P:al):nsIn (HK P) cStatics "thirdparty.any" =some none:=by kernel_rfl
theorem Ak:au (an (ag 12) 0)=[aa "self",aa "arrlist"]:=by kernel_rfl
section
variable{w:fk}{h:Heap}{mg mb:Str->Option ae}
theorem Kc:aT (an (ag 13) 0)= .Expr (.Call (.Attribute (.Call (.Name "super" ⟨107,8,107,13⟩) [] [] ⟨107,8,107,15⟩) "__init__" ⟨107,8,107,24⟩) [.Name "arrlist" ⟨107,25,107,32⟩] [] ⟨107,8,107,33⟩) ⟨107,8,107,33⟩::(aT (an (ag 13) 0)).drop 1:=by kernel_rfl
theorem Kd:au (an (ag 13) 0)=aa "self" ::[aa "components",aa "arrlist"]:=by kernel_rfl
theorem Ke(O:aZ (wd w h mg mb)):ub (wd w h mg mb) .tup 181 97 168 180 (az (HK w.params) 181) (az (HK w.params) 97) [aa "components",aa "arrlist"] ⟨107,8,107,13⟩ ⟨107,8,107,15⟩ ⟨107,8,107,24⟩ ⟨107,25,107,32⟩ ⟨107,8,107,33⟩ ⟨107,8,107,33⟩ ((aT (an (ag 13) 0)).drop 1) (aT (an (ag 12) 0)) [(aa "components",aa "components")]:=by
 have X:(HK w.params).In (ghostOf h bd):=O.kin
 have D:=IZ (W:=wd w h mg mb) (P:=w.params) X rfl
 rw[Kc,Kd]at D
 have DB:=zx (W:=wd w h mg mb) (P:=w.params) X rfl
 rw[Ak]at DB
 exact {makes:=JI w.params,init:=JJ w.params,initF:=JK w.params,D:=D,clos:=JL w.params,cell:=Ae X (JM w.params),self1:=JN w.params,code:=JO w.params,file:=Af X _ (JP w.params),line:=by decide,top:=Ag,nsuper:=JQ w.params,ncls:=JR w.params,cls:=let ⟨cd,e,_⟩:=O.cd .tup;⟨cd,e⟩,sub:=JS w.params,up:=JT w.params,upF:=Ah w.params,upD:=Ai w.params,noany:=Aj w.params,DB:=DB,iniB:= .fld (by decide+kernel) (.doc .nil),ini:= .fld (by decide+kernel) (.doc .nil),setattr:=JU w.params,over:=JV w.params,taker:=JW w.params,arr:=by simp,from_:=by simp[dP],nd:=by decide+kernel,short:=by decide}
theorem Kf:aT (an (ag 14) 0)= .Expr (.Call (.Attribute (.Call (.Name "super" ⟨137,8,137,13⟩) [] [] ⟨137,8,137,15⟩) "__init__" ⟨137,8,137,24⟩) [.Name "arrlist" ⟨137,25,137,32⟩] [] ⟨137,8,137,33⟩) ⟨137,8,137,33⟩::(aT (an (ag 14) 0)).drop 1:=by kernel_rfl
theorem Kg:au (an (ag 14) 0)=aa "self" ::[aa "base",aa "sub",aa "arrlist"]:=by kernel_rfl
theorem Kh(O:aZ (wd w h mg mb)):ub (wd w h mg mb) .bas 233 97 220 232 (az (HK w.params) 233) (az (HK w.params) 97) [aa "base",aa "sub",aa "arrlist"] ⟨137,8,137,13⟩ ⟨137,8,137,15⟩ ⟨137,8,137,24⟩ ⟨137,25,137,32⟩ ⟨137,8,137,33⟩ ⟨137,8,137,33⟩ ((aT (an (ag 14) 0)).drop 1) (aT (an (ag 12) 0)) [(aa "base",aa "base"),(aa "sub",aa "sub")]:=by
 have X:(HK w.params).In (ghostOf h bd):=O.kin
 have D:=Je (W:=wd w h mg mb) (P:=w.params) X rfl
 rw[Kf,Kg]at D
 have DB:=zx (W:=wd w h mg mb) (P:=w.params) X rfl
 rw[Ak]at DB
 exact {makes:=JX w.params,init:=JY w.params,initF:=JZ w.params,D:=D,clos:=J1 w.params,cell:=Ae X (J2 w.params),self1:=J3 w.params,code:=J4 w.params,file:=Af X _ (J5 w.params),line:=by decide,top:=Ag,nsuper:=J6 w.params,ncls:=J7 w.params,cls:=let ⟨cd,e,_⟩:=O.cd .bas;⟨cd,e⟩,sub:=J8 w.params,up:=J9 w.params,upF:=Ah w.params,upD:=Ai w.params,noany:=Aj w.params,DB:=DB,iniB:= .fld (by decide+kernel) (.doc .nil),ini:= .fld (by decide+kernel) (.doc (.fld (by decide+kernel) (.doc .nil))),setattr:=J' w.params,over:=Ka w.params,taker:=Kb w.params,arr:=by simp,from_:=by simp[dP],nd:=by decide+kernel,short:=by decide}
end
end
section
noncomputable def aO(C:Calls)(gen:Bool)(st:aC)(args:List PV):Res PV:=
 if args.length=(au st).length then jP (aw (pX C gen 12 (ck st)) (aT st) ((au st).zip args))else .stuck
noncomputable def Al:List Str:=[aa "components",aa "arrlist"]
noncomputable def Am:List Str:=[aa "base",aa "sub",aa "arrlist"]
noncomputable def Ki:List (Str×Str):=[(aa "components",aa "components")]
noncomputable def Kj:List (Str×Str):=[(aa "base",aa "base"),(aa "sub",aa "sub")]
noncomputable def ia(f:Str)(args:List PV):Res PV:=
 if f=aa "TupleType" then(if args.length=Al.length then .ok (uc .tup Al Ki args)else .stuck)
 else if f=aa "BasicType" then(if args.length=Am.length then .ok (uc .bas Am Kj args)else .stuck)
 else .stuck
noncomputable def pY:Res PV->Res PV
 | .ok (.bool b)=> .ok (.bool b)
 | .exc c=> .exc c
 |_=> .stuck
noncomputable def jS:aC:=an (ag 12) 1
noncomputable def jf(C:Calls)(args:List PV):Res PV:=
 if args.length=(au jS).length then pY (jP (aw (nQ (pE C false 24) (ck jS)) (aT jS) ((au jS).zip args)))else .stuck
noncomputable def jg(C:Calls)(c:aY)(m:Str)(args:List PV):Res PV:=
 if m=aa "to_type_str" then(match c with| .tup=>aO C true (an (ag 13) 1) args| .bas=>aO C true (an (ag 14) 1) args)
 else if m=aa "validate" then(match c with| .tup=>aO C false (an (ag 13) 3) args| .bas=>aO C false (an (ag 14) 4) args)
 else if m=aa "invalidate" then aO C false (an (ag 12) 5) args
 else if m=aa "__eq__" then jf C args
 else .stuck
noncomputable def jT(C:Calls)(c:aY)(a:Str)(v:PV):Res PV:=
 if a=aa "is_array" then aO C false (an (ag 12) 6) [v]
 else if a=aa "_has_dynamic_arrlist" then aO C true (an (ag 12) 8) [v]
 else if a=aa "item_type" then(match c with| .tup=>aO C false (an (ag 13) 2) [v]| .bas=>aO C false (an (ag 14) 2) [v])
 else if a=aa "is_dynamic" then(match c with| .tup=>aO C true (an (ag 13) 4) [v]| .bas=>aO C false (an (ag 14) 3) [v])
 else .stuck
noncomputable def jU:List Nat:=ao (aa "ABCDEFGHIJKLMNOPQRSTUVWXYZabcdefghijklmnopqrstuvwxyz")
noncomputable def gw:List Nat:=ao (aa "0123456789")
noncomputable def lZ(x:Str):Option PV:=if x=aa "_LETTERS" then some (.str jU)else if x=aa "_DIGITS" then some (.str gw)else none
noncomputable def pZ:Calls:=⟨λø ø=> .stuck,λø ø ø=> .stuck,λø ø ø=> .stuck,λø=>none⟩
noncomputable def bi:Nat->Calls
 |0=>pZ
 |j+1=>⟨ia,jg (bi j),jT (bi j),lZ⟩
noncomputable def qd:List (Str×aC):=[(aa "_parse_digits",ag 6),(aa "_parse_arrlist",ag 7),(aa "_parse_sub",ag 8),(aa "_parse_tuple_type",ag 9),(aa "_parse_type",ag 10),(aa "parse",ag 11),
 (aa "_law_names",ag 16),(aa "_law_subs",ag 17),(aa "_law_marks",ag 18),(aa "_law_number",ag 21),(aa "_law_name",ag 23),(aa "_law_read",ag 24),(aa "_law_varies",ag 25),(aa "_law_valid",ag 26),(aa "_law_told",ag 27),(aa "_law_agrees",ag 28)]
noncomputable def jh(C:Calls)(f:Str)(args:List PV):Res PV:=match qd.lookup f with
 |some st=>aO C false st args
 |none=>if f=aa "_law_parts" then(match args with
   |[.str x]=>if x.length<=aX then .ok (.list ((cE x).map .str))else .stuck
   |_=> .stuck)
  else ia f args
noncomputable def fE(J:Nat):Nat->Calls
 |0=>bi J
 |k+1=>⟨jh (fE J k),(bi J).meth,(bi J).prop,(bi J).glob⟩
section
variable{W:Wd}{n n':Nat}
theorem gc.mono{fv:ae}{args:List PV}{r:Res PV}(h:gc W n fv args r)(hn:n<=n'):gc W n' fv args r:=λA l s X vs R ra hne hd hu=>h A l s X vs R ra hne (r8 ‹_› ‹_›) (sd ‹_› ‹_›)
theorem ge.mono{fv:ae}{args:List PV}{r:Res PV}(h:ge W n fv args r)(hn:n<=n'):ge W n' fv args r:=λA l s X vs R ra hne hd hu=>h A l s X vs R ra hne (r8 ‹_› ‹_›) (sd ‹_› ‹_›)
theorem cw{fv:ae}{args:List PV}:gc W n fv args .stuck:=λA l s X vs R ra hne=>absurd rfl hne
theorem qe{fv:ae}{args:List PV}:ge W n fv args .stuck:=λA l s X vs R ra hne=>absurd rfl hne
theorem cG(O:aZ W){C:Calls}{g gen:Bool}{N:Nat}{fa:Addr}{fd:dA}{st:aC}(D:bw g W fa fd (aT st) (au st))(hsc:fd.scope=ck st)(hX:fD g W N (pX C gen 12))(args:List PV):ge W (N+2) (.ref fa) args (aO C gen st args):=by
 unfold aO
 split
 ·rename_i h
  have:=t9 O D hX args h
  rwa [hsc]at this
 ·exact qe
end
end
section
section
variable{W:Wd}{n:Nat}
theorem us{fa:Addr}(h:∃o,W.base.get? fa=some o/\ ∃fd,o.data= .func fd):ce W (.ref fa):=by
 refine DR h λo h1 fd h2=> ?_
 exact Gj h1 h2
theorem An(O:aZ W){C:Addr}(hk:keepIn W.K (.ref C)=true):ce W (.ref C):=λA E s pos first args Q ha h=>
 callWith_of (P:=λh=>W.K.In h) (by rw[ha];rfl) (keeps_K hk) (fQ h (λa s₁ y=>⟨y.1.kin O,y.2⟩) λø ø z=>z)
noncomputable def bo(W:Wd)(n:Nat)(f:Str)(r:List PV->Res PV):Prop:=∃fv,W.mg f=some fv/\ ce W fv/\ ∀args,gc W n fv args (r args)
end
section
variable{w:fk}{h:Heap}{mg mb:Str->Option ae}{p:ki}{loose:List Str}
structure bb(w:fk)(h:Heap)(mg mb:Str->Option ae):Prop where
 O:aZ (wd w h mg mb)
 X0:kS (wd w h mg mb)
 H:pU (wd w h mg mb)
variable{n:Nat}{C:Calls}
theorem dq(Z:bb w h mg mb)(hC:bu (wd w h mg mb) n C):fD false (wd w h mg mb) n (pX C false 12):=HB Z.O Z.X0 hC (yZ Z.H) 12
theorem qf(Z:bb w h mg mb)(hC:bu (wd w h mg mb) n C):fD true (wd w h mg mb) (n+4) (pX C true 12):=HA Z.O Z.X0 hC (yZ Z.H) 12
theorem bT{g:Bool}{fa:Addr}{fd:dA}{body:List aC}{params:List Str}(D:bw g (wd w h mg mb) fa fd body params):ce (wd w h mg mb) (.ref fa):=by
 refine ay D.at_ λo e1 e2=> ?_
 exact us ⟨o,e1,fd,e2⟩
theorem Ao(P:al):nsIn (HK P) mainGlobals (aa "_parse_digits")=some (some (.ref 47)):=by kernel_rfl
theorem Ap(P:al):nsIn (HK P) mainGlobals (aa "_parse_arrlist")=some (some (.ref 54)):=by kernel_rfl
theorem Aq(P:al):nsIn (HK P) mainGlobals (aa "_parse_sub")=some (some (.ref 61)):=by kernel_rfl
theorem Ar(P:al):nsIn (HK P) mainGlobals (aa "_parse_tuple_type")=some (some (.ref 68)):=by kernel_rfl
theorem As(P:al):nsIn (HK P) mainGlobals (aa "_parse_type")=some (some (.ref 75)):=by kernel_rfl
theorem Au(P:al):nsIn (HK P) mainGlobals (aa "parse")=some (some (.ref 82)):=by kernel_rfl
theorem Av(P:al):nsIn (HK P) mainGlobals (aa "_law_names")=some (some (.ref 275)):=by kernel_rfl
theorem Aw(P:al):nsIn (HK P) mainGlobals (aa "_law_subs")=some (some (.ref 282)):=by kernel_rfl
theorem Ax(P:al):nsIn (HK P) mainGlobals (aa "_law_marks")=some (some (.ref 289)):=by kernel_rfl
theorem Ay(P:al):nsIn (HK P) mainGlobals (aa "_law_number")=some (some (.ref 306)):=by kernel_rfl
theorem Az(P:al):nsIn (HK P) mainGlobals (aa "_law_name")=some (some (.ref 318)):=by kernel_rfl
theorem AA(P:al):nsIn (HK P) mainGlobals (aa "_law_read")=some (some (.ref 323)):=by kernel_rfl
theorem AB(P:al):nsIn (HK P) mainGlobals (aa "_law_varies")=some (some (.ref 328)):=by kernel_rfl
theorem AC(P:al):nsIn (HK P) mainGlobals (aa "_law_valid")=some (some (.ref 333)):=by kernel_rfl
theorem AD(P:al):nsIn (HK P) mainGlobals (aa "_law_told")=some (some (.ref 340)):=by kernel_rfl
theorem AE(P:al):nsIn (HK P) mainGlobals (aa "_law_agrees")=some (some (.ref 345)):=by kernel_rfl
theorem AF(P:al):nsIn (HK P) mainGlobals (aa "_law_parts")=some (some (.ref 313)):=by kernel_rfl
theorem AG(P:al):nsIn (HK P) mainGlobals (aa "_law_take")=some (some (.ref 296)):=by kernel_rfl
theorem Kk(Z:bb w h mg mb)(hC:bu (wd w h mg mb) n C):bo (wd w h mg mb) (n+2) (aa "_parse_digits") (aO C false (ag 6)):=
 have D:=zg (W:=wd w h mg mb) (P:=w.params) Z.O.kin rfl
 ⟨.ref 47,bH (K:=HK w.params) Z.O.kin Z.O.g (Ao w.params),bT D,λargs=>(cG Z.O D (zf w.params).scope (dq Z hC) args).k⟩
theorem Kl(Z:bb w h mg mb)(hC:bu (wd w h mg mb) n C):bo (wd w h mg mb) (n+2) (aa "_parse_arrlist") (aO C false (ag 7)):=
 have D:=zi (W:=wd w h mg mb) (P:=w.params) Z.O.kin rfl
 ⟨.ref 54,bH (K:=HK w.params) Z.O.kin Z.O.g (Ap w.params),bT D,λargs=>(cG Z.O D (zh w.params).scope (dq Z hC) args).k⟩
theorem Km(Z:bb w h mg mb)(hC:bu (wd w h mg mb) n C):bo (wd w h mg mb) (n+2) (aa "_parse_sub") (aO C false (ag 8)):=
 have D:=zk (W:=wd w h mg mb) (P:=w.params) Z.O.kin rfl
 ⟨.ref 61,bH (K:=HK w.params) Z.O.kin Z.O.g (Aq w.params),bT D,λargs=>(cG Z.O D (zj w.params).scope (dq Z hC) args).k⟩
theorem Kn(Z:bb w h mg mb)(hC:bu (wd w h mg mb) n C):bo (wd w h mg mb) (n+2) (aa "_parse_tuple_type") (aO C false (ag 9)):=
 have D:=zo (W:=wd w h mg mb) (P:=w.params) Z.O.kin rfl
 ⟨.ref 68,bH (K:=HK w.params) Z.O.kin Z.O.g (Ar w.params),bT D,λargs=>(cG Z.O D (zn w.params).scope (dq Z hC) args).k⟩
theorem Ko(Z:bb w h mg mb)(hC:bu (wd w h mg mb) n C):bo (wd w h mg mb) (n+2) (aa "_parse_type") (aO C false (ag 10)):=
 have D:=zu (W:=wd w h mg mb) (P:=w.params) Z.O.kin rfl
 ⟨.ref 75,bH (K:=HK w.params) Z.O.kin Z.O.g (As w.params),bT D,λargs=>(cG Z.O D (zt w.params).scope (dq Z hC) args).k⟩
theorem Kp(Z:bb w h mg mb)(hC:bu (wd w h mg mb) n C):bo (wd w h mg mb) (n+2) (aa "parse") (aO C false (ag 11)):=
 have D:=zw (W:=wd w h mg mb) (P:=w.params) Z.O.kin rfl
 ⟨.ref 82,bH (K:=HK w.params) Z.O.kin Z.O.g (Au w.params),bT D,λargs=>(cG Z.O D (zv w.params).scope (dq Z hC) args).k⟩
theorem AH(Z:bb w h mg mb)(hC:bu (wd w h mg mb) n C):bo (wd w h mg mb) (n+2) (aa "_law_names") (aO C false (ag 16)):=
 have D:=zS (W:=wd w h mg mb) (P:=w.params) Z.O.kin rfl
 ⟨.ref 275,bH (K:=HK w.params) Z.O.kin Z.O.g (Av w.params),bT D,λargs=>(cG Z.O D (zR w.params).scope (dq Z hC) args).k⟩
theorem AI(Z:bb w h mg mb)(hC:bu (wd w h mg mb) n C):bo (wd w h mg mb) (n+2) (aa "_law_subs") (aO C false (ag 17)):=
 have D:=zU (W:=wd w h mg mb) (P:=w.params) Z.O.kin rfl
 ⟨.ref 282,bH (K:=HK w.params) Z.O.kin Z.O.g (Aw w.params),bT D,λargs=>(cG Z.O D (zT w.params).scope (dq Z hC) args).k⟩
theorem Kq(Z:bb w h mg mb)(hC:bu (wd w h mg mb) n C):bo (wd w h mg mb) (n+2) (aa "_law_marks") (aO C false (ag 18)):=
 have D:=zW (W:=wd w h mg mb) (P:=w.params) Z.O.kin rfl
 ⟨.ref 289,bH (K:=HK w.params) Z.O.kin Z.O.g (Ax w.params),bT D,λargs=>(cG Z.O D (zV w.params).scope (dq Z hC) args).k⟩
theorem Kr(Z:bb w h mg mb)(hC:bu (wd w h mg mb) n C):bo (wd w h mg mb) (n+2) (aa "_law_number") (aO C false (ag 21)):=
 have D:=zY (W:=wd w h mg mb) (P:=w.params) Z.O.kin rfl
 ⟨.ref 306,bH (K:=HK w.params) Z.O.kin Z.O.g (Ay w.params),bT D,λargs=>(cG Z.O D (zX w.params).scope (dq Z hC) args).k⟩
theorem Ks(Z:bb w h mg mb)(hC:bu (wd w h mg mb) n C):bo (wd w h mg mb) (n+2) (aa "_law_name") (aO C false (ag 23)):=
 have D:=z3 (W:=wd w h mg mb) (P:=w.params) Z.O.kin rfl
 ⟨.ref 318,bH (K:=HK w.params) Z.O.kin Z.O.g (Az w.params),bT D,λargs=>(cG Z.O D (z0 w.params).scope (dq Z hC) args).k⟩
theorem Kt(Z:bb w h mg mb)(hC:bu (wd w h mg mb) n C):bo (wd w h mg mb) (n+2) (aa "_law_read") (aO C false (ag 24)):=
 have D:=z5 (W:=wd w h mg mb) (P:=w.params) Z.O.kin rfl
 ⟨.ref 323,bH (K:=HK w.params) Z.O.kin Z.O.g (AA w.params),bT D,λargs=>(cG Z.O D (z4 w.params).scope (dq Z hC) args).k⟩
theorem Ku(Z:bb w h mg mb)(hC:bu (wd w h mg mb) n C):bo (wd w h mg mb) (n+2) (aa "_law_varies") (aO C false (ag 25)):=
 have D:=z7 (W:=wd w h mg mb) (P:=w.params) Z.O.kin rfl
 ⟨.ref 328,bH (K:=HK w.params) Z.O.kin Z.O.g (AB w.params),bT D,λargs=>(cG Z.O D (z6 w.params).scope (dq Z hC) args).k⟩
theorem Kv(Z:bb w h mg mb)(hC:bu (wd w h mg mb) n C):bo (wd w h mg mb) (n+2) (aa "_law_valid") (aO C false (ag 26)):=
 have D:=z9 (W:=wd w h mg mb) (P:=w.params) Z.O.kin rfl
 ⟨.ref 333,bH (K:=HK w.params) Z.O.kin Z.O.g (AC w.params),bT D,λargs=>(cG Z.O D (z8 w.params).scope (dq Z hC) args).k⟩
theorem Kw(Z:bb w h mg mb)(hC:bu (wd w h mg mb) n C):bo (wd w h mg mb) (n+2) (aa "_law_told") (aO C false (ag 27)):=
 have D:=Ab (W:=wd w h mg mb) (P:=w.params) Z.O.kin rfl
 ⟨.ref 340,bH (K:=HK w.params) Z.O.kin Z.O.g (AD w.params),bT D,λargs=>(cG Z.O D (Aa w.params).scope (dq Z hC) args).k⟩
theorem Kx(Z:bb w h mg mb)(hC:bu (wd w h mg mb) n C):bo (wd w h mg mb) (n+2) (aa "_law_agrees") (aO C false (ag 28)):=
 have D:=Ad (W:=wd w h mg mb) (P:=w.params) Z.O.kin rfl
 ⟨.ref 345,bH (K:=HK w.params) Z.O.kin Z.O.g (AE w.params),bT D,λargs=>(cG Z.O D (Ac w.params).scope (dq Z hC) args).k⟩
theorem Ky(Z:bb w h mg mb):bo (wd w h mg mb) n (aa "_parse_digits") (λø=> .stuck):=
 ⟨.ref 47,bH (K:=HK w.params) Z.O.kin Z.O.g (Ao w.params),bT (zg (W:=wd w h mg mb) (P:=w.params) Z.O.kin rfl),λargs=>cw⟩
theorem Kz(Z:bb w h mg mb):bo (wd w h mg mb) n (aa "_parse_arrlist") (λø=> .stuck):=
 ⟨.ref 54,bH (K:=HK w.params) Z.O.kin Z.O.g (Ap w.params),bT (zi (W:=wd w h mg mb) (P:=w.params) Z.O.kin rfl),λargs=>cw⟩
theorem KA(Z:bb w h mg mb):bo (wd w h mg mb) n (aa "_parse_sub") (λø=> .stuck):=
 ⟨.ref 61,bH (K:=HK w.params) Z.O.kin Z.O.g (Aq w.params),bT (zk (W:=wd w h mg mb) (P:=w.params) Z.O.kin rfl),λargs=>cw⟩
theorem KB(Z:bb w h mg mb):bo (wd w h mg mb) n (aa "_parse_tuple_type") (λø=> .stuck):=
 ⟨.ref 68,bH (K:=HK w.params) Z.O.kin Z.O.g (Ar w.params),bT (zo (W:=wd w h mg mb) (P:=w.params) Z.O.kin rfl),λargs=>cw⟩
theorem KC(Z:bb w h mg mb):bo (wd w h mg mb) n (aa "_parse_type") (λø=> .stuck):=
 ⟨.ref 75,bH (K:=HK w.params) Z.O.kin Z.O.g (As w.params),bT (zu (W:=wd w h mg mb) (P:=w.params) Z.O.kin rfl),λargs=>cw⟩
theorem KD(Z:bb w h mg mb):bo (wd w h mg mb) n (aa "parse") (λø=> .stuck):=
 ⟨.ref 82,bH (K:=HK w.params) Z.O.kin Z.O.g (Au w.params),bT (zw (W:=wd w h mg mb) (P:=w.params) Z.O.kin rfl),λargs=>cw⟩
theorem KE(Z:bb w h mg mb):bo (wd w h mg mb) n (aa "_law_names") (λø=> .stuck):=
 ⟨.ref 275,bH (K:=HK w.params) Z.O.kin Z.O.g (Av w.params),bT (zS (W:=wd w h mg mb) (P:=w.params) Z.O.kin rfl),λargs=>cw⟩
theorem KF(Z:bb w h mg mb):bo (wd w h mg mb) n (aa "_law_subs") (λø=> .stuck):=
 ⟨.ref 282,bH (K:=HK w.params) Z.O.kin Z.O.g (Aw w.params),bT (zU (W:=wd w h mg mb) (P:=w.params) Z.O.kin rfl),λargs=>cw⟩
theorem KG(Z:bb w h mg mb):bo (wd w h mg mb) n (aa "_law_marks") (λø=> .stuck):=
 ⟨.ref 289,bH (K:=HK w.params) Z.O.kin Z.O.g (Ax w.params),bT (zW (W:=wd w h mg mb) (P:=w.params) Z.O.kin rfl),λargs=>cw⟩
theorem KH(Z:bb w h mg mb):bo (wd w h mg mb) n (aa "_law_number") (λø=> .stuck):=
 ⟨.ref 306,bH (K:=HK w.params) Z.O.kin Z.O.g (Ay w.params),bT (zY (W:=wd w h mg mb) (P:=w.params) Z.O.kin rfl),λargs=>cw⟩
theorem KJ(Z:bb w h mg mb):bo (wd w h mg mb) n (aa "_law_name") (λø=> .stuck):=
 ⟨.ref 318,bH (K:=HK w.params) Z.O.kin Z.O.g (Az w.params),bT (z3 (W:=wd w h mg mb) (P:=w.params) Z.O.kin rfl),λargs=>cw⟩
theorem KL(Z:bb w h mg mb):bo (wd w h mg mb) n (aa "_law_read") (λø=> .stuck):=
 ⟨.ref 323,bH (K:=HK w.params) Z.O.kin Z.O.g (AA w.params),bT (z5 (W:=wd w h mg mb) (P:=w.params) Z.O.kin rfl),λargs=>cw⟩
theorem KM(Z:bb w h mg mb):bo (wd w h mg mb) n (aa "_law_varies") (λø=> .stuck):=
 ⟨.ref 328,bH (K:=HK w.params) Z.O.kin Z.O.g (AB w.params),bT (z7 (W:=wd w h mg mb) (P:=w.params) Z.O.kin rfl),λargs=>cw⟩
theorem KN(Z:bb w h mg mb):bo (wd w h mg mb) n (aa "_law_valid") (λø=> .stuck):=
 ⟨.ref 333,bH (K:=HK w.params) Z.O.kin Z.O.g (AC w.params),bT (z9 (W:=wd w h mg mb) (P:=w.params) Z.O.kin rfl),λargs=>cw⟩
theorem KP(Z:bb w h mg mb):bo (wd w h mg mb) n (aa "_law_told") (λø=> .stuck):=
 ⟨.ref 340,bH (K:=HK w.params) Z.O.kin Z.O.g (AD w.params),bT (Ab (W:=wd w h mg mb) (P:=w.params) Z.O.kin rfl),λargs=>cw⟩
theorem KQ(Z:bb w h mg mb):bo (wd w h mg mb) n (aa "_law_agrees") (λø=> .stuck):=
 ⟨.ref 345,bH (K:=HK w.params) Z.O.kin Z.O.g (AE w.params),bT (Ad (W:=wd w h mg mb) (P:=w.params) Z.O.kin rfl),λargs=>cw⟩
theorem KR(Z:bb w h mg mb):bo (wd w h mg mb) n (aa "_law_parts") (λø=> .stuck):=
 ⟨.ref 313,bH (K:=HK w.params) Z.O.kin Z.O.g (AF w.params),bT (zZ (W:=wd w h mg mb) (P:=w.params) Z.O.kin rfl),λargs=>cw⟩
theorem AJ(P:al):nsIn (HK P) mainGlobals (aa "_law_tree")=some (some (.ref 301)):=by kernel_rfl
theorem KS(P:al):fnIn (HK P) 301=true:=by kernel_rfl
theorem AK(Z:bb w h mg mb):bo (wd w h mg mb) n (aa "_law_tree") (λø=> .stuck):=by
 refine ay (un (K:=HK w.params) (h:=(wd w h mg mb).base) Z.O.kin (KS w.params)) λo e1 e2=> ?_
 exact⟨.ref 301,bH (K:=HK w.params) Z.O.kin Z.O.g (AJ w.params),us ⟨o,e1,_,e2⟩,λø=>cw⟩
theorem AL(Z:bb w h mg mb):bo (wd w h mg mb) n (aa "_law_take") (λø=> .stuck):=
 ⟨.ref 296,bH (K:=HK w.params) Z.O.kin Z.O.g (AG w.params),bT (ur (W:=wd w h mg mb) (P:=w.params) Z.O.kin rfl),λø=>cw⟩
theorem KT(P:al):keepIn (HK P) (.ref 214)=true:=by kernel_rfl
theorem KU(P:al):keepIn (HK P) (.ref 266)=true:=by kernel_rfl
theorem ut(Z:bb w h mg mb):bo (wd w h mg mb) n (aa "TupleType") (ia (aa "TupleType")):=
 ⟨.ref 214,Z.O.tupN,An Z.O (KT w.params),λargs=>by
  unfold ia
  rw[if_pos rfl]
  split
  ·rename_i hl
   exact y3 Z.O (Ke Z.O) args hl
  ·exact cw⟩
theorem uu(Z:bb w h mg mb):bo (wd w h mg mb) n (aa "BasicType") (ia (aa "BasicType")):=
 ⟨.ref 266,Z.O.basN,An Z.O (KU w.params),λargs=>by
  unfold ia
  rw[if_neg (by decide+kernel),if_pos rfl]
  split
  ·rename_i hl
   exact y3 Z.O (Kh Z.O) args hl
  ·exact cw⟩
theorem KV:aT (ag 22)=uh:=by kernel_rfl
theorem KW:au (ag 22)=[aa "text"]:=by kernel_rfl
theorem KY(P:al):(az (HK P) 313).scope.names.lookup (aa "found")=some .local:=by kernel_rfl
theorem KZ(P:al):(az (HK P) 313).scope.names.lookup (aa "depth")=some .local:=by kernel_rfl
theorem K1(P:al):(az (HK P) 313).scope.names.lookup (aa "sign")=some .local:=by kernel_rfl
set_option tactic.hygienic true in
theorem K5(Z:bb w h mg mb):bo (wd w h mg mb) (n+1) (aa "_law_parts") (λargs=>match args with
   |[.str x]=>if x.length<=aX then .ok (.list ((cE x).map .str))else .stuck
   |_=> .stuck):=by
 have D:=zZ (W:=wd w h mg mb) (P:=w.params) Z.O.kin rfl
 refine⟨.ref 313,bH (K:=HK w.params) Z.O.kin Z.O.g (AF w.params),bT D,λargs=> ?_⟩
 rw[KW,KV]at D
 dsimp only
 split
 ·rename_i x
  split
  ·rename_i hx
   exact Ih Z.O D (KY _) (KZ _) (K1 _) x hx
  ·exact cw
 ·exact cw
theorem bo.mono{f:Str}{r:List PV->Res PV}{m:Nat}(k:bo (wd w h mg mb) n f r)(hn:n<=m):bo (wd w h mg mb) m f r:=let ⟨fv,a,b,c⟩:=k;⟨fv,a,b,λargs=>(c args).mono hn⟩
theorem bo.eqv{f:Str}{r r':List PV->Res PV}(k:bo (wd w h mg mb) n f r)(e:∀a,r a=r' a):bo (wd w h mg mb) n f r':=let ⟨fv,a,b,c⟩:=k;⟨fv,a,b,λargs=>e args▸c args⟩
end
end
section
section
variable{w:fk}{h:Heap}{mg mb:Str->Option ae}{n:Nat}{C:Calls}
theorem m1(P:al):findIn (HK P) (.ref 214) (aa "to_type_str")=some (some (.ref 188)):=by kernel_rfl
theorem m2(P:al):findIn (HK P) (.ref 266) (aa "to_type_str")=some (some (.ref 240)):=by kernel_rfl
theorem m3(P:al):findIn (HK P) (.ref 214) (aa "validate")=some (some (.ref 203)):=by kernel_rfl
theorem m4(P:al):findIn (HK P) (.ref 266) (aa "validate")=some (some (.ref 263)):=by kernel_rfl
theorem m5(P:al)(c:aY):findIn (HK P) (.ref (dZ c)) (aa "invalidate")=some (some (.ref 133)):=by cases c<;>kernel_rfl
theorem m6(P:al)(c:aY):findIn (HK P) (.ref (dZ c)) (aa "__eq__")=some (some (.ref 104)):=by cases c<;>kernel_rfl
theorem t1(P:al):typeIn (HK P) (.ref 188)=some (.type "function"):=by kernel_rfl
theorem t2(P:al):typeIn (HK P) (.ref 240)=some (.type "function"):=by kernel_rfl
theorem t3(P:al):typeIn (HK P) (.ref 203)=some (.type "function"):=by kernel_rfl
theorem t4(P:al):typeIn (HK P) (.ref 263)=some (.type "function"):=by kernel_rfl
theorem t5(P:al):typeIn (HK P) (.ref 133)=some (.type "function"):=by kernel_rfl
theorem t6(P:al):typeIn (HK P) (.ref 104)=some (.type "function"):=by kernel_rfl
theorem nf(P:al)(c d:aY):notFirst (HK P) (dZ c) (.ref (dZ d))=true:=by cases c<;>cases d<;>kernel_rfl
noncomputable def l0(W:Wd)(n:Nat)(c:aY)(m:Str)(r:List PV->Res PV):Prop:=∃fv,(∀(A:aA) (E:ae->ah->Prop) (s:ah) (x d:Addr) (es:List eU) (k:Nat) (pl:Sem Bool) (P:ae×List ae->ah->Prop),Inv W s->
   s.heap.get? x=some (instObj (W.clsA c) d)->s.heap.get? d=some (dictOf es k)->shadowIn (some (dictOf es k)) m=some false->P (fv,[.ref x]) s->wpAny W.M A (getMethod (.ref x) m pl) P E s)/\ ce W fv/\ ∀args,gc W n fv args (r args)
theorem iI(Z:bb w h mg mb){c:aY}{m:Str}{f:Addr}{r:List PV->Res PV}{g:Bool}{fd:dA}{body:List aC}{params:List Str}(hf:findIn (HK w.params) (.ref (dZ c)) m=some (some (.ref f)))(ht:typeIn (HK w.params) (.ref f)=some (.type "function"))
  (D:bw g (wd w h mg mb) f fd body params) (hk:∀args,gc (wd w h mg mb) n (.ref f) args (r args)):l0 (wd w h mg mb) n c m r:=⟨.ref f,HQ Z.O hf ht,bT D,hk⟩
theorem K6(Z:bb w h mg mb)(hC:bu (wd w h mg mb) n C):∀c m,hZ.contains m=true->l0 (wd w h mg mb) (n+7) c m (jg C c m):=λc m hm=>by
 have hm:m=aa "to_type_str" \/m=aa "validate" \/m=aa "invalidate" :=by
  have:=rU.mp hm
  simpa[hZ] using this
 have X:(HK w.params).In (wd w h mg mb).base:=Z.O.kin
 rcases hm with rfl|rfl|rfl
 ·cases c with
  |tup=>
   have D:=zG (W:=wd w h mg mb) (P:=w.params) X rfl
   exact iI Z (m1 _) (t1 _) D λargs=>((cG Z.O D (zF w.params).scope (qf Z hC) args).k).mono (bf (n+6) 1)
  |bas=>
   have D:=zM (W:=wd w h mg mb) (P:=w.params) X rfl
   exact iI Z (m2 _) (t2 _) D λargs=>((cG Z.O D (zL w.params).scope (qf Z hC) args).k).mono (bf (n+6) 1)
 ·cases c with
  |tup=>
   have D:=zJ (W:=wd w h mg mb) (P:=w.params) X rfl
   exact iI Z (m3 _) (t3 _) D λargs=>((cG Z.O D (zI w.params).scope (dq Z hC) args).k).mono (bf (n+2) 5)
  |bas=>
   have D:=zQ (W:=wd w h mg mb) (P:=w.params) X rfl
   exact iI Z (m4 _) (t4 _) D λargs=>((cG Z.O D (zP w.params).scope (dq Z hC) args).k).mono (bf (n+2) 5)
 ·have D:=zB (W:=wd w h mg mb) (P:=w.params) X rfl
  exact iI Z (m5 _ c) (t5 _) D λargs=>((cG Z.O D (zA w.params).scope (dq Z hC) args).k).mono (bf (n+2) 5)
theorem K7{r:Res PV}:∀v,pY r= .ok v->∃b,v= .bool b:=λv e=>by
 cases r with
 |ok p=>cases p<;>first|(cases e;exact⟨_,rfl⟩)|cases e
 |exc c=>exact jD e
 |stuck=>exact iA e
theorem K8{W:Wd}{fv:ae}{args:List PV}{r:Res PV}(k:ge W n fv args r):ge W n fv args (pY r):=by
 cases r with
 |ok p=>cases p<;>first|exact k|exact qe
 |exc c=>exact k
 |stuck=>exact qe
theorem K9(Z:bb w h mg mb)(hC:bu (wd w h mg mb) n C)(args:List PV):ge (wd w h mg mb) (n+2) (.ref 104) args (jf C args):=by
 unfold jf
 split
 ·rename_i hl
  have:=t9 Z.O (IN (W:=wd w h mg mb) (P:=w.params) Z.O.kin rfl) (HZ (iG Z.O hC 24)) args hl
  rw[(zy w.params).scope]at this
  exact K8 this
 ·exact qe
theorem La(args:List PV):∀v,jf C args= .ok v->∃b,v= .bool b:=λv e=>by
 unfold jf at e
 split at e
 ·exact K7 v e
 ·exact iA e
theorem p1(P:al)(c:aY):findIn (HK P) (.ref (dZ c)) (aa "is_array")=some (some (.ref 141)):=by cases c<;>kernel_rfl
theorem p2(P:al)(c:aY):findIn (HK P) (.ref (dZ c)) (aa "_has_dynamic_arrlist")=some (some (.ref 157)):=by cases c<;>kernel_rfl
theorem p3(P:al):findIn (HK P) (.ref 214) (aa "item_type")=some (some (.ref 196)):=by kernel_rfl
theorem p4(P:al):findIn (HK P) (.ref 266) (aa "item_type")=some (some (.ref 248)):=by kernel_rfl
theorem p5(P:al):findIn (HK P) (.ref 214) (aa "is_dynamic")=some (some (.ref 211)):=by kernel_rfl
theorem p6(P:al):findIn (HK P) (.ref 266) (aa "is_dynamic")=some (some (.ref 256)):=by kernel_rfl
theorem Lb(P:al):∀q∈([(141,140),(157,156),(196,195),(248,247),(211,210),(256,255)]:List (Addr×Addr)),specialIn (HK P) (.ref q.1) "__get__" =some (some (.builtin "property.__get__"))/\ takesIn (HK P) (.ref q.1)=some true/\ ∃rest,recIn (HK P) q.1 "property" =some (.ref q.2::rest):=λq hq=>by
 have key:([(141,140),(157,156),(196,195),(248,247),(211,210),(256,255)]:List (Addr×Addr)).all (λq=>specialIn (HK P) (.ref q.1) "__get__" ==some (some (.builtin "property.__get__"))&&takesIn (HK P) (.ref q.1)==some true&&((recIn (HK P) q.1 "property").bind List.head? ==some (.ref q.2)))=true:=by kernel_rfl
 have:=ba.mp key q hq
 simp only[aI,beq_iff_eq]at this
 refine⟨this.1.1,this.1.2,?_⟩
 cases e:recIn (HK P) q.1 "property" with
 |none=>rw[e]at this;cases this.2
 |some l=>
  rw[e]at this
  cases l with
  |nil=>cases this.2
  |cons a r=>have:=this.2;obtain rfl:=aq this;exact⟨r,rfl⟩
theorem l4(Z:bb w h mg mb){c:aY}{a:Str}{p f:Addr}{fs:List (Str×PV)}{r:Res PV}(hq:(p,f)∈([(141,140),(157,156),(196,195),(248,247),(211,210),(256,255)]:List (Addr×Addr)))(ha:findIn (HK w.params) (.ref (dZ c)) a=some (some (.ref p)))(hK:ge (wd w h mg mb) n (.ref f) [.inst c fs] r)
  (A:aA) (l:List av) (s:ah) (X:Addr->Prop) (va:ae) (R:Ready (wd w h mg mb) X A l s) (ra:Rep (wd w h mg mb) X s.heap va (.inst c fs)):SC (wd w h mg mb) X l (RV (wd w h mg mb) X) (n+1) A (getAttr va a true) s r:=by
 refine rX (Lb w.params (p,f) hq) λh1 h2 rest h3=> ?_
 exact HS (W:=wd w h mg mb) Z.O (JC w.params) ha h1 h2 h3 hK R ra
theorem uv{γ β:Type}{W:Wd}{X:Addr->Prop}{l:List av}{R:Heap->γ->β->Prop}{A:aA}{t:Sem γ}{s:ah}:SC W X l R n A t s (.stuck:Res β):=λhne=>absurd rfl hne
theorem Ld(Z:bb w h mg mb)(hC:bu (wd w h mg mb) n C)(c:aY)(a:Str)(fs:List (Str×PV))(A:aA)(l:List av)(s:ah)(X:Addr->Prop)(va:ae)(R:Ready (wd w h mg mb) X A l s)(ra:Rep (wd w h mg mb) X s.heap va (.inst c fs)):
  SC (wd w h mg mb) X l (RV (wd w h mg mb) X) (n+7) A (getAttr va a true) s (jT C c a (.inst c fs)):=by
 have X':(HK w.params).In (wd w h mg mb).base:=Z.O.kin
 unfold jT
 split
 ·rename_i e;subst e
  refine SC.mono (n:=n+2+1) ?_ (bf (n+3) 4)
  exact l4 (n:=n+2) Z (by decide) (p1 w.params c) (cG (N:=n) Z.O (IR (W:=wd w h mg mb) (P:=w.params) X' rfl) (zD w.params).scope (dq Z hC) _) A l s X va R ra
 ·split
  ·rename_i e;subst e
   exact(l4 (n:=n+4+2) Z (by decide) (p2 _ c) (cG (N:=n+4) Z.O (IV (W:=wd w h mg mb) (P:=w.params) X' rfl) (zE w.params).scope (qf Z hC) _) A l s X va R ra).mono (bP (n+7))
  ·split
   ·rename_i e;subst e
    cases c with
    |tup=>
     exact(l4 (n:=n+2) Z (by decide) (p3 _) (cG Z.O (I5 (W:=wd w h mg mb) (P:=w.params) X' rfl) (zH w.params).scope (dq Z hC) _) A l s X va R ra).mono (bf (n+3) 4)
    |bas=>
     exact(l4 (n:=n+2) Z (by decide) (p4 _) (cG Z.O (Jj (W:=wd w h mg mb) (P:=w.params) X' rfl) (zN w.params).scope (dq Z hC) _) A l s X va R ra).mono (bf (n+3) 4)
   ·split
    ·rename_i e;subst e
     cases c with
     |tup=>
      exact(l4 (n:=n+4+2) Z (by decide) (p5 _) (cG Z.O (Ja (W:=wd w h mg mb) (P:=w.params) X' rfl) (zK w.params).scope (qf Z hC) _) A l s X va R ra).mono (bP (n+7))
     |bas=>
      exact(l4 (n:=n+2) Z (by decide) (p6 _) (cG Z.O (Jl (W:=wd w h mg mb) (P:=w.params) X' rfl) (zO w.params).scope (dq Z hC) _) A l s X va R ra).mono (bf (n+3) 4)
    ·exact uv
theorem g1(P:al):(match nsIn (HK P) mainGlobals (aa "_LETTERS")with|some (some (.str y _))=>ao y==jU|_=>false)=true:=by kernel_rfl
theorem g2(P:al):(match nsIn (HK P) mainGlobals (aa "_DIGITS")with|some (some (.str y _))=>ao y==gw|_=>false)=true:=by kernel_rfl
set_option tactic.hygienic true in
theorem Le(Z:bb w h mg mb):∀x v,lZ x=some v->∃y t,(wd w h mg mb).mg x=some (.str y t)/\ v= .str (ao y):=λx v e=>by
 have key:∀x l,(match nsIn (HK w.params) mainGlobals x with|some (some (.str y _))=>ao y==l|_=>false)=true->∃y t,mg x=some (.str y t)/\ PV.str l= .str (ao y):=λx l hk=>by
  split at hk
  ·rename_i y t hn
   exact⟨y,t,bH (K:=HK w.params) Z.O.kin Z.O.g hn,by rw[beq_iff_eq.mp hk]⟩
  ·exact bZ hk
 unfold lZ at e
 split at e
 ·rename_i q;subst q;obtain rfl:=aq e;exact key _ _ (g1 w.params)
 ·split at e
  ·rename_i q;subst q;obtain rfl:=aq e;exact key _ _ (g2 w.params)
  ·exact am e
theorem AM{f:Str}(hf:jF.contains f=true):f∈jF:=rU.mp hf
noncomputable def l5(W:Wd)(n:Nat)(r:Str->List PV->Res PV):Prop:=∀f,jF.contains f=true->bo W n f (r f)
theorem bo.stuck{W:Wd}{n m:Nat}{f:Str}{r:List PV->Res PV}(k:bo W n f r):bo W m f (λø=> .stuck):=let ⟨fv,a,b,_⟩:=k;⟨fv,a,b,λø=>cw⟩
theorem l5.stuck{W:Wd}{n m:Nat}{r:Str->List PV->Res PV}(k:l5 W n r):l5 W m (λø ø=> .stuck):=λf hf=>(k f hf).stuck
theorem l0.stuck{W:Wd}{n m:Nat}{c:aY}{x:Str}{r:List PV->Res PV}(k:l0 W n c x r):l0 W m c x (λø=> .stuck):=let ⟨fv,a,b,_⟩:=k;⟨fv,a,b,λø=>cw⟩
theorem Lf{f:Str}(h1:f≠aa "TupleType") (h2:f≠aa "BasicType") (args:List PV):ia f args= .stuck:=by
 unfold ia;rw[if_neg h1,if_neg h2]
theorem Lg(Z:bb w h mg mb)(hC:bu (wd w h mg mb) n C):l5 (wd w h mg mb) (n+2) (jh C):=λf hf=>by
 have hf:=AM hf
 simp only[jF,fm,rI,bS,eX,or_false]at hf
 rcases hf with rfl|rfl|rfl|rfl|rfl|rfl|rfl|rfl|rfl|rfl|rfl|rfl|rfl|rfl|rfl|rfl|rfl|rfl|rfl|rfl|rfl
 ·exact(Kk Z hC).eqv λa=>rfl
 ·exact(Kl Z hC).eqv λa=>rfl
 ·exact(Km Z hC).eqv λa=>rfl
 ·exact(Kn Z hC).eqv λa=>rfl
 ·exact(Ko Z hC).eqv λa=>rfl
 ·exact(Kp Z hC).eqv λa=>rfl
 ·exact(ut Z).eqv λa=>rfl
 ·exact(uu Z).eqv λa=>rfl
 ·exact(AH Z hC).eqv λa=>rfl
 ·exact(AI Z hC).eqv λa=>rfl
 ·exact(Kq Z hC).eqv λa=>rfl
 ·exact(AL Z).eqv λa=>rfl
 ·exact(AK Z).eqv λa=>rfl
 ·exact(Kr Z hC).eqv λa=>rfl
 ·exact((K5 (n:=n) Z).mono (oC (gB _))).eqv λa=>rfl
 ·exact(Ks Z hC).eqv λa=>rfl
 ·exact(Kt Z hC).eqv λa=>rfl
 ·exact(Ku Z hC).eqv λa=>rfl
 ·exact(Kv Z hC).eqv λa=>rfl
 ·exact(Kw Z hC).eqv λa=>rfl
 ·exact(Kx Z hC).eqv λa=>rfl
theorem AN(Z:bb w h mg mb):l5 (wd w h mg mb) n (λø ø=> .stuck):=λf hf=>by
 have hf:=AM hf
 simp only[jF,fm,rI,bS,eX,or_false]at hf
 rcases hf with rfl|rfl|rfl|rfl|rfl|rfl|rfl|rfl|rfl|rfl|rfl|rfl|rfl|rfl|rfl|rfl|rfl|rfl|rfl|rfl|rfl
 ·exact Ky Z
 ·exact Kz Z
 ·exact KA Z
 ·exact KB Z
 ·exact KC Z
 ·exact KD Z
 ·exact(ut (n:=n) Z).stuck
 ·exact(uu (n:=n) Z).stuck
 ·exact KE Z
 ·exact KF Z
 ·exact KG Z
 ·exact AL Z
 ·exact AK Z
 ·exact KH Z
 ·exact KR Z
 ·exact KJ Z
 ·exact KL Z
 ·exact KM Z
 ·exact KN Z
 ·exact KP Z
 ·exact KQ Z
theorem Lh(Z:bb w h mg mb):∀c m,hZ.contains m=true->l0 (wd w h mg mb) n c m (λø=> .stuck):=λc m hm=>by
 have hm:m=aa "to_type_str" \/m=aa "validate" \/m=aa "invalidate" :=by
  have:=rU.mp hm
  simpa[hZ] using this
 have X:(HK w.params).In (wd w h mg mb).base:=Z.O.kin
 rcases hm with rfl|rfl|rfl
 ·cases c with
  |tup=>exact iI Z (m1 _) (t1 _) (zG (W:=wd w h mg mb) (P:=w.params) X rfl) λargs=>cw
  |bas=>exact iI Z (m2 _) (t2 _) (zM (W:=wd w h mg mb) (P:=w.params) X rfl) λargs=>cw
 ·cases c with
  |tup=>exact iI Z (m3 _) (t3 _) (zJ (W:=wd w h mg mb) (P:=w.params) X rfl) λargs=>cw
  |bas=>exact iI Z (m4 _) (t4 _) (zQ (W:=wd w h mg mb) (P:=w.params) X rfl) λargs=>cw
 ·exact iI Z (m5 _ c) (t5 _) (zB (W:=wd w h mg mb) (P:=w.params) X rfl) λargs=>cw
theorem uw(Z:bb w h mg mb):bu (wd w h mg mb) n pZ where
 fn:=AN Z
 meth:=Lh Z
 eq:=λc fs d gs A l s X va vb R ra rb=>uv
 prop:=λc a fs ø A l s X va R ra=>uv
 glob:=λx v e=>nomatch e
theorem Li(Z:bb w h mg mb):l5 (wd w h mg mb) n ia:=λf hf=>by
 by_cases h1:f=aa "TupleType"
 ·subst h1;exact ut Z
 ·by_cases h2:f=aa "BasicType"
  ·subst h2;exact uu Z
  ·exact(AN (n:=n) Z f hf).eqv λa=>(Lf h1 h2 a).symm
theorem Lj(Z:bb w h mg mb)(hC:bu (wd w h mg mb) n C)(c:aY)(fs:List (Str×PV))(d:aY)(gs:List (Str×PV))(A:aA)(l:List av)(s:ah)(X:Addr->Prop)(va vb:ae)(R:Ready (wd w h mg mb) X A l s)(ra:Rep (wd w h mg mb) X s.heap va (.inst c fs))(rb:Rep (wd w h mg mb) X s.heap vb (.inst d gs)):
  SC (wd w h mg mb) X l (RV (wd w h mg mb) X) (n+7) A (compareOp .Eq va vb) s (jg C c (aa "__eq__") [.inst c fs, .inst d gs]):=by
 have e:jg C c (aa "__eq__") [.inst c fs, .inst d gs]=jf C [.inst c fs, .inst d gs]:=rfl
 rw[e]
 exact(H0 (W:=wd w h mg mb) (n:=n+2) Z.O (λc=>m6 w.params c) (t6 w.params) (λc d=>nf w.params c d) (La _) (K9 Z hC _) R ra rb).mono (bf (n+2) 5)
theorem ux(Z:bb w h mg mb):∀j,bu (wd w h mg mb) (7*j) (bi j)
 |0=>uw Z
 |j+1=>
  have hC:=ux Z j
  {fn:=Li Z
   meth:=K6 Z hC
   eq:=Lj Z hC
   prop:=λc a fs ø=>Ld Z hC c a fs
   glob:=Le Z}
theorem AO(Z:bb w h mg mb)(J:Nat):∀k,bu (wd w h mg mb) (7*J+2*k) (fE J k)
 |0=>ux Z J
 |k+1=>
  have hC:=AO Z J k
  have hM:=(ux Z J).mono (m:=7*J+2*(k+1)) (bf _ _)
  {fn:=Lg Z hC
   meth:=hM.meth
   eq:=hM.eq
   prop:=hM.prop
   glob:=hM.glob}
end
theorem qg(a:PV):da (aa "len") [a]=ph a:=by kernel_rfl
theorem Lk(a:PV):da (aa "int") [a]=sN a:=by kernel_rfl
theorem AP(a:PV):da (aa "str") [a]=sP a:=by kernel_rfl
theorem Ll(a:PV):da (aa "repr") [a]=sQ a:=by kernel_rfl
theorem Lm(a:PV):da (aa "tuple") [a]=sR [a]:=by kernel_rfl
theorem Ln(a:PV):da (aa "list") [a]=sS a:=by kernel_rfl
theorem Lo(s:List Nat)(a:PV):cn (aa "endswith") s [a]=(go a).map λx=> .bool (x.isSuffixOf s):=by kernel_rfl
theorem Lp(s:List Nat)(a:PV):cn (aa "startswith") s [a]=(go a).map λx=> .bool (x.isPrefixOf s):=by kernel_rfl
theorem Lq(s:List Nat)(a:PV):cn (aa "split") s [a]=(go a).bind (xf s):=by kernel_rfl
theorem Lr(s:List Nat)(a:PV):cn (aa "index") s [a]=(go a).bind λx=>(i5 x s 0).map λ(k:Nat)=>PV.int (k:Int):=by kernel_rfl
theorem AQ(s:List Nat)(a:PV):cn (aa "join") s [a]=(kC a).bind (sU s):=by kernel_rfl
end
section
noncomputable def Ls:List ax:=[⟨214,7,214,10⟩,⟨214,11,214,14⟩,⟨214,7,214,15⟩,⟨214,19,214,20⟩,⟨214,7,214,20⟩,⟨215,15,215,16⟩,⟨215,8,215,16⟩,⟨214,4,215,16⟩,⟨216,11,216,14⟩,⟨216,11,216,18⟩,⟨216,19,216,20⟩,⟨216,11,216,21⟩,⟨216,4,216,21⟩]
noncomputable def Lu:List ax:=[⟨218,4,218,8⟩,⟨218,11,218,20⟩,⟨218,21,218,24⟩,⟨218,11,218,25⟩,⟨218,34,218,39⟩,⟨218,42,218,43⟩,⟨218,34,218,43⟩,⟨218,29,218,30⟩,⟨218,49,218,50⟩,⟨218,29,218,50⟩,⟨218,11,218,51⟩,⟨218,4,218,51⟩,⟨219,7,219,11⟩,⟨219,14,219,15⟩,⟨219,7,219,15⟩,⟨220,15,220,25⟩,⟨220,15,220,27⟩,⟨220,28,220,37⟩,⟨220,38,220,41⟩,⟨220,28,220,42⟩,⟨220,45,220,47⟩,⟨220,28,220,47⟩,⟨220,15,220,48⟩,⟨220,51,220,60⟩,⟨220,51,220,62⟩,⟨220,63,220,72⟩,⟨220,73,220,76⟩,⟨220,63,220,77⟩,⟨220,80,220,82⟩,⟨220,63,220,82⟩,⟨220,51,220,83⟩,⟨220,15,220,83⟩,⟨220,8,220,83⟩,⟨219,4,220,83⟩,⟨221,7,221,11⟩,⟨221,15,221,16⟩,⟨221,7,221,16⟩,⟨222,15,222,24⟩,⟨222,25,222,28⟩,⟨222,30,222,35⟩,⟨222,38,222,39⟩,⟨222,30,222,39⟩,⟨222,15,222,40⟩,⟨222,43,222,46⟩,⟨222,15,222,46⟩,⟨222,49,222,52⟩,⟨222,53,222,54⟩,⟨222,57,222,66⟩,⟨222,67,222,70⟩,⟨222,57,222,71⟩,⟨222,74,222,76⟩,⟨222,57,222,76⟩,⟨222,53,222,76⟩,⟨222,49,222,77⟩,⟨222,15,222,77⟩,⟨222,80,222,83⟩,⟨222,15,222,83⟩,⟨222,8,222,83⟩,⟨221,4,222,83⟩,⟨223,7,223,11⟩,⟨223,15,223,16⟩,⟨223,7,223,16⟩,⟨224,15,224,24⟩,⟨224,25,224,28⟩,⟨224,30,224,35⟩,⟨224,38,224,39⟩,⟨224,30,224,39⟩,⟨224,15,224,40⟩,⟨224,43,224,47⟩,⟨224,15,224,47⟩,⟨224,8,224,47⟩,⟨223,4,224,47⟩,⟨225,11,225,14⟩,⟨225,17,225,20⟩,⟨225,17,225,25⟩,⟨225,27,225,36⟩,⟨225,37,225,40⟩,⟨225,42,225,47⟩,⟨225,50,225,51⟩,⟨225,42,225,51⟩,⟨225,27,225,52⟩,⟨225,57,225,58⟩,⟨225,62,225,67⟩,⟨225,68,225,69⟩,⟨225,72,225,81⟩,⟨225,82,225,85⟩,⟨225,72,225,86⟩,⟨225,89,225,90⟩,⟨225,72,225,90⟩,⟨225,68,225,90⟩,⟨225,62,225,91⟩,⟨225,26,225,92⟩,⟨225,17,225,93⟩,⟨225,11,225,93⟩,⟨225,96,225,99⟩,⟨225,11,225,99⟩,⟨225,4,225,99⟩]
noncomputable def Lw:List ax:=[⟨333,4,333,7⟩,⟨333,10,333,14⟩,⟨333,15,333,21⟩,⟨333,23,333,25⟩,⟨333,22,333,25⟩,⟨333,15,333,26⟩,⟨333,10,333,27⟩,⟨333,4,333,27⟩,⟨334,4,334,9⟩,⟨334,12,334,21⟩,⟨334,22,334,25⟩,⟨334,12,334,26⟩,⟨334,29,334,30⟩,⟨334,12,334,30⟩,⟨334,4,334,30⟩,⟨335,4,335,8⟩,⟨335,11,335,20⟩,⟨335,21,335,24⟩,⟨335,26,335,27⟩,⟨335,11,335,28⟩,⟨335,30,335,32⟩,⟨335,29,335,32⟩,⟨335,11,335,33⟩,⟨335,4,335,33⟩,⟨336,4,336,9⟩,⟨336,12,336,21⟩,⟨336,22,336,25⟩,⟨336,27,336,28⟩,⟨336,12,336,29⟩,⟨336,31,336,33⟩,⟨336,30,336,33⟩,⟨336,12,336,34⟩,⟨336,4,336,34⟩,⟨337,4,338,20⟩,⟨339,4,340,20⟩,⟨341,8,341,9⟩,⟨341,13,341,18⟩,⟨341,19,341,24⟩,⟨341,13,341,25⟩,⟨342,8,342,13⟩,⟨342,16,342,25⟩,⟨342,26,342,29⟩,⟨342,16,342,30⟩,⟨342,16,342,48⟩,⟨342,8,342,48⟩,⟨343,8,343,12⟩,⟨343,15,343,24⟩,⟨343,25,343,28⟩,⟨343,15,343,29⟩,⟨343,32,343,34⟩,⟨343,15,343,34⟩,⟨343,8,343,34⟩,⟨344,8,344,12⟩,⟨344,15,344,113⟩,⟨344,8,344,113⟩,⟨341,4,344,113⟩,⟨345,4,345,42⟩]
noncomputable def fF(n:Nat):ax:=Ls.getD n default
noncomputable def b9(n:Nat):ax:=Lu.getD n default
noncomputable def Lx(n:Nat):ax:=Lw.getD n default
noncomputable def ib:Scope:=match aT (ag 20)with
 |[_,_,_,_, .Return (some (.BinOp (.BinOp _ _ (.Call _ [.ListComp _ _ c _] _ _) _) _ _ _)) _]=>c
 |_=>default
noncomputable def AR:aC->ai
 | .If t _ _ _=>t
 |_=>default
noncomputable def AS:aC->List aC
 | .If _ b _ _=>b
 |_=>[]
noncomputable def Ly:aC->List aC
 | .For _ _ b _ _=>b
 |_=>[]
noncomputable def qh:aC->ai
 | .Assign _ v _=>v
 |_=>default
noncomputable def Lz:ai->ai
 | .BinOp _ _ r _=>r
 |_=>default
noncomputable def LA:ai->ai
 | .IfExp a _ _ _=>a
 |_=>default
noncomputable def LB:ai->ai
 | .IfExp _ b _ _=>b
 |_=>default
noncomputable def LC:ai->ai
 | .IfExp _ _ c _=>c
 |_=>default
noncomputable def LD:aC->ai
 | .Return (some e) _=>e
 |_=>default
noncomputable def l6(n:Nat):aC:=((aT (ag 29))[n]?).getD default
noncomputable def qi(n:Nat):aC:=((Ly (l6 6))[n]?).getD default
end
section
noncomputable def dQ(B:Addr)(h:Heap):Prop:=∃vs n ns,h.get? B=some (listOf vs.toArray n)/\ lE vs ns/\ vs.length<=64
structure bq(W:Wd)(X:Addr->Prop)(B:Addr)(s s':ah):Prop where
 inv:Inv W s'
 keep:∀b o,¬X b->b≠B->s.heap.get? b=some o->s'.heap.get? b=some o
 ns:∀L m,s.heap.Ns L m->s'.heap.Ns L m
 gens:dc s.gens s'.gens
 os:s'.os=s.os
 drawn:s'.drawn=s.drawn
 live:∀b o,s.heap.get? b=some o->∃o',s'.heap.get? b=some o'
 solid:∀b o,b≠B->dn o->s.heap.get? b=some o->s'.heap.get? b=some o
 box:dQ B s'.heap
section
variable{W:Wd}{X:Addr->Prop}{B:Addr}{s s' s'':ah}{A:aA}{l:List av}
theorem LF{vs:Array ae}{n:Nat}:dn (listOf vs n):=⟨⟨_,by simp[fz],rfl⟩,by intro ø ø q;cases q⟩
theorem dQ.solid(b:dQ B s.heap)(k:∀b o,dn o->s.heap.get? b=some o->s'.heap.get? b=some o):dQ B s'.heap:=by
 refine gH b λvs n ns e i l=> ?_
 exact⟨vs,n,ns,k _ _ LF e,i,l⟩
theorem After.stepB(a:After W X s s')(b:dQ B s.heap):bq W X B s s':=⟨a.inv,λb o n ø e=>a.keep b o n e,a.ns,a.gens,a.os,a.drawn,a.live,λb o ø t e=>a.solid b o t e,b.solid a.solid⟩
theorem bq.trans(x:bq W X B s s')(y:bq W X B s' s''):bq W X B s s'':=
 ⟨y.inv,λb o n q e=>y.keep b o n q (x.keep b o n q e),λL m e=>y.ns L m (x.ns L m e),x.gens.trans y.gens,y.os.trans x.os,y.drawn.trans x.drawn,λb o e=>by obtain⟨o',e'⟩:=x.live b o e;exact y.live b o' e',λb o n t e=>y.solid b o n t (x.solid b o n t e),y.box⟩
theorem bq.refl(I:Inv W s)(b:dQ B s.heap):bq W X B s s:=(After.refl I).stepB b
theorem Ready.step(R:Ready W X A l s)(x:bq W X B s s'):Ready W X A l s':=
 ⟨x.inv,R.frames,R.guards,R.handled,R.below.after λL m e=>⟨m,x.ns L m e⟩,R.xtabs,R.xbase,λb hb=>by obtain⟨o,e⟩:=R.xlt b hb;exact x.live b o e⟩
theorem bq.of_keep(I:Inv W s)(hB:W.base.get? B=none)(hT:∀q∈W.tabs,q.2≠B){h':Heap}{tk:Nat}(k:∀b o,b≠B->s.heap.get? b=some o->h'.get? b=some o)(b₀:dQ B s.heap)(b:dQ B h'):bq W X B s {s with heap:=h',toks:=tk}:=by
 have nB:∀b o,W.base.get? b=some o->b≠B:=λb o e q=>by rw[q,hB]at e;exact am e
 refine gH b₀ λvs n ns e0 ø ø=> ?_
 refine⟨⟨λb o e=>k b o (nB b o e) (I.stays b o e),λq hq=> ?_,I.gens⟩,λb o ø n e=>k b o n e,λL m e=> ?_,dc.refl _,rfl,rfl,λa o e=> ?_,λb o n ø e=>k b o n e,b⟩
 ·refine ay (I.tabs q hq) λps h1 h2=> ?_
  refine⟨ps,?_,?_⟩
  ·refine lH h1 λo vs file tf flags tg inF text tt op x1 r1 r2 r3 r4 r5 r6 x2 x3 r=> ?_
   exact⟨o,vs,file,tf,flags,tg,inF,text,tt,op,k _ _ (λq=>by rw[q,e0]at x1;obtain rfl:=aq x1;cases r1) x1,r1,r2,r3,r4,r5,r6,k _ _ (hT q hq) x2,x3,r⟩
  ·refine xA h2 λzn1 t=> ?_
   refine mT zn1 λo vs x1 x2 x3 r=> ?_
   exact⟨⟨o,vs,k _ _ (λq=>by rw[q,e0]at x1;obtain rfl:=aq x1;cases x3) x1,x2,x3,r⟩,k _ _ (hT q hq) t⟩
 ·refine e.at' λo eo=>k L o (λq=> ?_) eo
  refine gH e λo es ep e1 d ø=> ?_
  rw[q,e0]at e1;cases e1;cases d
 ·by_cases q:a=B
  ·refine dj b λvs' n' ns' e' ø=> ?_
   exact⟨_,q▸e'⟩
  ·exact⟨o,k a o q e⟩
end
noncomputable abbrev AT:List aC:=
 [.If (.Compare (.Call (.Name (aa "len") (fF 0)) [.Name (aa "box") (fF 1)] [] (fF 2)) [.Eq] [.Constant (.int 0) 0 (fF 3)] (fF 4)) [.Return (some (.Constant (.int 0) 0 (fF 5))) (fF 6)] [] (fF 7),
   .Return (some (.Call (.Attribute (.Name (aa "box") (fF 8)) (aa "pop") (fF 9)) [.Constant (.int 0) 0 (fF 10)] [] (fF 11))) (fF 12)]
theorem AU{W:Wd}{X:Addr->Prop}{h:Heap}{vs:List ae}{ns:List Int}(r:lE vs ns):a8 W X h vs (ns.map .int):=by
 induction r with
 |nil=>exact .nil
 |cons n t _ ih=>exact .cons (.int n t) ih
section
variable{W:Wd}{X:Addr->Prop}{A:aA}{l:List av}{s:ah}{B:Addr}
theorem LG(I:Inv W s)(hg:A.guards=some [])(hu:A.units<=9000){vs:List ae}{n:Nat}{ns:List Int}(e:s.heap.get? B=some (listOf vs.toArray n))(hi:lE vs ns)(hl:vs.length<=64){Q E:ae->ah->Prop}
  (h:∀t s',After W (λø=>False) s s'->Q (.int (vs.length:Int) t) s'):wpAny W.M A (call (.builtin "len") [.ref B]) Q E s:=by
 have hns':ns.length=vs.length:=by have:=(AU (W:=W) (X:=λø=>False) (h:=s.heap) hi).length;simpa using this.symm
 have r0:Rep W (λø=>False) s.heap (.ref B) (.list (ns.map .int)):= .list e rfl rfl (λq=>q) (by rw[wz];exact AU hi)
 have ln:da (aa "len") [.list (ns.map .int)]=some (.int (vs.length:Int)):=by
  rw[qg]
  unfold ph
  dsimp only
  rw[cu,if_pos (by rw[gt];exact sy ‹_› ‹_› (by rfl)),hns']
 refine ay (tL (Q:=Q) (E:=E) (A:=A) I (λb hb=>hb.elim) hg hu ln (.cons r0 .nil) (λv s' a r=>by cases r;exact h _ _ a)) λfv h1 h2=> ?_
 have:f0 (aa "len")=some (.builtin "len"):=rfl
 rw[this]at h1
 obtain rfl:=aq h1
 exact h2
theorem LH(O:aZ W){fa:Addr}{fd:dA}(D:bw false W fa fd AT [aa "box"]) (hlen:fd.scope.names.lookup (aa "len")=some .globalImplicit)
  (hB:W.base.get? B=none) (hT:∀q∈W.tabs,q.2≠B) (I:Inv W s) (hg:A.guards=some []) (hd:A.depth<=900) (hu:A.units+10<=9000) (bx:dQ B s.heap) {Q E:ae->ah->Prop}
  (h:∀i t s',bq W X B s s'->Q (.int i t) s'):wpAny W.M A (call (.ref fa) [.ref B]) Q E s:=by
 have ht:=gt
 have hrl:(900:Nat)<recursionLimit:=by decide+kernel
 refine ay D.at_ λo ho hod=> ?_
 refine gH (id bx) λvs n ns eB hi hl=> ?_
 obtain⟨hh,g,dr,tk,os⟩:=s
 refine jz (rS (binds:=[(aa "box", .ref B)]) (bU hd hrl) (I.stays _ _ ho) hod (I.nolimit O) (D.rec_.keeps I.stays) D.body (D.bind _ [.ref B] I.stays rfl).of D.nocell (λx hx=>by rw[dw]at hx;subst hx;exact D.local_ _ (by simp)) (λh₀ hns keep=> ?_) D.co D.gen D.kind)
 have I₀:∀tk,Inv W ⟨h₀,g,dr,tk,os⟩:=λtk=>I.ext keep rfl
 have A1:(A.deeper (callEnv fd hh.objs.size fa)).units<=9000:=by show A.units+3<=9000;exact r7 ‹_› (by rfl)
 have hbox:(callEnv fd hh.objs.size fa).kindOf (aa "box")=some .local:=D.local_ _ (by simp)
 refine bW (jA (oU (hm:=rfl) (gF rfl ?_)))
 rw[dY (fF 2) (show bv [jx (aa "box") (fF 1)]=true from rfl)]
 refine kT O (I₀ _) D.kind hlen D.globals D.builtins (by decide+kernel) (O.nogl _ (by simp[blt])) ((O.mbv _ (by decide+kernel)).trans (by kernel_rfl:bootBuiltins "len" =some (.builtin "len"))) ?_
 refine Calls.callWith_builtin rfl (Calls.evalArgs_plain (Calls.spliced_cons (dT (dM D.kind hbox hns rfl (Calls.spliced_nil ?_)) (by decide+kernel))))
 refine LG (A:=A.deeper (callEnv fd hh.objs.size fa)) (I₀ _) hg A1 (keep _ _ eB) hi hl λt s₁ af1=> ?_
 refine d8 (kM (W:=W) (X:=λø=>False) (op:= .Eq) (a:= .int (vs.length:Int)) (b:= .int 0) (r:=((vs.length:Int)==0)) rfl (.int _ t) (.int 0 _) A1 (iF ?_))
 have kall:∀b o,hh.get? b=some o->s₁.heap.get? b=some o:=λb o e=>af1.keep b o (λq=>q) (keep b o e)
 have sh:∀{h':Heap} {tk':Nat},(∀b o,b≠B->hh.get? b=some o->h'.get? b=some o)->dQ B h'->bq W X B ⟨hh,g,dr,tk,os⟩ ⟨h',s₁.gens,s₁.drawn,tk',s₁.os⟩:=λ{h' tk'} k b=>by
  have x:=bq.of_keep (X:=X) (tk:=tk') I hB hT k bx b
  exact⟨⟨x.inv.stays,x.inv.tabs,af1.inv.gens⟩,x.keep,x.ns,af1.gens,af1.os,af1.drawn,x.live,x.solid,x.box⟩
 by_cases hz:vs.length=0
 ·rw[show(((vs.length:Int))==0)=true by rw[hz];rfl,if_pos rfl]
  refine bW (iy (d8 ?_))
  have:=sh (h':=s₁.heap) (tk':=s₁.toks+1+1) (λb o ø e=>kall b o e) ⟨vs,n,ns,kall _ _ eB,hi,hl⟩
  exact h _ _ _ this
 ·rw[show(((vs.length:Int))==0)=false by rw[beq_eq_false_iff_ne];exact λh=>hz (vZ h),if_neg (by simp)]
  have hns1:=af1.ns _ _ hns
  have eB1:s₁.heap.get? B=some (listOf vs.toArray n):=kall _ _ eB
  have neC:hh.objs.size≠B:=λq=>by have:=eK eB;rw[q]at this;exact js _ this
  have F1:Fr (hh.hide B) hh.objs.size s₁.heap (λx=>([(aa "box",rR B)]:List (Str×ae)).reverse.lookup x):=⟨hns1,λb o e=>kall b o (Heap.of_hide e),bG (Heap.hide_size _ _)⟩
  have N1:eL (hh.hide B) hh.objs.size s₁.heap [(B,listOf vs.toArray n)]:=λp hp=>by
   rw[dw]at hp;subst hp
   exact⟨eB1,cF neC,Heap.hide_self _ _⟩
  refine dW (bW (iy (pM rfl rfl (by simp) (by kernel_rfl) (dT (dM D.kind hbox hns1 rfl λpl=> ?_) (by decide+kernel)))))
  refine kl_method (h₀:=hh.hide B) (L:=hh.objs.size) N1 (.head _) PySem.F.slot_list_pop PySem.F.type_list_pop ?_
  refine Calls.callWith_builtin rfl (Calls.evalArgs_plain (Calls.spliced_cons (d8 (Calls.spliced_nil ?_))))
  cases hi with
  |nil=>exact absurd rfl hz
  | @cons i t0 vs' ns' hi' =>
   refine kl_popAt (s:={s₁ with toks:=s₁.toks+1+1}) (k:=0) (p:=[]) (q:=vs') (y:= .int i t0) F1 N1 (by decide) (by simp[seqIndex?]) rfl (.head (λp hp=>nomatch hp)) (by rw[wz];have:sizeLine=16777216:=mM;exact aL ‹_› (by rfl)) λh2 F2 N2=> ?_
   have b2:dQ B h2:=⟨vs',n+1,ns',by simpa using(N2 _ (.head _)).1,hi',by simp at hl;exact aL ‹_› (by rfl)⟩
   have:=sh (h':=h2) (tk':=s₁.toks+1+1) (λb o nb e=>F2.keep b o ((Heap.hide_ne _ nb).trans e)) b2
   exact h _ _ _ this
end
end
section
noncomputable def Txt(x:Str)(L:Nat):Prop:=(ao x).length<=L/\ ∀c∈ao x,c<1114112
structure fG(env:av)(cb cd:Addr):Prop where
 kind:env.scope.kind= .function
 globals:env.globals=mainGlobals
 builtins:env.builtins=builtinsNs
 kbox:env.kindOf (aa "box")=some .cell
 kdep:env.kindOf (aa "depth")=some .cell
 cbox:env.cells.lookup (aa "box")=some cb
 cdep:env.cells.lookup (aa "depth")=some cd
 ktree:env.kindOf (aa "_law_tree")=some .globalImplicit
structure cx(W:Wd)(X:Addr->Prop)(A:aA)(l:List av)(B cb cd:Addr)(d:Int)(s:ah):Prop where
 R:Ready W X A l s
 XB:X B
 bx:dQ B s.heap
 box:s.heap.IsCell cb (some (.ref B))
 dep:∃t,s.heap.IsCell cd (some (.int d t))
 nb:¬X cb
 nd:¬X cd
structure l7(W:Wd)(B:Addr):Prop where
 base:W.base.get? B=none
 tabs:∀q∈W.tabs,q.2≠B
section
variable{W:Wd}{X:Addr->Prop}{A:aA}{l:List av}{B cb cd:Addr}{d:Int}{s s':ah}{env:av}
theorem cx.step(T:cx W X A l B cb cd d s)(x:bq W X B s s'):cx W X A l B cb cd d s':=by
 have up:∀{c:Addr} {v:ae},¬X c->s.heap.IsCell c (some v)->s'.heap.IsCell c (some v):=λ{c v} nc h=>by
  refine ay h λo e dd=> ?_
  exact⟨o,x.keep _ _ nc (λq=>nc (q▸T.XB)) e,dd⟩
 refine xE T.dep λt ht=> ?_
 exact⟨T.R.step x,T.XB,x.box,up T.nb T.box,⟨t,up T.nd ht⟩,T.nb,T.nd⟩
theorem AV(V:fG env cb cd)(T:cx W X A l B cb cd d s){p:ax}{Q E:ae->ah->Prop}(h:Q (.ref B) s):wpAny W.M A (eval (.Name (aa "box") p) env) Q E s:=
 dT (wpAny_loadName_cell V.kind V.kbox V.cbox T.box h) (by decide+kernel)
theorem AW(V:fG env cb cd)(T:cx W X A l B cb cd d s){p:ax}{Q E:ae->ah->Prop}(h:∀t,Q (.int d t) s):wpAny W.M A (eval (.Name (aa "depth") p) env) Q E s:=by
 refine xE T.dep λt ht=> ?_
 exact dT (wpAny_loadName_cell V.kind V.kdep V.cdep ht (h t)) (by decide+kernel)
noncomputable def gx(W:Wd)(B:Addr)(fT:Addr):Prop:=∀(A:aA) (X:Addr->Prop) (s:ah),Inv W s->A.guards=some []->A.depth<=900->A.units+10<=9000->dQ B s.heap->∀(Q E:ae->ah->Prop),(∀i t s',bq W X B s s'->Q (.int i t) s')->wpAny W.M A (call (.ref fT) [.ref B]) Q E s
noncomputable abbrev eP(p q r:ax):ai:= .Call (.Name (aa "_law_take") p) [.Name (aa "box") q] [] r
theorem AX(O:aZ W)(hT:gx W B fT)(hmg:W.mg (aa "_law_take")=some (.ref fT)) (hcal:ce W (.ref fT)) (V:fG env cb cd) (hk:env.kindOf (aa "_law_take")=some .globalImplicit) (T:cx W X A l B cb cd d s) (hd:A.depth<=900) (hu:A.units+10<=9000) {p q r:ax} {Q E:ae->ah->Prop}
  (h:∀i t s',bq W X B s s'->cx W X A l B cb cd d s'->Q (.int i t) s'):wpAny W.M A (eval (eP p q r) env) Q E s:=by
 refine gF rfl ?_
 rw[dY r (show bv [jx (aa "box") q]=true from rfl)]
 refine jR O T.R.inv V.kind hk V.globals (by decide+kernel) hmg ?_
 refine hcal A E s r [] _ Q rfl (Calls.evalArgs_plain (Calls.spliced_cons (AV V T (Calls.spliced_nil ⟨T.R.inv,?_⟩))))
 exact hT A X s T.R.inv T.R.guards hd hu T.bx Q E λi t s' x=>h i t s' x (T.step x)
theorem uy(O:aZ W)(hT:gx W B fT)(hmg:W.mg (aa "_law_take")=some (.ref fT)) (hcal:ce W (.ref fT)) (V:fG env cb cd) (hk:env.kindOf (aa "_law_take")=some .globalImplicit) (T:cx W X A l B cb cd d s) (hd:A.depth<=900) (hu:A.units+10<=9000) {p q r u v:ax} {k:Int} (hk0:0<k/\ k<=1000) {kk:Nat} {Q E:ae->ah->Prop}
  (h:∀i t s',0<=i->i<k->bq W X B s s'->cx W X A l B cb cd d s'->Q (.int i t) s'):wpAny W.M A (eval (.BinOp (eP p q r) .Mod (.Constant (.int k) kk u) v) env) Q E s:=by
 refine fU (AX O hT hmg hcal V hk T hd hu λi t s₁ x₁ T1=> ?_)
 refine d8 ?_
 have a₂:After W X s₁ {s₁ with toks:=s₁.toks+1}:=After.tok T1.R.inv
 have hz:bJ .Mod (.int i) (.int k)=some (.int (i%k)):=by
  show(if 0<k/\ k<=1000 then some (PV.int (i%k))else none)=_
  exact if_pos hk0
 refine jL (W:=W) (X:=X) (op:= .Mod) a₂.inv (T1.R.after a₂).xlt hz (.int i t) (.int k _) λw s₃ a₃ r₃=> ?_
 refine r₃.intE λø zq=> ?_;subst zq
 have x:=x₁.trans ((a₂.trans a₃).stepB T1.bx)
 exact h _ _ _ (DJ _ (vW hk0.1)) (wA _ hk0.1) x (T.step x)
theorem bq.rep(x:bq W X B s s')(hX:X B){v:ae}{p:PV}(r:Rep W X s.heap v p):Rep W X s'.heap v p:=r.mono (λb o nx e=>x.keep b o nx (λq=>nx (q▸hX)) e) λø ø ø n=>n
structure nR(W:Wd)(n:Nat)(f:Str)(fv:ae)(txts:List (List Nat))(b:Nat):Prop where
 mg:W.mg f=some fv
 cal:ce W fv
 k:gc W n fv [] (.ok (.list (txts.map .str)))
 ok:∀x∈txts,x.length<=b/\ ∀c∈x,c<1114112
 few:txts.length<=1000/\ 0<txts.length
theorem AY(O:aZ W)(hT:gx W B fT)(hmg:W.mg (aa "_law_take")=some (.ref fT)) (hcal:ce W (.ref fT)) (V:fG env cb cd) (hk:env.kindOf (aa "_law_take")=some .globalImplicit) (T:cx W X A l B cb cd d s) {n:Nat} (hd:A.depth+n<=900) (hu:A.units+10*n<=9000) (hn:1<=n)
  {f:Str} {fv:ae} {txts:List (List Nat)} {b:Nat} (L:nR W n f fv txts b) (hf:env.kindOf f=some .globalImplicit) (hfd:(f==("__debug__" :Str))=false) {p q r u v p1 p2 p3:ax} {k:Int} (hk0:k=txts.length) {kk:Nat} {Q E:ae->ah->Prop}
  (h:∀x t s',Txt x b->bq W X B s s'->cx W X A l B cb cd d s'->Q (.str x t) s'):wpAny W.M A (eval (.Subscript (.Call (.Name f p1) [] [] p2) (.BinOp (eP p q r) .Mod (.Constant (.int k) kk u) v) p3) env) Q E s:=by
 have ht:=gt
 obtain⟨hf1,hf2⟩:=L.few
 refine oV (gF rfl ?_)
 rw[dY p2 (show bv []=true from rfl)]
 refine jR O T.R.inv V.kind hf V.globals hfd L.mg ?_
 refine L.cal A E s p2 [] _ _ rfl (evalArgs_nil3 ⟨T.R.inv,?_⟩)
 refine L.k A l s X [] T.R .nil (λq=>nomatch q) hd hu _ _ ⟨λw y s₁ e₁ a₁ r₁=> ?_,λe c s' e₁ ø=>nomatch e₁⟩
 obtain rfl:=dk e₁
 have x₁:=a₁.stepB T.bx
 refine uy O hT hmg hcal V hk (T.step x₁) (aj (bf _ _) ‹_›) (jB ‹_› ‹_› (by rfl)) ⟨hk0▸mF.mpr hf2,hk0▸kg.mpr hf1⟩ λi t s₂ h0 h1 x₂ T2=> ?_
 have hi:i.toNat<txts.length:=Eg ‹_› ‹_› ‹_›
 have hp:fu (.list (txts.map .str)) (.int i)=some (.str txts[i.toNat]):=by
  show(if 0<=i/\ i<=aX then(txts.map PV.str)[i.toNat]? else _)=_
  rw[if_pos ⟨h0,jr (rn h1) (hk0▸kg.mpr (aj hf1 (by decide+kernel)))⟩,lB,fV hi];rfl
 refine xN (W:=W) (X:=X) T2.R.inv hp (x₂.rep T.XB r₁) (.int i t) (λo i' =>rfl) λw s₃ a₃ r₃=> ?_
 have x₃:=x₁.trans (x₂.trans (a₃.stepB T2.bx))
 have ok:=L.ok _ (rQ hi)
 generalize txts[i.toNat]=z at r₃ ok
 cases r₃ with
 |str y t' =>exact h y t' s₃ ok x₃ (T.step x₃)
end
end
section
noncomputable def gf(W:Wd)(B:Addr)(fa:Addr)(N L:Nat)(d:Int):Prop:=∀(A:aA) (l:List av) (s:ah) (X:Addr->Prop) (td:bE),Ready W X A l s->X B->dQ B s.heap->A.depth+N<=900->A.units+10*N<=9000->∀(Q E:ae->ah->Prop),
 (∀x t s',bq W X B s s'->Txt x L->Q (.str x t) s')->wpAny W.M A (call (.ref fa) [.ref B, .int d td]) Q E s
section
variable{W:Wd}{X:Addr->Prop}{A:aA}{l:List av}{B cb cd fa:Addr}{d:Int}{s s':ah}{env:av}{N L:Nat}
theorem bq.chg{s₀ s₁:ah}{h':Heap}{tk:Nat}{b₀:Addr}(I:Inv W s₀)(B₀:dQ B s₀.heap)(x:bq W X B s₀ s₁)(hn:s₀.heap.get? b₀=none)(ext:eW b₀ s₁.heap h')(hc:∀f,¬s₁.heap.Ns b₀ f \/s₀.heap.get? b₀=none):bq W X B s₀ {s₁ with heap:=h',toks:=tk}:=by
 have ne:∀b o,s₀.heap.get? b=some o->b≠b₀:=λb o e q=>by rw[q,hn]at e;exact am e
 have neB:B≠b₀:=by obtain⟨_,_,_,e,_⟩:=B₀;exact ne _ _ e
 refine⟨⟨λb o e=>ext b o (ne b o (I.stays b o e)) (x.inv.stays b o e),λq hq=> ?_,x.inv.gens⟩,λb o nx nb e=>ext b o (ne b o e) (x.keep b o nx nb e),λL m e=> ?_,x.gens,x.os,x.drawn,λb o e=> ?_,λb o nb so e=>ext b o (ne b o e) (x.solid b o nb so e),?_⟩
 ·refine ay (x.inv.tabs q hq) λps h1 h2=> ?_
  refine ay (I.tabs q hq) λps0 k1 k2=> ?_
  have nc:q.1≠b₀:=by obtain⟨o,_,_,_,_,_,_,_,_,_,e,_⟩:=k1;exact ne _ _ e
  have nP:q.2≠b₀:=ne _ _ k2.2
  refine⟨ps,?_,h2.extBut ext nc nP⟩
  refine lH h1 λo vs file tf flags tg inF text tt op x1 r1 r2 r3 r4 r5 r6 x2 x3 r=> ?_
  exact⟨o,vs,file,tf,flags,tg,inF,text,tt,op,ext _ _ nc x1,r1,r2,r3,r4,r5,r6,ext _ _ nP x2,x3,r⟩
 ·have nL:L≠b₀:=by obtain⟨o,_,_,eo,_⟩:=e;exact ne _ _ eo
  exact(x.ns L m e).at' λo eo=>ext L o nL eo
 ·refine xE (x.live b o e) λo' e' => ?_
  exact⟨o',ext b o' (ne b o e) e'⟩
 ·refine dj x.box λvs n ns e r=> ?_
  exact⟨vs,n,ns,ext _ _ neB e,r⟩
noncomputable abbrev nS(p1 p2 p3 p4 p5 p6:ax):ai:= .Call (.Name (aa "_law_tree") p1) [.Name (aa "box") p2, .BinOp (.Name (aa "depth") p3) .Add (.Constant (.int 1) 0 p4) p5] [] p6
set_option tactic.hygienic true in
theorem uz(O:aZ W)(hT:gf W B fa N L (d+1))(hmg:W.mg (aa "_law_tree")=some (.ref fa)) (hcal:ce W (.ref fa)) (V:fG env cb cd) (T:cx W X A l B cb cd d s) (hd:A.depth+N<=900) (hu:A.units+10*N<=9000) {p1 p2 p3 p4 p5 p6:ax} {Q E:ae->ah->Prop}
  (h:∀x t s',Txt x L->bq W X B s s'->cx W X A l B cb cd d s'->Q (.str x t) s'):wpAny W.M A (eval (nS p1 p2 p3 p4 p5 p6) env) Q E s:=by
 refine gF rfl ?_
 rw[dY p6 (show bv [jx (aa "box") p2, .BinOp (.Name (aa "depth") p3) .Add (.Constant (.int 1) 0 p4) p5]=true from rfl)]
 refine jR O T.R.inv V.kind V.ktree V.globals (by decide+kernel) hmg ?_
 refine hcal A E s p6 [] _ Q rfl (Calls.evalArgs_plain (Calls.spliced_cons (AV V T (Calls.spliced_cons (fU (AW V T λtd=>d8 ?_))))))
 have a₂:After W X s {s with toks:=s.toks+1}:=After.tok T.R.inv
 refine jL (W:=W) (X:=X) (op:= .Add) a₂.inv (T.R.after a₂).xlt (show bJ .Add (.int d) (.int 1)=some (.int (d+1))from rfl) (.int d td) (.int 1 _) λw s₃ a₃ r₃=> ?_
 cases r₃
 rename_i t₃
 have x:=(a₂.trans a₃).stepB T.bx
 have T3:=T.step x
 exact Calls.spliced_nil ⟨a₃.inv,hT A l s₃ X t₃ T3.R T3.XB T3.bx hd hu Q E λz t s' x' ok=>h z t s' ok (x.trans x') (T3.step x')⟩
theorem LI:∀i:Int,1<=i->i<=30->(ey i).length<=2/\ ∀c∈ey i,c<1114112:=λi h1 h2=>by
 have key:(iU 31).all (λk=>decide ((ey (k:Int)).length<=2)&&(ey (k:Int)).all λc=>decide (c<1114112))=true:=by decide+kernel
 have:=ba.mp key i.toNat (jv.mpr ((vP (jr (by decide) h1)).mpr (oA h2 (by decide))))
 rw[show((i.toNat:Nat):Int)=i from rE (jr (by decide) h1)]at this
 simp only[aI,decide_eq_true_eq,ba]at this
 exact this
set_option tactic.hygienic true in
theorem LJ(O:aZ W)(hT:gx W B fa)(hmg:W.mg (aa "_law_take")=some (.ref fa)) (hcal:ce W (.ref fa)) (V:fG env cb cd) (hk:env.kindOf (aa "_law_take")=some .globalImplicit) (hs:env.kindOf (aa "str")=some .globalImplicit) (T:cx W X A l B cb cd d s) (hd:A.depth<=900) (hu:A.units+10<=9000)
  {p1 p2 p q r u v p3 p4:ax} {Q E:ae->ah->Prop}
  (h:∀x t s',Txt x 2->bq W X B s s'->cx W X A l B cb cd d s'->Q (.str x t) s'):wpAny W.M A (eval (.Call (.Name (aa "str") p1) [.BinOp (.Constant (.int 1) 0 p2) .Add (.BinOp (eP p q r) .Mod (.Constant (.int 30) 0 u) v) p3] [] p4) env) Q E s:=by
 refine gF rfl ?_
 rw[dY p4 (show bv [ai.BinOp (.Constant (.int 1) 0 p2) .Add (.BinOp (eP p q r) .Mod (.Constant (.int 30) 0 u) v) p3]=true from rfl)]
 refine kT O T.R.inv V.kind hs V.globals V.builtins (by decide+kernel) (O.nogl _ (by simp[blt])) ((O.mbv _ (by decide+kernel)).trans (by kernel_rfl:bootBuiltins "str" =some (.type "str"))) ?_
 refine gu (W:=W) "str" A E s p4 [] _ Q rfl (Calls.evalArgs_plain (Calls.spliced_cons (fU (d8 ?_))))
 have a₀:After W X s {s with toks:=s.toks+1}:=After.tok T.R.inv
 have x₀:=a₀.stepB T.bx
 refine uy O hT hmg hcal V hk (T.step x₀) hd hu (by decide) λi t s₂ h0 h1 x₂ T2=> ?_
 refine jL (W:=W) (X:=X) (op:= .Add) T2.R.inv T2.R.xlt (show bJ .Add (.int 1) (.int i)=some (.int (1+i))from rfl) (.int 1 _) (.int i t) λw s₃ a₃ r₃=> ?_
 cases r₃
 rename_i t₃
 have x₃:=x₀.trans (x₂.trans (a₃.stepB T2.bx))
 have T3:=T.step x₃
 refine Calls.spliced_nil ⟨a₃.inv,?_⟩
 refine xA (LI (1+i) (Int.le_add_of_nonneg_right h0) (oE i 1▸wB h1)) λk1 k2=> ?_
 have hb:da (aa "str") [.int (1+i)]=some (.str (ey (1+i))):=by
  rw[AP]
  have:small (1+i)=true:=by
   unfold small iB
   refine decide_eq_true (aj (Eo (n:=30) (DK (by decide) h0) (oE i 1▸wB h1)) (by decide+kernel))
  exact if_pos this
 obtain⟨fv,f1,f2⟩:=tL (Q:=Q) (E:=E) (A:=A) (W:=W) (X:=X) T3.R.inv T3.R.xlt T3.R.guards (aj (bf _ _) ‹_›) hb (.cons (.int (1+i) t₃) .nil) (λw s₄ a₄ r₄=>by
  generalize hz:ey (1+i)=z at r₄ k1 k2
  refine r₄.strE λy t₄ zq2 zq3=> ?_;subst zq2 zq3
  have x₄:=x₃.trans (a₄.stepB T3.bx)
  exact h y t₄ s₄ ⟨k1,k2⟩ x₄ (T.step x₄))
 have:f0 (aa "str")=some (.type "str"):=rfl
 rw[this]at f1
 obtain rfl:=aq f1
 exact f2
theorem kW{x y:Str}{t u:bE}{L M:Nat}(hL:L+M<=1000)(T:cx W X A l B cb cd d s)(hx:Txt x L)(hy:Txt y M){Q E:ae->ah->Prop}(h:∀z t s',Txt z (L+M)->bq W X B s s'->cx W X A l B cb cd d s'->Q (.str z t) s'):wpAny W.M A (binaryOp .Add (.str x t) (.str y u)) Q E s:=by
 have hsl:sizeLine=16777216:=mM
 refine xA hx λx1 x2=> ?_
 refine xA hy λy1 y2=> ?_
 have lx:=b7 x
 have ly:=b7 y
 refine SB.add (λt' k' => ?_) (aj (rA (lx▸x1) (ly▸y1)) (aj hL (by decide+kernel)))
 have a:After W X s {s with toks:=k'}:=After.tok T.R.inv
 have xx:=a.stepB T.bx
 refine h _ t' _ ⟨?_,λc hc=> ?_⟩ xx (T.step xx)
 ·rw[i9,cC];exact rA x1 y1
 ·rw[i9]at hc
  exact(g8.mp hc).elim (x2 c) (y2 c)
end
end
section
structure qj(csc:Scope)(env:av)(cl:List (Str×Addr))(cb cd:Addr):Prop where
 clos:closureFor csc env=pure cl
 kind:csc.kind= .function
 names:∀y∈csc.names,y.2= .local->csc.names.lookup y.1=some .local
 nocell:∀y∈csc.names,y.2≠ .cell
 k:csc.names.lookup (aa "k")=some .local
 env:∀Cm,fG (compEnvC csc cl Cm env) cb cd
noncomputable def l8(vs:List ae)(L:Nat):Prop:=∃f,dG vs f/\ ∀x∈f,x.length<=L/\ ∀c∈x,c<1114112
theorem l8.push{vs:List ae}{L:Nat}{y:Str}{t:bE}(h:l8 vs L)(hy:Txt y L):l8 (vs++[.str y t]) L:=by
 refine ay h λf h1 h2=> ?_
 refine⟨f++[ao y],h1.push,λx hx=> ?_⟩
 refine cr (g8.mp hx) (λq=> ?_) (λq=> ?_)
 ·exact h2 x q
 ·rw[dw]at q;subst q;exact hy
section
variable{W:Wd}{X:Addr->Prop}{A:aA}{l:List av}{B cb cd fa fT:Addr}{d:Int}{s s':ah}{env:av}{N L:Nat}
theorem AZ(n:Int)(h0:0<=n)(h1:n<=1000):Builtin.Range.small 0 n 1=true:=small_one (by decide) (by decide) (o8 ‹_› (by rfl)) (D6 ‹_› (by rfl))
noncomputable abbrev A0:ai:= .BinOp (.Constant (.int 1) 0 (b9 83)) .Add (.BinOp (eP (b9 84) (b9 85) (b9 86)) .Mod (.Constant (.int 3) 0 (b9 87)) (b9 88)) (b9 89)
noncomputable abbrev LK:ai:= .Call (.Name (aa "range") (b9 82)) [A0] [] (b9 90)
noncomputable abbrev qk:ai:= .ListComp (nS (b9 75) (b9 76) (b9 77) (b9 78) (b9 79) (b9 80)) [⟨.Name (aa "k") (b9 81),LK,[],0⟩] ib (b9 91)
inductive A2(W:Wd)(X:Addr->Prop)(B I₀ D Cm:Addr)(L n:Nat)(s₄:ah)(k:Nat)(s':ah):Prop
 |mk (j:Nat) (ys:List ae) (m:Nat) (f:Str->Option ae):k=n+1-j->j<=n->bq W X B s₄ s'->oZ s'.heap I₀ (0+(j:Int)*1) ((n:Int)-(j:Int)) 1->s'.heap.get? D=some (listOf ys.toArray m)->ys.length=j->l8 ys L->s'.heap.Ns Cm f->A2 W X B I₀ D Cm L n s₄ k s'
theorem LL(O:aZ W)(hT:gf W B fa N L (d+1))(hmg:W.mg (aa "_law_tree")=some (.ref fa)) (hcal:ce W (.ref fa)) {s₄ s₇:ah} (T4:cx W X A l B cb cd d s₄) (hd:A.depth+N<=900) (hu:A.units+10*N<=9000) {cl:List (Str×Addr)} (Cc:qj ib env cl cb cd) {I₀ D Cm:Addr} {n:Nat} (hn:n<=3)
  (ID:I₀≠D) (IC:I₀≠Cm) (DC:D≠Cm) (nI:s₄.heap.get? I₀=none) (nD:s₄.heap.get? D=none) (nC:s₄.heap.get? Cm=none) (xI:¬X I₀) (xD:¬X D) (BI:I₀≠B) (BD:D≠B)
  (x₇:bq W X B s₄ s₇) (hit7:oZ s₇.heap I₀ (0+((0:Nat):Int)*1) ((n:Int)-((0:Nat):Int)) 1) (hl7:s₇.heap.get? D=some (listOf ([]:List ae).toArray 0)) {f₇:Str->Option ae} (hns7:s₇.heap.Ns Cm f₇) {Rr:Result->ah->Prop}
  (hR:∀s' ys m f,s'.heap.Ns Cm f->bq W X B s₄ s'->s'.heap.get? D=some (listOf ys.toArray m)->ys.length<=3->l8 ys L->Rr (.ok .next) s'):
  codeAny W.M A (.compLoop qk 0 (.ref I₀) (.ref D) (compEnvC ib cl Cm env)) Rr s₇:=by
 have Wk:=Walks.range (prog:=iu) (w:=W.w) T4.R.handled I₀ 0 1 n
 refine codeAny_compLoop_tests (A2 W X B I₀ D Cm L n s₄) ?_ (n+1) ⟨0,[],0,_,rfl,dR _,x₇,hit7,hl7,rfl,⟨[], .nil,λx hx=>nomatch hx⟩,hns7⟩
 intro k s₅ zn1
 obtain⟨j,ys,m,f,rfl,hj,x₅,hit,hl,hlen,htx,hns⟩:=zn1
 by_cases hlt:j<n
 ·refine Wk.item j s₅ _ _ hlt hit λw h₈ tk₈ hP hit8 k₈=> ?_
  have ext8:eW I₀ s₅.heap h₈:=gI k₈
  have x₈:bq W X B s₄ {s₅ with heap:=h₈,toks:=tk₈}:=bq.chg T4.R.inv T4.bx x₅ nI ext8 λø=> .inr nI
  have hns8:h₈.Ns Cm f:=hns.at' λo e=>ext8 Cm o (cF IC) e
  have hl8:h₈.get? D=some (listOf ys.toArray m):=ext8 D _ (cF ID) hl
  refine ko (lC (lookup_relabel_local Cc.k) hns8 (λh₉ hns9 hs9=> ?_) (by show(ib.kind== .class||(ib.kind== .module&&_))=false;rw[Cc.kind];rfl))
  have x₉:bq W X B s₄ {s₅ with heap:=h₉,toks:=tk₈+1}:=bq.chg (s₁:={s₅ with heap:=h₈,toks:=tk₈}) T4.R.inv T4.bx x₈ nC hs9.extBut λø=> .inr nC
  have hit9:oZ h₉ I₀ (0+((j+1:Nat):Int)*1) ((n:Int)-((j+1:Nat):Int)) 1:=hs9.extBut I₀ _ IC hit8
  have hl9:h₉.get? D=some (listOf ys.toArray m):=hs9.extBut D _ DC hl8
  refine wpAny_tests_nil ?_
  simp only[if_true]
  refine uz O hT hmg hcal (Cc.env Cm) (T4.step x₉) hd hu λz tz s10 hz y10 T10=> ?_
  refine append_at (hsz:=by rw[oS,mM];exact aj (bG hlen) (aj (dz hlt) (aj hn (bz rfl)))) (y10.keep D _ xD BD hl9) λh₁₁ hs11 hl11=> ?_
  have x₁₁:bq W X B s₄ {s10 with heap:=h₁₁}:=bq.chg (tk:=s10.toks) T4.R.inv T4.bx (x₉.trans y10) nD hs11.extBut λø=> .inr nD
  refine⟨n+1-(j+1),uk hlt,j+1,ys++[.str z tz],m+1,_,rfl,hlt,x₁₁,hs11.extBut I₀ _ ID (y10.keep I₀ _ xI BI hit9),?_,by simp[hlen],htx.push hz,(y10.ns _ _ hns9).at' λo e=>hs11.extBut Cm o (cF DC) e⟩
  rw[hl11]
  simp
 ·have:j=n:=mX ‹_› ‹_›
  subst this
  refine Wk.done s₅ _ _ hit λh₈ tk₈ k₈=> ?_
  have ext8:eW I₀ s₅.heap h₈:=gI k₈
  have x₈:bq W X B s₄ {s₅ with heap:=h₈,toks:=tk₈}:=bq.chg T4.R.inv T4.bx x₅ nI ext8 λø=> .inr nI
  exact hR _ ys m f (hns.at' λo e=>ext8 Cm o (cF IC) e) x₈ (ext8 D _ (cF ID) hl) (kz ‹_› ‹_›) htx
set_option tactic.hygienic true in
theorem LM(O:aZ W)(hT:gf W B fa N L (d+1))(hmg:W.mg (aa "_law_tree")=some (.ref fa)) (hcal:ce W (.ref fa)) (hK:gx W B fT) (hmgK:W.mg (aa "_law_take")=some (.ref fT)) (hcalK:ce W (.ref fT)) (V:fG env cb cd) (hk:env.kindOf (aa "_law_take")=some .globalImplicit) (hr:env.kindOf (aa "range")=some .globalImplicit)
  (T:cx W X A l B cb cd d s) (hd:A.depth+N<=900) (hu:A.units+10*N<=9000) (hN:1<=N) {cl:List (Str×Addr)} (Cc:qj ib env cl cb cd)
  {Q E:ae->ah->Prop}
  (h:∀D vs n s',s'.heap.get? D=some (listOf vs.toArray n)->vs.length<=3->l8 vs L->¬X D->bq W X B s s'->cx W X A l B cb cd d s'->Q (.ref D) s'):
  wpAny W.M A (eval qk env) Q E s:=by
 have hsl:sizeLine=16777216:=mM
 rw[eval_ListComp]
 refine wpAny_comprehension_free (use:=none) rfl (by intro ø;rfl) Cc.clos Cc.kind Cc.names ?_
 refine gF rfl ?_
 rw[dY (b9 90) (show bv [A0]=true from rfl)]
 refine kT O T.R.inv V.kind hr V.globals V.builtins (by decide+kernel) (O.nogl _ (by simp[blt])) ((O.mbv _ (by decide+kernel)).trans (by kernel_rfl:bootBuiltins "range" =some (.type "range"))) ?_
 refine gu (W:=W) "range" A E s (b9 90) [] _ _ rfl (Calls.evalArgs_plain (Calls.spliced_cons (fU (d8 ?_))))
 have a₀:After W X s {s with toks:=s.toks+1}:=After.tok T.R.inv
 have x₀:=a₀.stepB T.bx
 refine uy O hK hmgK hcalK V hk (T.step x₀) (aj (bf _ _) ‹_›) (jB ‹_› ‹_› (by rfl)) (by decide) λi t s₂ h0 h1 x₂ T2=> ?_
 refine jL (W:=W) (X:=X) (op:= .Add) T2.R.inv T2.R.xlt (show bJ .Add (.int 1) (.int i)=some (.int (1+i))from rfl) (.int 1 _) (.int i t) λw s₃ a₃ r₃=> ?_
 cases r₃
 rename_i t₃
 have x₃:=x₀.trans (x₂.trans (a₃.stepB T2.bx))
 have T3:=T.step x₃
 refine Calls.spliced_nil ⟨a₃.inv,call_range_1 ?_⟩
 have a₄:After W X s₃ {s₃ with heap:=s₃.heap.push {cls:= .type "range",data:= .fields #[.int 0 s₃.toks, .int (1+i) t₃, .int 1 (s₃.toks+1)]},toks:=s₃.toks+1+1}:=After.push T3.R.inv _
 have x₄:=x₃.trans (a₄.stepB T3.bx)
 have T4:=T.step x₄
 obtain⟨s₄,hs4⟩:∃s₄,s₄=({s₃ with heap:=s₃.heap.push {cls:= .type "range",data:= .fields #[.int 0 s₃.toks, .int (1+i) t₃, .int 1 (s₃.toks+1)]},toks:=s₃.toks+1+1}:ah):=⟨_,rfl⟩
 have hr4:IsRange s₄.heap s₃.heap.objs.size 0 (1+i) 1 s₃.toks t₃ (s₃.toks+1):=by rw[hs4];exact IsRange.new _ _ _ _ _ _ _
 rw[<-hs4]at x₄ T4 ⊢
 clear hs4 a₄
 refine wpAny_pyIter_range hr4 (AZ _ (DK (by decide) h0) (jr (b:=3) (oE i 1▸wB h1) (by decide))) ?_
 rw[rangeSize_one,if_pos (oE i 1▸PI h0)]
 refine Dw ?_ (by show 0<=sizeLine;exact bz (by rfl))
 refine Dx Cc.nocell (by intro y hy;simp at hy) (λh₇ hns7 hsb7=> ?_) Cc.kind
 dsimp only at hns7 hsb7 ⊢
 obtain⟨I₀,hI0⟩:∃I₀,s₄.heap.objs.size=I₀:=⟨_,rfl⟩
 rw[hI0]
 generalize hH1:s₄.heap.push {cls:= .type "range_iterator",data:= .fields #[rawInt 0,rawInt (1+i-0),rawInt 1]}=H1 at hns7 hsb7 ⊢
 have z1:H1.objs.size=I₀+1:=by rw[<-hH1,jy,hI0]
 generalize hH2:H1.push {cls:= .type "list",data:= .seq ([]:List ae).toArray}=H2 at hns7 hsb7 ⊢
 have z2:H2.objs.size=I₀+2:=by rw[<-hH2,jy,z1]
 obtain⟨D,hD⟩:∃D,H1.objs.size=D:=⟨_,rfl⟩
 obtain⟨Cm,hCm⟩:∃Cm,H2.objs.size=Cm:=⟨_,rfl⟩
 rw[hD]at z1 ⊢
 rw[hCm]at hns7 hsb7 z2
 have nat3:∀a b c:Nat,b=a+1->c=a+2->a≠b/\ a≠c/\ b≠c:=λa b c h1 h2=>sv ‹_› ‹_›
 refine bM (nat3 _ _ _ z1 z2) λID IC DC=> ?_
 have nI:s₄.heap.get? I₀=none:=dU (by rw[hI0];exact bP _)
 have nD:s₄.heap.get? D=none:=dU (by rw[hI0];have:D=I₀+1:=z1;exact iX ‹_›)
 have nC:s₄.heap.get? Cm=none:=dU (by rw[hI0];have:Cm=I₀+2:=z2;exact iX ‹_›)
 have xI:¬X I₀:=λhx=>by obtain⟨o,e⟩:=T4.R.xlt _ hx;rw[nI]at e;exact am e
 have xD:¬X D:=λhx=>by obtain⟨o,e⟩:=T4.R.xlt _ hx;rw[nD]at e;exact am e
 have BI:I₀≠B:=λq=>xI (q▸T.XB)
 have BD:D≠B:=λq=>xD (q▸T.XB)
 have old:∀b o,s₄.heap.get? b=some o->h₇.get? b=some o:=λb o e=>
  hsb7.extBut b o (λq=>by rw[q,nC]at e;exact am e) (b4 _ (hH2▸b4 _ (hH1▸b4 _ e)))
 have a₇:After W X s₄ {s₄ with heap:=h₇,toks:=s₄.toks+([]:List (Str×ae)).length}:=After.of_keeps T4.R.inv old
 have hit7:oZ h₇ I₀ (0+((0:Nat):Int)*1) ((((1+i).toNat:Nat):Int)-((0:Nat):Int)) 1:=by
  have:H1.get? I₀=some {cls:= .type "range_iterator",data:= .fields #[rawInt 0,rawInt (1+i-0),rawInt 1]}:=by rw[<-hH1,<-hI0];exact et _ rfl
  have e1:(((1+i).toNat:Nat):Int)-((0:Nat):Int)=1+i-0:=(vS _).trans ((rE (DK (by decide) h0)).trans (vS _).symm)
  rw[e1]
  exact(hsb7.extBut I₀ _ IC (b4 _ (hH2▸b4 _ this)))
 have hl7:h₇.get? D=some (listOf ([]:List ae).toArray 0):=by
  have:H2.get? D=some (listOf ([]:List ae).toArray 0):=by rw[<-hH2,<-hD];exact et _ rfl
  exact hsb7.extBut D _ DC (b4 _ this)
 subst hCm
 have loop:codeAny W.M A (.compLoop qk 0 (.ref I₀) (.ref D) (compEnvC ib cl H2.objs.size env)) (compPost W.M A E none Q (.ref D) H2.objs.size) {s₄ with heap:=h₇,toks:=s₄.toks+([]:List (Str×ae)).length}:=by
  refine LL O hT hmg hcal T4 hd hu Cc (DL.mpr (oE i 1▸wB h1)) ID IC DC nI nD nC xI xD BI BD (a₇.stepB T4.bx) hit7 hl7 hns7 λs₅ ys m f hns x₅ hl hlen htx=> ?_
  refine⟨f,hns,λh₉ hs9=> ?_⟩
  have x₉:bq W X B s₄ {s₅ with heap:=h₉}:=bq.chg (tk:=s₅.toks) T4.R.inv T4.bx x₅ nC hs9.extBut λø=> .inr nC
  exact h D ys m _ (hs9.extBut D _ DC hl) hlen htx xD (x₄.trans x₉) (T4.step x₉)
 exact codeAny_compStart_list loop ((Walks.range (prog:=iu) (w:=W.w) T.R.handled I₀ 0 1 (1+i).toNat).self 0 _ _ _ hit7 loop)
end
end
section
noncomputable abbrev LN(p:Nat->ax):aC:=
 .Assign [.Name (aa "kind") (p 0)] (.BinOp (eP (p 1) (p 2) (p 3)) .Mod (.IfExp (.Compare (.Name (aa "depth") (p 4)) [.Lt] [.Constant (.int 2) 0 (p 5)] (p 6)) (.Constant (.int 6) 0 (p 7)) (.Constant (.int 3) 0 (p 8)) (p 9)) (p 10)) (p 11)
noncomputable abbrev LO(p:Nat->ax):aC:=
 .If (.Compare (.Name (aa "kind") (p 12)) [.Lt] [.Constant (.int 3) 0 (p 13)] (p 14)) [.Return (some (.BinOp (.Subscript (.Call (.Name (aa "_law_names") (p 15)) [] [] (p 16)) (.BinOp (eP (p 17) (p 18) (p 19)) .Mod (.Constant (.int 11) 0 (p 20)) (p 21)) (p 22)) .Add (.Subscript (.Call (.Name (aa "_law_subs") (p 23)) [] [] (p 24)) (.BinOp (eP (p 25) (p 26) (p 27)) .Mod (.Constant (.int 12) 0 (p 28)) (p 29)) (p 30)) (p 31))) (p 32)] [] (p 33)
noncomputable abbrev LP(p:Nat->ax):aC:=
 .If (.Compare (.Name (aa "kind") (p 34)) [.Eq] [.Constant (.int 3) 0 (p 35)] (p 36)) [.Return (some (.BinOp (.BinOp (.BinOp (nS (p 37) (p 38) (p 39) (p 40) (p 41) (p 42)) .Add (.Constant (.str (aa "[")) 0 (p 43)) (p 44)) .Add (.Call (.Name (aa "str") (p 45)) [.BinOp (.Constant (.int 1) 0 (p 46)) .Add (.BinOp (eP (p 47) (p 48) (p 49)) .Mod (.Constant (.int 30) 0 (p 50)) (p 51)) (p 52)] [] (p 53)) (p 54)) .Add (.Constant (.str (aa "]")) 0 (p 55)) (p 56))) (p 57)] [] (p 58)
noncomputable abbrev LQ(p:Nat->ax):aC:=
 .If (.Compare (.Name (aa "kind") (p 59)) [.Eq] [.Constant (.int 4) 0 (p 60)] (p 61)) [.Return (some (.BinOp (nS (p 62) (p 63) (p 64) (p 65) (p 66) (p 67)) .Add (.Constant (.str (aa "[]")) 0 (p 68)) (p 69))) (p 70)] [] (p 71)
noncomputable abbrev LR(p:Nat->ax)(csc:Scope)(sep mj:Str):aC:=
 .Return (some (.BinOp (.BinOp (.Constant (.str (aa "(")) 0 (p 72)) .Add (.Call (.Attribute (.Constant (.str sep) 0 (p 73)) mj (p 74)) [.ListComp (nS (p 75) (p 76) (p 77) (p 78) (p 79) (p 80)) [⟨.Name (aa "k") (p 81), .Call (.Name (aa "range") (p 82)) [.BinOp (.Constant (.int 1) 0 (p 83)) .Add (.BinOp (eP (p 84) (p 85) (p 86)) .Mod (.Constant (.int 3) 0 (p 87)) (p 88)) (p 89)] [] (p 90),[],0⟩] csc (p 91)] [] (p 92)) (p 93)) .Add (.Constant (.str (aa ")")) 0 (p 94)) (p 95))) (p 96)
noncomputable abbrev uA:List aC:=[LN b9,LO b9,LP b9,LQ b9,LR b9 ib (aa ",") (aa "join")]
section
variable{W:Wd}{X:Addr->Prop}{A:aA}{l:List av}{B cb cd fa fT Lc:Addr}{d:Int}{s s':ah}{env:av}{N L:Nat}
theorem uB{op:fi}{k:Int}{f:Int->Int->Bool}(hop:∀i j:Int,kG op (.int i) (.int j)=some (f i j))(V:fG env cb cd)(hL:env.locals=Lc)(hkk:env.kindOf (aa "kind")=some .local) {m:Str->Option ae} {i:Int} {t:bE} (hn:s.heap.Ns Lc m) (hm:m (aa "kind")=some (.int i t)) (hu:A.units<=9000) {p q r:ax} {wh:Sem ae} {Q:Bool->ah->Prop} {E:ae->ah->Prop}
  (h:Q (f i k) {s with toks:=s.toks+1}):wpAny W.M A (isTrue (.Compare (.Name (aa "kind") p) [op] [.Constant (.int k) 0 q] r) env wh) Q E s:=by
 have hm':behindInMarks op (.Constant (.int k) 0 q)=false:=by cases op<;>rfl
 exact oU (hm:=hm') (dT (dM V.kind hkk (hL▸hn) hm (d8 (kM (W:=W) (X:=λø=>False) (hop i k) (.int i t) (.int k _) hu (iF h)))) (by decide+kernel))
theorem l9(T:cx W X A l B cb cd d s){x:Str}{L:Nat}(hx:Txt x L){p:ax}{Q E:ae->ah->Prop}(h:∀t s',Txt x L->bq W X B s s'->cx W X A l B cb cd d s'->Q (.str x t) s'):wpAny W.M A (eval (.Constant (.str x) 0 p) env) Q E s:=by
 have x:=(After.tok (X:=X) (tk:=s.toks+1) T.R.inv).stepB T.bx
 exact kn (h _ _ hx x (T.step x))
theorem ma{x:Str}{L:Nat}(h:(decide ((ao x).length<=L)&&(ao x).all λc=>decide (c<1114112))=true):Txt x L:=by
 rw[aI,decide_eq_true_eq,ba]at h
 exact⟨h.1,λc hc=>of_decide_eq_true (h.2 c hc)⟩
theorem A3(L:Nat):∀f:List (List Nat),(∀x∈f,x.length<=L)->(aG [44] f).length<=f.length*(L+1)
 |[],_=>by simp[aG]
 |[x],h=>by have:=h x (by simp);simp[aG];exact iW ‹_›
 |x::y::r,h=>by
  have h1:=h x (by simp)
  have h2:=A3 L (y::r) λz hz=>h z (dS _ hz)
  have e:(aG [44] (x::y::r)).length=x.length+1+(aG [44] (y::r)).length:=by simp[aG];exact gX _ _ 1
  have e2:(x::y::r).length*(L+1)=(L+1)+(y::r).length*(L+1):=by
   rw[gE,Nat.add_mul,Nat.one_mul,ir]
  exact aj (bG e) (aj (rA (er h1) h2) (bG e2.symm))
theorem A4:∀f:List (List Nat),(∀x∈f,∀c∈x,c<1114112)->∀c∈aG [44] f,c<1114112
 |[],_,c,hc=>by simp[aG]at hc
 |[x],h,c,hc=>h x (by simp) c (by simpa[aG] using hc)
 |x::y::r,h,c,hc=>by
  have:c∈x++[44]++aG [44] (y::r):=hc
  rcases g8.mp this with q|q
  ·rcases g8.mp q with q|q
   ·exact h x (by simp) c q
   ·rw[dw]at q;exact q▸(by decide:(44:Nat)<1114112)
  ·exact A4 (y::r) (λz hz=>h z (dS _ hz)) c q
theorem A5:∀f:List (List Nat),cV (f.map .str)=some f
 |[]=>rfl
 |x::r=>by
  show(cV (r.map .str)).map (x:: ·)=_
  rw[A5 r];rfl
theorem LS(f:List (List Nat))(h:1+(aG [44] f).length<=aX):cn (aa "join") (ao (aa ",")) [.list (f.map .str)]=some (.str (aG [44] f)):=by
 rw[AQ]
 show(cV (f.map .str)).bind _=_
 rw[A5]
 exact if_pos (by rw[y8,PF];exact h)
noncomputable abbrev LU:ai:= .Call (.Attribute (.Constant (.str (aa ",")) 0 (b9 73)) (aa "join") (b9 74)) [qk] [] (b9 92)
theorem LV(O:aZ W)(hT:gf W B fa N L (d+1))(hmg:W.mg (aa "_law_tree")=some (.ref fa)) (hcal:ce W (.ref fa)) (hK:gx W B fT) (hmgK:W.mg (aa "_law_take")=some (.ref fT)) (hcalK:ce W (.ref fT)) (V:fG env cb cd) (hk:env.kindOf (aa "_law_take")=some .globalImplicit) (hr:env.kindOf (aa "range")=some .globalImplicit)
  (T:cx W X A l B cb cd d s) (hd:A.depth+N<=900) (hu:A.units+10*N<=9000) (hN:1<=N) {cl:List (Str×Addr)} (Cc:qj ib env cl cb cd) (hL:L<=200)
  {Q E:ae->ah->Prop}
  (h:∀x t s',Txt x (3*(L+1))->bq W X B s s'->cx W X A l B cb cd d s'->Q (.str x t) s'):
  wpAny W.M A (eval LU env) Q E s:=by
 refine pM ?_ ?_ ?_ ?_ ?_
 ·kernel_rfl
 ·kernel_rfl
 ·show 1<29;decide
 ·kernel_rfl
 refine l9 (x:=aa ",") (L:=1) T (ma (by decide+kernel)) λt s₁ ø x₁ T1 pl=> ?_
 refine yd (by decide+kernel) ?_
 refine jb (W:=W) (iE (aa "join")) A E s₁ (b9 92) [.str (aa ",") t] _ Q rfl (Calls.evalArgs_plain (Calls.spliced_cons ?_))
 refine LM O hT hmg hcal hK hmgK hcalK V hk hr T1 hd hu hN Cc λD vs n s₂ hD hv htx nX x₂ T2=> ?_
 refine Calls.spliced_nil ⟨T2.R.inv,?_⟩
 refine ay htx λf hf hfb=> ?_
 have hfl:f.length<=3:=by rw[<-hf.len];exact hv
 have rD:Rep W X s₂.heap (.ref D) (.list (f.map .str)):= .list hD rfl rfl nX (by rw[wz];exact hf.reps)
 have jl:=A3 L f λx hx=>(hfb x hx).1
 have jm:f.length*(L+1)<=3*(L+1):=Pi _ hfl
 have hz:cn (aa "join") (ao (aa ",")) [.list (f.map .str)]=some (.str (aG [44] f)):=by exact LS f (by rw[gt];exact aj (d7 (aj jl (aj jm (lr 3 (er hL)))) 1) (bz rfl))
 refine ye (W:=W) (X:=X) T2.R.inv T2.R.xlt hz (.cons rD .nil) λw s₃ a₃ r₃=> ?_
 have x₃:=x₁.trans (x₂.trans (a₃.stepB T2.bx))
 have jo:=A4 f λx hx=>(hfb x hx).2
 generalize aG [44] f=z at r₃ jl jo
 cases r₃ with
 |str y t' =>exact h y t' s₃ ⟨aj ‹_› ‹_›,jo⟩ x₃ (T.step x₃)
end
end
section
structure ql(W:Wd)(fa:Addr)(fd:dA):Prop where
 at_:∃o,W.base.get? fa=some o/\ o.data= .func fd
 body:fd.body= .stmts uA
 globals:fd.globals=mainGlobals
 builtins:fd.builtins=builtinsNs
 rec_:W.base.CodeRec fd.code fd.qualname
 kind:fd.scope.kind= .function
 co:fd.scope.isCoroutine=false
 gen:fd.scope.isGenerator=false
 clo:fd.closure=[]
 bind:∀a b,bindArgs fd ⟨[a,b],[]⟩=pure [(aa "box",a),(aa "depth",b)]
 cells:∀n,cellsFrom n fd.scope.names []=[(aa "depth",n+1),(aa "box",n)]
 nbox:fd.scope.names.lookup (aa "box")=some .cell
 ndep:fd.scope.names.lookup (aa "depth")=some .cell
 nkind:fd.scope.names.lookup (aa "kind")=some .local
 ntake:fd.scope.names.lookup (aa "_law_take")=some .globalImplicit
 ntree:fd.scope.names.lookup (aa "_law_tree")=some .globalImplicit
 nnames:fd.scope.names.lookup (aa "_law_names")=some .globalImplicit
 nsubs:fd.scope.names.lookup (aa "_law_subs")=some .globalImplicit
 nstr:fd.scope.names.lookup (aa "str")=some .globalImplicit
 nrange:fd.scope.names.lookup (aa "range")=some .globalImplicit
 comp:ib.names=[(aa ".0", .local),(aa "k", .local),(aa "_law_tree", .globalImplicit),(aa "box", .free),(aa "depth", .free)]
 ckind:ib.kind= .function
section
variable{W:Wd}{B fa fT:Addr}{d:Int}{N L:Nat}
theorem LW{env:av}{cb cd:Addr}{csc:Scope}(V:fG env cb cd)(hn:csc.names=[(aa ".0", .local),(aa "k", .local),(aa "_law_tree", .globalImplicit),(aa "box", .free),(aa "depth", .free)]) (hk:csc.kind= .function):qj csc env [(aa "depth",cd),(aa "box",cb)] cb cd where
 clos:=by
  have c1:cellOf env (aa "box")=pure cb:=by unfold cellOf;rw[V.cbox]
  have c2:cellOf env (aa "depth")=pure cd:=by unfold cellOf;rw[V.cdep]
  unfold closureFor
  rw[hn]
  simp only[List.forIn_cons,List.forIn_nil,c1,c2,pure_bind,bind_assoc]
  rfl
 kind:=hk
 names:=by rw[hn];intro y hy e;simp only[bS,eX,or_false]at hy;rcases hy with rfl|rfl|rfl|rfl|rfl<;>first|(cases e;done)|exact beq_iff_eq.mp (by decide+kernel)
 nocell:=by rw[hn];intro y hy e;simp only[bS,eX,or_false]at hy;rcases hy with rfl|rfl|rfl|rfl|rfl<;>cases e
 k:=by rw[hn];decide+kernel
 env:=λCm=>by
  have hs:(relabel csc env).names=[(aa ".0", .local),(aa "k", .local),(aa "_law_tree", .globalImplicit),(aa "box", .cell),(aa "depth", .cell)]:=by
   unfold relabel
   rw[hn]
   simp only[fm,rI,V.kind,V.kbox,V.kdep]
   rfl
  refine⟨hk,V.globals,V.builtins,?_,?_,?_,?_,?_⟩
  ·show(relabel csc env).names.lookup _=_;rw[hs];decide+kernel
  ·show(relabel csc env).names.lookup _=_;rw[hs];decide+kernel
  ·show([(aa "depth",cd),(aa "box",cb)]:List (Str×Addr)).lookup _=_
   rw[ch,show(aa "box" ==aa "depth")=false by decide+kernel,ch,beq_self_eq_true]
  ·show([(aa "depth",cd),(aa "box",cb)]:List (Str×Addr)).lookup _=_
   rw[ch,beq_self_eq_true]
  ·show(relabel csc env).names.lookup _=_;rw[hs];decide+kernel
structure uC(W:Wd)(B fa fT:Addr)(N:Nat)(nm sb:List (List Nat))(fN fS:ae):Prop where
 O:aZ W
 take:gx W B fT
 mgT:W.mg (aa "_law_take")=some (.ref fT)
 calT:ce W (.ref fT)
 mgA:W.mg (aa "_law_tree")=some (.ref fa)
 calA:ce W (.ref fa)
 names:nR W N (aa "_law_names") fN nm 7
 subs:nR W N (aa "_law_subs") fS sb 6
 l1:nm.length=11
 l2:sb.length=12
 N1:1<=N
 hB:l7 W B
structure gM(W:Wd)(X:Addr->Prop)(B Lc:Addr)(s s':ah):Prop where
 inv:Inv W s'
 keep:∀b o,¬X b->b≠B->s.heap.get? b=some o->s'.heap.get? b=some o
 ns:∀L m,L≠Lc->s.heap.Ns L m->s'.heap.Ns L m
 gens:dc s.gens s'.gens
 os:s'.os=s.os
 drawn:s'.drawn=s.drawn
 live:∀b o,s.heap.get? b=some o->∃o',s'.heap.get? b=some o'
 solid:∀b o,b≠B->dn o->s.heap.get? b=some o->s'.heap.get? b=some o
 box:dQ B s'.heap
theorem bq.l{X:Addr->Prop}{Lc:Addr}{s s':ah}(x:bq W X B s s'):gM W X B Lc s s':=⟨x.inv,x.keep,λL m ø e=>x.ns L m e,x.gens,x.os,x.drawn,x.live,x.solid,x.box⟩
theorem gM.trans{X:Addr->Prop}{Lc:Addr}{s s' s'':ah}(x:gM W X B Lc s s')(y:gM W X B Lc s' s''):gM W X B Lc s s'':=
 ⟨y.inv,λb o n q e=>y.keep b o n q (x.keep b o n q e),λL m n e=>y.ns L m n (x.ns L m n e),x.gens.trans y.gens,y.os.trans x.os,y.drawn.trans x.drawn,λb o e=>by obtain⟨o',e'⟩:=x.live b o e;exact y.live b o' e',λb o n t e=>y.solid b o n t (x.solid b o n t e),y.box⟩
theorem LX{X:Addr->Prop}{A:aA}{l:List av}{cb cd Lc:Addr}{s:ah}{env:av}{m:Str->Option ae}(V:fG env cb cd)(T:cx W X A l B cb cd d s)(hL:env.locals=Lc)(hn:s.heap.Ns Lc m)(hX:X Lc){x:Str}(hx:env.kindOf x=some .local){v:ae}{Q:Unit->ah->Prop}{E:ae->ah->Prop}
  (h:∀s',gM W X B Lc s s'->cx W X A l B cb cd d s'->s'.heap.Ns Lc (λy=>if y=x then some v else m y)->Q () s'):wpAny W.M A (storeName env x v) Q E s:=by
 refine lC hx (by rw[hL];exact hn) (λh' hn' hs=> ?_) (by rw[V.kind];rfl)
 rw[hL]at hn' hs
 have up:∀b o,b≠Lc->s.heap.get? b=some o->h'.get? b=some o:=λb o hb e=>(hs.2 b hb).trans e
 have neB:B≠Lc:=λq=>by
  refine dj T.bx λvs n ns e ø=> ?_
  refine gH hn λo es ep e' d' ø=> ?_
  rw[q,e']at e;obtain rfl:=aq e;cases d'
 have ne:∀{b:Addr} {o:Obj},(∀es ep,o.data≠ .dict es ep)->s.heap.get? b=some o->b≠Lc:=λ{b o} hd e q=>by
  refine gH hn λo' es ep e' d' ø=> ?_
  rw[q,e']at e;obtain rfl:=aq e;exact hd _ _ d'
 have live:∀b o,s.heap.get? b=some o->∃o',h'.get? b=some o':=λb o e=>by
  by_cases q:b=Lc
  ·subst q
   refine dj hn' λo' ø ø e' ø=> ?_
   exact⟨o',e'⟩
  ·exact⟨o,up b o q e⟩
 have I':Inv W {s with heap:=h',toks:=s.toks+1}:=by
  refine⟨λb o e=>up b o (λq=>T.R.xbase b o e (q▸hX)) (T.R.inv.stays b o e),λq hq=> ?_,T.R.inv.gens⟩
  refine ay (T.R.inv.tabs q hq) λps h1 h2=> ?_
  refine⟨ps,?_,?_⟩
  ·refine lH h1 λo vs file tf flags tg inF text tt op x1 r1 r2 r3 r4 r5 r6 x2 x3 r=> ?_
   exact⟨o,vs,file,tf,flags,tg,inF,text,tt,op,up _ _ (ne (by rw[r1];intro ø ø q;cases q) x1) x1,r1,r2,r3,r4,r5,r6,up _ _ (ne (by rw[x3];intro ø ø q;cases q) x2) x2,x3,r⟩
  ·refine xA h2 λzn1 t=> ?_
   refine mT zn1 λo vs x1 x2 x3 r=> ?_
   exact⟨⟨o,vs,up _ _ (ne (by rw[x3];intro ø ø q;cases q) x1) x1,x2,x3,r⟩,up _ _ (ne (by intro ø ø q;cases q) t) t⟩
 have bx':dQ B h':=by obtain⟨vs,n,ns,e,r⟩:=T.bx;exact⟨vs,n,ns,up _ _ neB e,r⟩
 have xL:gM W X B Lc s {s with heap:=h',toks:=s.toks+1}:=⟨I',λb o nx ø e=>up b o (λq=>nx (q▸hX)) e,λL m' nL e=>e.at' λo eo=>up L o nL eo,dc.refl _,rfl,rfl,live,λb o ø so e=>up b o (ne so.2 e) e,bx'⟩
 have cell:∀{c:Addr} {v:ae},¬X c->s.heap.IsCell c (some v)->h'.IsCell c (some v):=λ{c v} nc k=>let ⟨o,e,dd⟩:=k;⟨o,up _ _ (λq=>nc (q▸hX)) e,dd⟩
 refine xE T.dep λt ht=> ?_
 refine h _ xL ⟨⟨I',T.R.frames,T.R.guards,T.R.handled,T.R.below.after (s:=s) (s':={s with heap:=h',toks:=s.toks+1}) λL m' e=> ?_,T.R.xtabs,T.R.xbase,λb hb=> ?_⟩,T.XB,bx',cell T.nb T.box,⟨t,cell T.nd ht⟩,T.nb,T.nd⟩ hn'
 ·by_cases q:L=Lc
  ·exact⟨_,q▸hn'⟩
  ·exact⟨m',e.at' λo eo=>up L o q eo⟩
 ·refine xE (T.R.xlt b hb) λo e=> ?_
  exact live b o e
theorem LY{fd:dA}{nm sb:List (List Nat)}{fN fS:ae}{L':Nat}(F:ql W fa fd)(Z:uC W B fa fT N nm sb fN fS)
  (hb:∀(A:aA) (l:List av) (s:ah) (X:Addr->Prop) (env:av) (cb cd Lc:Addr) (m:Str->Option ae),fG env cb cd->cx W X A l B cb cd d s->env.locals=Lc->s.heap.Ns Lc m->X Lc->(∀x k,fd.scope.names.lookup x=some k->env.kindOf x=some k)->A.depth+N<=900->A.units+10*N<=9000->∀(Q:cO->ah->Prop) (E:ae->ah->Prop),
   (∀x t s',Txt x L'->gM W X B Lc s s'->Q (.ret (.str x t)) s')->wpAny W.M A (execs uA env) Q E s):gf W B fa (N+1) L' d:=λA l s X td R hX bx hd hu Q E h=>by
 have hrl:(900:Nat)<recursionLimit:=by decide+kernel
 have I:=R.inv
 refine ay F.at_ λo ho hod=> ?_
 have cl:=F.cells (s.heap.objs.size+1)
 refine jz (codeAny_call_cells (binds:=[(aa "box", .ref B),(aa "depth", .int d td)]) (bU (show A.depth<=900 by exact aj (bf _ _) ‹_›) hrl) (I.stays _ _ ho) hod (I.nolimit Z.O) (F.rec_.keeps I.stays) F.body (F.bind _ _) F.clo (λx hx=> ?_) (λs₁ x₁=> ?_) F.co F.gen F.kind)
 ·simp only[bS,eX,or_false]at hx
  rcases hx with rfl|rfl
  ·refine .inr ⟨F.nbox,?_⟩
   rw[cl,ch,show(aa "box" ==aa "depth")=false by decide+kernel,ch,beq_self_eq_true];rfl
  ·refine .inr ⟨F.ndep,?_⟩
   rw[cl,ch,beq_self_eq_true];rfl
 ·have hkind:∀x k,fd.scope.names.lookup x=some k->(callEnvC fd s.heap.objs.size fa).kindOf x=some k:=λx k e=>e
  have hcells:(callEnvC fd s.heap.objs.size fa).cells=[(aa "depth",s.heap.objs.size+1+1),(aa "box",s.heap.objs.size+1)]:=cl
  have cbx:(callEnvC fd s.heap.objs.size fa).cells.lookup (aa "box")=some (s.heap.objs.size+1):=by
   rw[hcells,ch,show(aa "box" ==aa "depth")=false by decide+kernel,ch,beq_self_eq_true]
  have cdp:(callEnvC fd s.heap.objs.size fa).cells.lookup (aa "depth")=some (s.heap.objs.size+1+1):=by
   rw[hcells,ch,beq_self_eq_true]
  have V:fG (callEnvC fd s.heap.objs.size fa) (s.heap.objs.size+1) (s.heap.objs.size+1+1):=⟨F.kind,F.globals,F.builtins,F.nbox,F.ndep,cbx,cdp,F.ntree⟩
  have e1:=x₁.cell _ _ cbx
  have e2:=x₁.cell _ _ cdp
  have nl:∀x,fd.scope.names.lookup x=some .cell->¬(callEnvC fd s.heap.objs.size fa).kindOf x=some .local:=λx e q=>by rw[hkind x _ e]at q;cases aq q
  have b1:bindC (callEnvC fd s.heap.objs.size fa).kindOf [(aa "box", .ref B),(aa "depth", .int d td)] (λø=>none) (aa "box")=some (.ref B):=by
   unfold bindC;rw[if_neg (nl _ F.nbox)];unfold bindC;rw[if_neg (nl _ F.ndep)];unfold bindC
   show(if aa "box" =aa "depth" then _ else if aa "box" =aa "box" then _ else _)=_
   rw[if_neg (by decide+kernel),if_pos rfl]
  have b2:bindC (callEnvC fd s.heap.objs.size fa).kindOf [(aa "box", .ref B),(aa "depth", .int d td)] (λø=>none) (aa "depth")=some (.int d td):=by
   unfold bindC;rw[if_neg (nl _ F.nbox)];unfold bindC;rw[if_neg (nl _ F.ndep)];unfold bindC
   show(if aa "depth" =aa "depth" then _ else _)=_
   rw[if_pos rfl]
  rw[b1]at e1
  rw[b2]at e2
  refine dX x₁.done λh₁ tk1 zq2 keep=> ?_;subst zq2
  have a₁:After W X s {s with heap:=h₁,toks:=tk1}:=After.of_keeps I keep
  have nC:s.heap.get? s.heap.objs.size=none:=dU (bP _)
  have nX:∀b,s.heap.objs.size<=b->¬X b:=λb hb hx=>by
   refine xE (R.xlt b hx) λo e=> ?_
   rw[dU hb]at e;exact am e
  have hns:=x₁.toInCall.ns
  have hloc:(callEnvC fd s.heap.objs.size fa).locals=s.heap.objs.size:=rfl
  rw[hloc]at hns
  have R':Ready W (λb=>X b \/b=s.heap.objs.size) (A.deeper (callEnvC fd s.heap.objs.size fa)) (callEnvC fd s.heap.objs.size fa::l) {s with heap:=h₁,toks:=tk1}:=by
   refine⟨a₁.inv,?_,R.guards,R.handled,?_,λq hq=> .inl (R.xtabs q hq),?_,?_⟩
   ·show A.frames.map _=_
    rw[R.frames];rfl
   ·intro e he
    rcases bS.mp he with q|q
    ·subst q
     refine⟨by show fd.scope.kind≠_;rw[F.kind];decide,s.heap.objs.size,_,rfl,?_,hns, .inr rfl⟩
     cases z:W.base.get? s.heap.objs.size with
     |none=>rfl
     |some o' =>have:=I.stays _ _ z;rw[nC]at this;exact am this
    ·refine g' (R.below e q) λk L0 m f1 f2 f3 f4=> ?_
     exact⟨k,L0,m,f1,f2,f3.keeps keep, .inl f4⟩
   ·intro b o' e q
    rcases q with q|q
    ·exact R.xbase b o' e q
    ·have:=I.stays _ _ e;rw[q,nC]at this;exact am this
   ·intro b hb
    rcases hb with q|q
    ·refine xE (R.xlt b q) λo' e=> ?_
     exact⟨o',keep _ _ e⟩
    ·subst q
     refine dj hns λo' ø ø e ø=> ?_
     exact⟨o',e⟩
  have T:cx W (λb=>X b \/b=s.heap.objs.size) (A.deeper (callEnvC fd s.heap.objs.size fa)) (callEnvC fd s.heap.objs.size fa::l) B (s.heap.objs.size+1) (s.heap.objs.size+1+1) d {s with heap:=h₁,toks:=tk1}:=
   ⟨R', .inl hX,(a₁.stepB bx).box,e1,⟨td,e2⟩,λq=>q.elim (nX _ (mQ _)) (λq=>by exact absurd q (mL (gk _))),λq=>q.elim (nX _ (DD (mQ _))) λq=>by exact absurd q (mL (kf (gk _)))⟩
  refine hb _ _ _ _ _ _ _ _ _ V T rfl hns (.inr rfl) hkind (by show A.depth+1+N<=900;exact lI ‹_› (by rfl)) (by show A.units+3+10*N<=9000;exact lI ‹_› (by rfl)) _ _ λx t s' ok y=> ?_
  refine h x t s' ?_ ok
  exact⟨y.inv,λb o nx nb e=>y.keep b o (λq=>q.elim nx λq=>by rw[q,nC]at e;exact am e) nb (keep b o e),λL0 m e=>y.ns L0 m (λq=>by obtain⟨o',_,_,e',_⟩:=e;rw[show L0=s.heap.objs.size from q,nC]at e';cases e') (e.keeps keep),y.gens,y.os,y.drawn,λb o e=>y.live b o (keep b o e),λb o nb so e=>y.solid b o nb so (keep b o e),y.box⟩
end
end
section
section
variable{W:Wd}{B fa fT:Addr}{d:Int}{N L:Nat}
theorem Txt.le{x:Str}{L M:Nat}(h:Txt x L)(k:L<=M):Txt x M:=⟨aj h.1 k,h.2⟩
set_option tactic.hygienic true in
theorem uD{fd:dA}{nm sb:List (List Nat)}{fN fS:ae}{L':Nat}(F:ql W fa fd)(Z:uC W B fa fT N nm sb fN fS)
  (hlow:d<2->gf W B fa N L (d+1)) (hL:L<=200) (hL':13<=L'/\ L+4<=L'/\ 3*(L+1)+2<=L'):gf W B fa (N+1) L' d:=
 LY F Z λA l s X env cb cd Lc m V T hLc hns hX hkind hd hu Q E h=>by
 have O:=Z.O
 have hN:=Z.N1
 refine bM hL' λb1 b2 b3=> ?_
 have ktake:=hkind _ _ F.ntake
 have kkind:=hkind _ _ F.nkind
 refine bW (ix (hs:=rfl) (fU (AX O Z.take Z.mgT Z.calT V ktake T (aj (bf _ _) ‹_›) (jB ‹_› ‹_› (by rfl)) λi t s₁ x₁ T1=> ?_)))
 have dvd:∀{Q:ae->ah->Prop} {E:ae->ah->Prop},(∀k t s',((d<2/\ k=6) \/(¬d<2/\ k=3))->bq W X B s₁ s'->cx W X A l B cb cd d s'->Q (.int k t) s')->
   wpAny W.M A (eval (.IfExp (.Compare (.Name (aa "depth") (b9 4)) [.Lt] [.Constant (.int 2) 0 (b9 5)] (b9 6)) (.Constant (.int 6) 0 (b9 7)) (.Constant (.int 3) 0 (b9 8)) (b9 9)) env) Q E s₁:=λ{Q E} hQ=>by
  refine wpAny_IfExp (oU (hm:=rfl) (AW V T1 λtd=>d8 (kM (W:=W) (X:=λø=>False) (op:= .Lt) (a:= .int d) (b:= .int 2) (r:=decide (d<2)) rfl (.int d td) (.int 2 _) (aj (bf _ _) ‹_›) (iF ?_))))
  have x:=(After.tok (X:=X) (tk:=s₁.toks+1+1) T1.R.inv).stepB T1.bx
  by_cases hd2:d<2
  ·rw[decide_eq_true hd2,if_pos rfl]
   exact d8 (hQ _ _ _ (.inl ⟨hd2,rfl⟩) x (T1.step x))
  ·rw[decide_eq_false hd2,if_neg (by decide)]
   exact d8 (hQ _ _ _ (.inr ⟨hd2,rfl⟩) x (T1.step x))
 refine dvd λk tk s₂ hk x₂ T2=> ?_
 have hz:bJ .Mod (.int i) (.int k)=some (.int (i%k)):=by
  show(if 0<k/\ k<=1000 then some (PV.int (i%k))else none)=_
  exact if_pos (by rcases hk with ⟨_,rfl⟩|⟨_,rfl⟩<;>decide)
 refine jL (W:=W) (X:=X) (op:= .Mod) T2.R.inv T2.R.xlt hz (.int i t) (.int k tk) λw s₃ a₃ r₃=> ?_
 cases r₃
 rename_i t₃
 have x₃:=x₁.trans (x₂.trans (a₃.stepB T2.bx))
 refine LX V (T.step x₃) hLc (x₃.ns _ _ hns) hX kkind λs₄ y₄ T4 hns4=> ?_
 have xl4:gM W X B Lc s s₄:=x₃.l.trans y₄
 have hm4:(λy=>if y=aa "kind" then some (ae.int (i%k) t₃)else m y) (aa "kind")=some (.int (i%k) t₃):=if_pos rfl
 generalize (λy=>if y=aa "kind" then some (ae.int (i%k) t₃)else m y)=m₄ at hns4 hm4
 have tokS:∀{s:ah} {tk:Nat},cx W X A l B cb cd d s->bq W X B s {s with toks:=tk}:=λ{s tk} T=>(After.tok (X:=X) (tk:=tk) T.R.inv).stepB T.bx
 refine bW (jA (uB (f:=λi j=>decide (i<j)) (λø ø=>rfl) V hLc kkind hns4 hm4 (aj (bf _ _) ‹_›) ?_))
 have T5:=T4.step (tokS (tk:=s₄.toks+1) T4)
 have xl5:gM W X B Lc s {s₄ with toks:=s₄.toks+1}:=xl4.trans (tokS T4).l
 by_cases h3:i%k<3
 ·rw[decide_eq_true h3,if_pos rfl]
  refine bW (iy (fU ?_))
  refine AY O Z.take Z.mgT Z.calT V ktake T5 hd hu hN Z.names (hkind _ _ F.nnames) (by decide+kernel) (by rw[Z.l1];rfl) λx tx s₆ hx x₆ T6=> ?_
  refine AY O Z.take Z.mgT Z.calT V ktake T6 hd hu hN Z.subs (hkind _ _ F.nsubs) (by decide+kernel) (by rw[Z.l2];rfl) λz tz s₇ hz x₇ T₇=> ?_
  refine kW (by decide) T₇ hx hz λr tr s₈ hr x₈ T8=> ?_
  exact h r tr s₈ (hr.le b1) (xl5.trans (x₆.trans (x₇.trans x₈)).l)
 ·rw[decide_eq_false h3,if_neg (by decide)]
  have hd2:d<2:=by
   rcases hk with ⟨q,_⟩|⟨_,rfl⟩
   ·exact q
   ·exact absurd (wA i (by decide)) h3
  have TR:=hlow hd2
  refine dW (bW (jA (uB (f:=λi j=>i==j) (λø ø=>rfl) V hLc kkind (s:={s₄ with toks:=s₄.toks+1}) hns4 hm4 (aj (bf _ _) ‹_›) ?_)))
  have T6:=T5.step (tokS (tk:=s₄.toks+1+1) T5)
  have xl6:gM W X B Lc s {s₄ with toks:=s₄.toks+1+1}:=xl5.trans (tokS T5).l
  by_cases h4:i%k=3
  ·rw[show(i%k==3)=true by rw[h4];rfl,if_pos rfl]
   refine bW (iy (fU (fU (fU ?_))))
   refine uz O TR Z.mgA Z.calA V T6 hd hu λx tx s₇ hx x₇ T₇=> ?_
   refine l9 (x:=aa "[") (L:=1) T₇ (ma (by decide+kernel)) λt₈ s₈ h₈ x₈ T8=> ?_
   refine kW (fo ‹_› (by rfl)) T8 hx h₈ λz₉ t₉ s₉ h₉ x₉ T9=> ?_
   refine LJ O Z.take Z.mgT Z.calT V ktake (hkind _ _ F.nstr) T9 (aj (bf _ _) ‹_›) (jB ‹_› ‹_› (by rfl)) λy ty s10 hy x₁₀ T10=> ?_
   refine kW (d9 (a:=L+1) (k:=2) (er hL) (by rfl)) T10 h₉ hy λz11 t11 s11 h₁₁ x₁₁ T11=> ?_
   refine l9 (x:=aa "]") (L:=1) T11 (ma (by decide+kernel)) λt12 s12 h₁₂ x₁₂ T12=> ?_
   refine kW (d9 (a:=L+1+2) (k:=1) (iq hL 3) (by rfl)) T12 h₁₁ h₁₂ λr tr s13 hr x₁₃ T13=> ?_
   exact h r tr s13 (hr.le (by omega)) (xl6.trans (x₇.trans (x₈.trans (x₉.trans (x₁₀.trans (x₁₁.trans (x₁₂.trans x₁₃)))))).l)
  ·rw[show(i%k==3)=false by rw[beq_eq_false_iff_ne];exact h4,if_neg (by decide)]
   refine dW (bW (jA (uB (f:=λi j=>i==j) (λø ø=>rfl) V hLc kkind (s:={s₄ with toks:=s₄.toks+1+1}) hns4 hm4 (aj (bf _ _) ‹_›) ?_)))
   have T₇:=T6.step (tokS (tk:=s₄.toks+1+1+1) T6)
   have xl7:gM W X B Lc s {s₄ with toks:=s₄.toks+1+1+1}:=xl6.trans (tokS T6).l
   by_cases h5:i%k=4
   ·rw[show(i%k==4)=true by rw[h5];rfl,if_pos rfl]
    refine bW (iy (fU ?_))
    refine uz O TR Z.mgA Z.calA V T₇ hd hu λx tx s₈ hx x₈ T8=> ?_
    refine l9 (x:=aa "[]") (L:=2) T8 (ma (by decide+kernel)) λt₉ s₉ h₉ x₉ T9=> ?_
    refine kW (d9 ‹_› (by rfl)) T9 hx h₉ λr tr s10 hr x₁₀ T10=> ?_
    exact h r tr s10 (hr.le (r7 ‹_› (by rfl))) (xl7.trans (x₈.trans (x₉.trans x₁₀)).l)
   ·rw[show(i%k==4)=false by rw[beq_eq_false_iff_ne];exact h5,if_neg (by decide)]
    refine dW (bW (iy (fU (fU ?_))))
    refine l9 (x:=aa "(") (L:=1) T₇ (ma (by decide+kernel)) λt₈ s₈ h₈ x₈ T8=> ?_
    refine LV O TR Z.mgA Z.calA Z.take Z.mgT Z.calT V ktake (hkind _ _ F.nrange) T8 hd hu hN (LW V F.comp F.ckind) hL λx tx s₉ hx x₉ T9=> ?_
    refine kW (mV (k:=1) (lr 3 (er hL)) (by rfl)) T9 h₈ hx λz10 t10 s10 h₁₀ x₁₀ T10=> ?_
    refine l9 (x:=aa ")") (L:=1) T10 (ma (by decide+kernel)) λt11 s11 h₁₁ x₁₁ T11=> ?_
    refine kW (d9 (a:=1+3*(L+1)) (k:=1) (d7 (lr 3 (er hL)) 1) (by rfl)) T11 h₁₀ h₁₁ λr tr s12 hr x₁₂ T12=> ?_
    exact h r tr s12 (hr.le (aj (bG (congrArg Nat.succ (ir 1 _))) hL'.2.2)) (xl7.trans (x₈.trans (x₉.trans (x₁₀.trans (x₁₁.trans x₁₂)))).l)
theorem LZ{fd:dA}{nm sb:List (List Nat)}{fN fS:ae}{n:Nat}(F:ql W fa fd)(Z:∀N,n<=N->uC W B fa fT N nm sb fN fS):gf W B fa (n+3) 137 0/\ gf W B fa (n+2) 44 1:=by
 have t2:gf W B fa (n+1) 13 2:=uD (L:=0) F (Z n (bP _)) (λq=>absurd q (by decide)) (bz (by rfl)) ⟨bz (by rfl),bz (by rfl),bz (by rfl)⟩
 have t1:gf W B fa (n+2) 44 1:=uD (L:=13) F (Z (n+1) (mQ n)) (λø=>t2) (bz (by rfl)) ⟨bz (by rfl),bz (by rfl),bz (by rfl)⟩
 exact⟨uD (L:=44) F (Z (n+2) (bf n 2)) (λø=>t1) (bz (by rfl)) ⟨bz (by rfl),bz (by rfl),bz (by rfl)⟩,t1⟩
end
end
section
structure bF(K:Addr->Obj->Prop)(W:Wd)(X:Addr->Prop)(A:aA)(l:List av)(B Lc:Addr)(sc:Scope)(env:av)(os:iv)(s:ah)(ρ:ak):Prop where
 R:Ready W X A l s
 envk:jO false W sc env
 hL:env.locals=Lc
 XL:X Lc
 XB:X B
 bx:dQ B s.heap
 os:s.os=os
 kinds:pu sc ρ
 kp:∀b o,K b o->¬X b/\ s.heap.get? b=some o
 loc:∃m,s.heap.Ns Lc m/\ m (aa "box")=some (.ref B)/\ ∀x p,ρ.lookup x=some p->∃v,m x=some v/\ Rep W X s.heap v p
section
variable{K:Addr->Obj->Prop}{W:Wd}{X:Addr->Prop}{A:aA}{l:List av}{B Lc:Addr}{sc:Scope}{env:av}{os:iv}{s s':ah}{ρ:ak}{N:Nat}{E₀:Ev}{fT fa:Addr}
theorem bF.here(T:bF K W X A l B Lc sc env os s ρ):Here false W X A l s sc env ρ:=by
 refine bA T.loc λm h1 ø h3=> ?_
 exact⟨T.R,T.envk,⟨T.hL▸T.XL,m,T.hL▸h1,h3⟩,T.kinds⟩
theorem bF.step(T:bF K W X A l B Lc sc env os s ρ)(x:bq W X B s s'):bF K W X A l B Lc sc env os s' ρ:=by
 refine bA T.loc λm h1 h2 h3=> ?_
 exact⟨T.R.step x,T.envk,T.hL,T.XL,T.XB,x.box,x.os.trans T.os,T.kinds,(λb o k=>⟨(T.kp b o k).1,x.keep b o (T.kp b o k).1 (λq=>(T.kp b o k).1 (q▸T.XB)) (T.kp b o k).2⟩),m,x.ns _ _ h1,h2,λy p e=>let ⟨v,e1,e2⟩:=h3 y p e;⟨v,e1,x.rep T.XB e2⟩⟩
theorem bF.after(T:bF K W X A l B Lc sc env os s ρ)(a:After W X s s'):bF K W X A l B Lc sc env os s' ρ:=T.step (a.stepB T.bx)
theorem bF.sub(T:bF K W X A l B Lc sc env os s ρ){ρ':ak}(h:∀y p,ρ'.lookup y=some p->ρ.lookup y=some p):bF K W X A l B Lc sc env os s ρ':=by
 refine bA T.loc λm h1 h2 h3=> ?_
 exact⟨T.R,T.envk,T.hL,T.XL,T.XB,T.bx,T.os,λy p e=>T.kinds y p (h y p e),T.kp,m,h1,h2,λy p e=>h3 y p (h y p e)⟩
theorem L1(hE:aN false W N E₀)(T:bF K W X A l B Lc sc env os s ρ){e:ai}{p:PV}(he:E₀.ev sc e ρ= .ok p)(hd:A.depth+N<=900)(hu:A.units+10*N<=9000){Q E:ae->ah->Prop}(h:∀v s',bF K W X A l B Lc sc env os s' ρ->Rep W X s'.heap v p->Q v s'):wpAny W.M A (eval e env) Q E s:=by
 refine hE.1 sc e X A l s env ρ T.here (by rw[he];exact λq=>nomatch q) hd hu Q E ⟨λv q s' e1 a r=> ?_,λe' c s' e1 ø=>by rw[he]at e1;cases e1⟩
 rw[he]at e1;obtain rfl:=dk e1
 exact h v s' (T.after a) r
theorem Qm(hE:aN false W N E₀)(T:bF K W X A l B Lc sc env os s ρ){e:ai}{b:Bool}(he:E₀.tst sc e ρ= .ok b)(hd:A.depth+N<=900)(hu:A.units+10*N<=9000){Q:Bool->ah->Prop}{E:ae->ah->Prop}(h:∀s',bF K W X A l B Lc sc env os s' ρ->Q b s'):wpAny W.M A (isTrue e env (eval e env)) Q E s:=by
 refine hE.2 sc e X A l s env ρ T.here (by rw[he];exact λq=>nomatch q) hd hu Q E ⟨λv q s' e1 a r=> ?_,λe' c s' e1 ø=>by rw[he]at e1;cases e1⟩
 rw[he]at e1;obtain rfl:=dk e1;subst r
 exact h s' (T.after a)
theorem A6(T:bF K W X A l B Lc sc env os s ρ)(hk:sc.names.lookup (aa "box")=some .local) {p:ax} {Q E:ae->ah->Prop} (h:Q (.ref B) s):wpAny W.M A (eval (.Name (aa "box") p) env) Q E s:=by
 refine bA T.loc λm h1 h2 ø=> ?_
 exact dT (dM T.envk.scope (T.envk.names _ _ hk (by simp) (by simp)) (T.hL▸h1) h2 h) (by decide+kernel)
theorem A7(O:aZ W)(hT:gx W B fT)(hmg:W.mg (aa "_law_take")=some (.ref fT)) (hcal:ce W (.ref fT)) (hb:sc.names.lookup (aa "box")=some .local) (hk:sc.names.lookup (aa "_law_take")=some .globalImplicit) (T:bF K W X A l B Lc sc env os s ρ) (hd:A.depth<=900) (hu:A.units+10<=9000) {p q r:ax} {Q E:ae->ah->Prop}
  (h:∀i t s',bF K W X A l B Lc sc env os s' ρ->Q (.int i t) s'):wpAny W.M A (eval (eP p q r) env) Q E s:=by
 refine gF rfl ?_
 rw[dY r (show bv [jx (aa "box") q]=true from rfl)]
 refine jR O T.R.inv T.envk.scope (T.envk.names _ _ hk (by simp) (by simp)) T.envk.globals (by decide+kernel) hmg ?_
 refine hcal A E s r [] _ Q rfl (Calls.evalArgs_plain (Calls.spliced_cons (A6 T hb (Calls.spliced_nil ⟨T.R.inv,?_⟩))))
 exact hT A X s T.R.inv T.R.guards hd hu T.bx Q E λi t s' x=>h i t s' (T.step x)
theorem L3(O:aZ W)(hE:aN false W N E₀)(hT:gx W B fT)(hmg:W.mg (aa "_law_take")=some (.ref fT)) (hcal:ce W (.ref fT)) (hb:sc.names.lookup (aa "box")=some .local) (hk:sc.names.lookup (aa "_law_take")=some .globalImplicit) (T:bF K W X A l B Lc sc env os s ρ) (hd:A.depth+N<=900) (hu:A.units+10*N<=9000) (hN:1<=N)
  {p q r v:ax} {e:ai} {k:Int} (he:E₀.ev sc e ρ= .ok (.int k)) (hk0:0<k/\ k<=1000) {Q E:ae->ah->Prop} (h:∀i t s',0<=i->i<k->bF K W X A l B Lc sc env os s' ρ->Q (.int i t) s'):wpAny W.M A (eval (.BinOp (eP p q r) .Mod e v) env) Q E s:=by
 refine fU (A7 O hT hmg hcal hb hk T (aj (bf _ _) ‹_›) (jB ‹_› ‹_› (by rfl)) λi t s₁ T1=> ?_)
 refine L1 hE T1 he hd hu λw s₂ T2 r₂=> ?_
 refine r₂.intE λø zq=> ?_;subst zq
 have hz:bJ .Mod (.int i) (.int k)=some (.int (i%k)):=by
  show(if 0<k/\ k<=1000 then some (PV.int (i%k))else none)=_
  exact if_pos hk0
 refine jL (W:=W) (X:=X) (op:= .Mod) T2.R.inv T2.R.xlt hz (.int i t) (.int k _) λw s₃ a₃ r₃=> ?_
 refine r₃.intE λø zq=> ?_;subst zq
 exact h _ _ _ (DJ _ (vW hk0.1)) (wA _ hk0.1) (T2.after a₃)
theorem kX(T:bF K W X A l B Lc sc env os s ρ){x:Str}(hx:sc.names.lookup x=some .local)(hbx:x≠aa "box") {v:ae} {p:PV} (r:Rep W X s.heap v p) {Q:Unit->ah->Prop} {E:ae->ah->Prop}
  (h:∀s',bF K W X A l B Lc sc env os s' (aQ x p ρ)->Q () s'):wpAny W.M A (storeName env x v) Q E s:=by
 refine bA T.loc λm hn hm hv=> ?_
 refine lC (T.envk.names _ _ hx (by simp) (by simp)) (T.hL▸hn) (λh' hn' hs=> ?_) (by rw[T.envk.scope];rfl)
 rw[T.hL]at hn' hs
 have up:∀b o,b≠Lc->s.heap.get? b=some o->h'.get? b=some o:=λb o hb e=>(hs.2 b hb).trans e
 have ne:∀{b:Addr} {o:Obj},(∀es ep,o.data≠ .dict es ep)->s.heap.get? b=some o->b≠Lc:=λ{b o} hd e q=>by
  refine gH hn λo' es ep e' d' ø=> ?_
  rw[q,e']at e;obtain rfl:=aq e;exact hd _ _ d'
 have live:∀b o,s.heap.get? b=some o->∃o',h'.get? b=some o':=λb o e=>by
  by_cases q:b=Lc
  ·subst q
   refine dj hn' λo' ø ø e' ø=> ?_
   exact⟨o',e'⟩
  ·exact⟨o,up b o q e⟩
 have I':Inv W {s with heap:=h',toks:=s.toks+1}:=by
  refine⟨λb o e=>up b o (λq=>T.R.xbase b o e (q▸T.XL)) (T.R.inv.stays b o e),λq hq=> ?_,T.R.inv.gens⟩
  refine ay (T.R.inv.tabs q hq) λps h1 h2=> ?_
  refine⟨ps,?_,?_⟩
  ·refine lH h1 λo vs file tf flags tg inF text tt op x1 r1 r2 r3 r4 r5 r6 x2 x3 r=> ?_
   exact⟨o,vs,file,tf,flags,tg,inF,text,tt,op,up _ _ (ne (by rw[r1];intro ø ø q;cases q) x1) x1,r1,r2,r3,r4,r5,r6,up _ _ (ne (by rw[x3];intro ø ø q;cases q) x2) x2,x3,r⟩
  ·refine xA h2 λzn1 t=> ?_
   refine mT zn1 λo vs x1 x2 x3 r=> ?_
   exact⟨⟨o,vs,up _ _ (ne (by rw[x3];intro ø ø q;cases q) x1) x1,x2,x3,r⟩,up _ _ (ne (by intro ø ø q;cases q) t) t⟩
 have bx':dQ B h':=by obtain⟨vs,n,ns,e,r⟩:=T.bx;exact⟨vs,n,ns,up _ _ (ne (by intro ø ø q;cases q) e) e,r⟩
 have rp:∀{v:ae} {p:PV},Rep W X s.heap v p->Rep W X h' v p:=λr=>r.mono (λb o nx e=>up b o (λq=>nx (q▸T.XL)) e) λø ø ø n=>n
 refine h _ ⟨⟨I',T.R.frames,T.R.guards,T.R.handled,T.R.below.after (s:=s) (s':={s with heap:=h',toks:=s.toks+1}) λL m' e=> ?_,T.R.xtabs,T.R.xbase,λb hb=> ?_⟩,T.envk,T.hL,T.XL,T.XB,bx',T.os,λy q e=> ?_,(λb o k=>⟨(T.kp b o k).1,up b o (λq=>(T.kp b o k).1 (q▸T.XL)) (T.kp b o k).2⟩),_,hn',?_,λy q e=> ?_⟩
 ·by_cases q:L=Lc
  ·exact⟨_,q▸hn'⟩
  ·exact⟨m',e.at' λo eo=>up L o q eo⟩
 ·refine xE (T.R.xlt b hb) λo e=> ?_
  exact live b o e
 ·rw[gd]at e
  by_cases q':y=x
  ·rw[q'];exact hx
  ·rw[if_neg q']at e;exact T.kinds y q e
 ·rw[if_neg (cF hbx)];exact hm
 ·rw[gd]at e
  by_cases q':y=x
  ·rw[if_pos q']at e;obtain rfl:=aq e
   exact⟨v,if_pos q',rp r⟩
  ·rw[if_neg q']at e
   refine ay (hv y q e) λw e1 e2=> ?_
   exact⟨w,(if_neg q').trans e1,rp e2⟩
noncomputable def fH(ρ:ak):Prop:=∀x p,ρ.lookup x=some p->(∃y,p= .str y) \/∃i,p= .int i
theorem L4{h h':Heap}{v:ae}{p:PV}(f:(∃y,p= .str y) \/∃i,p= .int i)(r:Rep W X h v p):Rep W X h' v p:=by
 rcases f with ⟨y,rfl⟩|⟨i,rfl⟩
 ·refine r.strE λø ø zq zr=> ?_;subst zq zr;exact .str _ _
 ·refine r.intE λø zq=> ?_;subst zq;exact .int _ _
theorem bF.chg{K':Addr->Obj->Prop}{I₀:Addr}{oI:Obj}{h':Heap}{tk:Nat}(T:bF K W X A l B Lc sc env os s ρ)(fl:fH ρ)(hb:W.base.get? I₀=none)(nX:¬X I₀)(eI:s.heap.get? I₀=some oI)(hc:oI.cls= .type "range_iterator") (ext:eW I₀ s.heap h') (hK:∀b o,K' b o->b=I₀/\ h'.get? b=some o):
  bF K' W X A l B Lc sc env os {s with heap:=h',toks:=tk} ρ:=by
 refine bA T.loc λm h1 h2 h3=> ?_
 have nL:Lc≠I₀:=λq=>nX (q▸T.XL)
 have I':Inv W {s with heap:=h',toks:=tk}:=by
  refine⟨λb o e=>ext b o (λq=>by rw[q,hb]at e;exact am e) (T.R.inv.stays b o e),λq hq=> ?_,T.R.inv.gens⟩
  refine ay (T.R.inv.tabs q hq) λps k1 k2=> ?_
  have nP:q.2≠I₀:=λz=>nX (z▸T.R.xtabs q hq)
  have nc:q.1≠I₀:=λz=>by
   refine xA k2 λzn2 ø=> ?_
   refine iz zn2 λo vs x1 x2 ø=> ?_
   rw[z,eI]at x1;obtain rfl:=aq x1;rw[hc]at x2;exact absurd (rP.inj x2) (by decide)
  refine⟨ps,?_,k2.extBut ext nc nP⟩
  refine lH k1 λo vs file tf flags tg inF text tt op x1 r1 r2 r3 r4 r5 r6 x2 x3 r=> ?_
  exact⟨o,vs,file,tf,flags,tg,inF,text,tt,op,ext _ _ nc x1,r1,r2,r3,r4,r5,r6,ext _ _ nP x2,x3,r⟩
 have bx':dQ B h':=by obtain⟨vs,n,ns,e,r⟩:=T.bx;exact⟨vs,n,ns,ext _ _ (λq=>nX (q▸T.XB)) e,r⟩
 refine⟨⟨I',T.R.frames,T.R.guards,T.R.handled,λe he=> ?_,T.R.xtabs,T.R.xbase,λb hb' => ?_⟩,T.envk,T.hL,T.XL,T.XB,bx',T.os,T.kinds,(λb o k=> ?_),m,h1.at' λo e=>ext Lc o nL e,h2,λy p e=>let ⟨v,e1,e2⟩:=h3 y p e;⟨v,e1,L4 (fl y p e) e2⟩⟩
 ·refine g' (T.R.below e he) λk L m' e1 e2 e3 e4=> ?_
  exact⟨k,L,m',e1,e2,e3.at' λo e=>ext L o (λq=>nX (q▸e4)) e,e4⟩
 ·refine xE (T.R.xlt b hb') λo e=> ?_
  exact⟨o,ext b o (λq=>nX (q▸hb')) e⟩
 ·refine xA (hK b o k) λzq0 e=> ?_;subst zq0
  exact⟨nX,e⟩
theorem bF.forget{K':Addr->Obj->Prop}(T:bF K W X A l B Lc sc env os s ρ)(h:∀b o,K' b o->K b o):bF K' W X A l B Lc sc env os s ρ:=⟨T.R,T.envk,T.hL,T.XL,T.XB,T.bx,T.os,T.kinds,λb o k=>T.kp b o (h b o k),T.loc⟩
end
end
section
structure uE where
 t5:ai
 b5:List aC
 t6:ai
 b6:List aC
 ep:ai
 x1:ai
 x2:ai
 x3:ai
 e8:ai
 p:Nat->ax
noncomputable abbrev A8(P:uE):List aC:=
     [.Assign [.Name (aa "place") (P.p 39)] (.BinOp (eP (P.p 40) (P.p 41) (P.p 42)) .Mod P.ep (P.p 43)) (P.p 44),
   .Assign [.Name (aa "mark") (P.p 45)] (.BinOp (eP (P.p 46) (P.p 47) (P.p 48)) .Mod (.Constant (.int 16) 0 (P.p 49)) (P.p 50)) (P.p 51),
   .Assign [.Name (aa "text") (P.p 52)] (.IfExp P.x1 P.x2 P.x3 (P.p 53)) (P.p 54)]
noncomputable abbrev uF(P:uE):List aC:=
 [.Assign [.Name (aa "box") (P.p 0)] (.Call (.Name (aa "list") (P.p 1)) [.Subscript (.Name (aa "script") (P.p 2)) (.Slice none (some (.Constant (.int 22) 0 (P.p 3))) none (P.p 4)) (P.p 5)] [] (P.p 6)) (P.p 7),
   .Assign [.Name (aa "turns") (P.p 8)] (.BinOp (eP (P.p 9) (P.p 10) (P.p 11)) .Mod (.Constant (.int 3) 0 (P.p 12)) (P.p 13)) (P.p 14),
   .Assign [.Name (aa "text") (P.p 15)] (.Subscript (.Call (.Name (aa "_law_tree") (P.p 16)) [.Name (aa "box") (P.p 17), .Constant (.int 0) 0 (P.p 18)] [] (P.p 19)) (.Slice none (some (.Constant (.int 40) 0 (P.p 20))) none (P.p 21)) (P.p 22)) (P.p 23),
   .Assign [.Name (aa "other") (P.p 24)] (.Subscript (.Call (.Name (aa "_law_tree") (P.p 25)) [.Name (aa "box") (P.p 26), .Constant (.int 1) 0 (P.p 27)] [] (P.p 28)) (.Slice none (some (.Constant (.int 20) 0 (P.p 29))) none (P.p 30)) (P.p 31)) (P.p 32),
   .If P.t5 P.b5 [] (P.p 33), .If P.t6 P.b6 [] (P.p 34),
   .For (.Name (aa "k") (P.p 35)) (.Call (.Name (aa "range") (P.p 36)) [.Name (aa "turns") (P.p 37)] [] (P.p 38))
     (A8 P) [] (P.p 55),
   .Return (some P.e8) (P.p 56)]
noncomputable def dI(x:List Nat)(L:Nat):Prop:=x.length<=L/\ ∀c∈x,c<1114112
noncomputable def sT:Str:=aa "text"
noncomputable def sO:Str:=aa "other"
noncomputable def kY:Str:=aa "turns"
noncomputable def nT:Str:=aa "place"
noncomputable def A9:Str:=aa "mark"
noncomputable def cf:uE:=⟨AR (l6 4),AS (l6 4),AR (l6 5),AS (l6 5),Lz (qh (qi 0)),LA (qh (qi 2)),LB (qh (qi 2)),LC (qh (qi 2)),LD (l6 7),Lx⟩
structure mc(sc:Scope)(E₀:Ev):Prop where
 t5:∀x,dI x 40->E₀.tst sc cf.t5 [(sT, .str x)]= .ok false
 t6:∀x y,dI x 40->dI y 20->E₀.tst sc cf.t6 [(sT, .str x),(sO, .str y)]= .ok false
 ep:∀x,dI x 60->E₀.ev sc cf.ep [(sT, .str x)]= .ok (.int ((x.length:Int)+1))
 c16:∀ρ,E₀.ev sc (.Constant (.int 16) 0 (cf.p 49)) ρ= .ok (.int 16)
 c3:∀ρ,E₀.ev sc (.Constant (.int 3) 0 (cf.p 12)) ρ= .ok (.int 3)
 ifx:∀x (i m:Int) L,dI x L->L<=56->0<=i->i<(x.length:Int)+1->0<=m->m<16->∃z,E₀.ev sc (.IfExp cf.x1 cf.x2 cf.x3 (cf.p 53)) [(sT, .str x),(nT, .int i),(A9, .int m)]= .ok (.str z)/\ dI z (L+4)
 e8:∀(t:Int) x,dI x 60->E₀.ev sc cf.e8 [(kY, .int t),(sT, .str x)]= .ok (.bool true)
structure qm(W:Wd)(fa:Addr)(fd:dA):Prop where
 D:bw false W fa fd (uF cf) [aa "script"]
 nbox:fd.scope.names.lookup (aa "box")=some .local
 nturns:fd.scope.names.lookup kY=some .local
 ntext:fd.scope.names.lookup sT=some .local
 nother:fd.scope.names.lookup sO=some .local
 nk:fd.scope.names.lookup (aa "k")=some .local
 nplace:fd.scope.names.lookup nT=some .local
 nmark:fd.scope.names.lookup A9=some .local
 nlist:fd.scope.names.lookup (aa "list")=some .globalImplicit
 ntake:fd.scope.names.lookup (aa "_law_take")=some .globalImplicit
 ntree:fd.scope.names.lookup (aa "_law_tree")=some .globalImplicit
 nrange:fd.scope.names.lookup (aa "range")=some .globalImplicit
section
variable{K:Addr->Obj->Prop}{W:Wd}{X:Addr->Prop}{A:aA}{l:List av}{B Lc:Addr}{sc:Scope}{env:av}{os:iv}{s s':ah}{ρ:ak}{N M L:Nat}{E₀:Ev}{fT fA:Addr}{d:Int}
theorem Ba(O:aZ W)(hT:gf W B fA N M d)(hmg:W.mg (aa "_law_tree")=some (.ref fA)) (hcal:ce W (.ref fA)) (hb:sc.names.lookup (aa "box")=some .local) (hk:sc.names.lookup (aa "_law_tree")=some .globalImplicit) (T:bF K W X A l B Lc sc env os s ρ) (hd:A.depth+N<=900) (hu:A.units+10*N<=9000) (hM:M<=1000) {c:Int} (hc:0<=c/\ c<=1000)
  {p1 p2 p3 p4 p5 p6 p7:ax} {Q E:ae->ah->Prop} (h:∀v z s',dI z c.toNat->bF K W X A l B Lc sc env os s' ρ->Rep W X s'.heap v (.str z)->Q v s'):
  wpAny W.M A (eval (.Subscript (.Call (.Name (aa "_law_tree") p1) [.Name (aa "box") p2, .Constant (.int d) 0 p3] [] p4) (.Slice none (some (.Constant (.int c) 0 p5)) none p6) p7) env) Q E s:=by
 have ht:=gt
 refine oV (gF rfl ?_)
 rw[dY p4 (show bv [jx (aa "box") p2, .Constant (.int d) 0 p3]=true from rfl)]
 refine jR O T.R.inv T.envk.scope (T.envk.names _ _ hk (by decide) (by decide)) T.envk.globals (by decide+kernel) hmg ?_
 refine hcal A E s p4 [] _ _ rfl (Calls.evalArgs_plain (Calls.spliced_cons (A6 T hb (Calls.spliced_cons (d8 (Calls.spliced_nil ⟨(T.after (After.tok (tk:=s.toks+1) T.R.inv)).R.inv,?_⟩))))))
 have T1:=T.after (After.tok (tk:=s.toks+1) T.R.inv)
 refine hT A l _ X _ T1.R T1.XB T1.bx hd hu _ _ λx t s₂ x₂ hx=> ?_
 have T2:=T1.step x₂
 refine wpAny_Slice (bk (d8 (k:=0) (pos:=p5) (bk (a:=kl) ?_)))
 have T3:=T2.after (After.tok (tk:=s₂.toks+1) T2.R.inv)
 have a₄:After W X {s₂ with toks:=s₂.toks+1} {s₂ with heap:=s₂.heap.push {cls:= .type "slice",data:= .fields #[.none, .int c s₂.toks, .none]},toks:=s₂.toks+1}:=After.push T3.R.inv _
 have T4:=T3.after a₄
 have hz:gJ (.str (ao x)) .none (.int c)=some (.str ((ao x).take c.toNat)):=by
  show((gr .none).bind λl=>(gr (.int c)).bind λu=>if(ao x).length<=aX then some (PV.str (fY (ao x) l u))else none)=_
  have:gr (.int c)=some (some c.toNat):=by show(if 0<=c/\ c<=aX then some (some c.toNat)else none)=_;rw[if_pos ⟨hc.1,jr hc.2 (by decide+kernel)⟩]
  rw[this]
  show(if(ao x).length<=aX then some (PV.str (fY (ao x) none (some c.toNat)))else none)=_
  rw[if_pos (by have:=hx.1;exact bX ‹_› ‹_› (by rfl))];rfl
 refine yg (ops:=[.ref s₂.heap.objs.size, .str x t]) T4.R.inv T4.R.xlt hz (.str x t) .none (.int c _) (et _ rfl) rfl λv s₅ a₅ r₅=> ?_
 refine h v _ s₅ ⟨?_,λk hk=>hx.2 k (wC hk)⟩ (T4.after a₅) r₅
 rw[jw];exact rB ..
end
end
section
theorem me{ρ:ak}:∀z p,([]:ak).lookup z=some p->ρ.lookup z=some p:=λz p e=>nomatch e
theorem ji{ρ r:ak}{a:Str}{v:PV}(h:ρ.lookup a=some v)(hr:∀z p,r.lookup z=some p->ρ.lookup z=some p):∀z p,((a,v)::r:ak).lookup z=some p->ρ.lookup z=some p:=λz p e=>by
 rw[ch]at e
 cases q:z==a with
 |true=>rw[q]at e;obtain rfl:=aq e;rw[cN q];exact h
 |false=>rw[q]at e;exact hr z p e
theorem mh{ρ:ak}{x:Str}{v:PV}:(aQ x v ρ).lookup x=some v:=by rw[gd,if_pos rfl]
theorem ic{ρ:ak}{x y:Str}{v:PV}{w:PV}(h:y≠x)(e:ρ.lookup y=some w):(aQ x v ρ).lookup y=some w:=by rw[gd,if_neg h];exact e
theorem fH.set{ρ:ak}{x:Str}{v:PV}(h:fH ρ)(hv:(∃y,v= .str y) \/∃i,v= .int i):fH (aQ x v ρ):=λy p e=>by
 rw[gd]at e
 by_cases q:y=x
 ·rw[if_pos q]at e;obtain rfl:=aq e;exact hv
 ·rw[if_neg q]at e;exact h y p e
theorem dI.mono{x:List Nat}{L L':Nat}(h:dI x L)(hL:L<=L'):dI x L':=⟨aj h.1 hL,h.2⟩
section
variable{K:Addr->Obj->Prop}{W:Wd}{X:Addr->Prop}{A:aA}{l:List av}{B Lc:Addr}{sc:Scope}{env:av}{os:iv}{s s':ah}{ρ ρ':ak}{N:Nat}{E₀:Ev}{fT fa:Addr}
noncomputable abbrev Sub(ρ' ρ:ak):Prop:=∀z p,ρ'.lookup z=some p->ρ.lookup z=some p
theorem uG(hE:aN false W N E₀)(T:bF K W X A l B Lc sc env os s ρ)(hs:Sub ρ' ρ){e:ai}{p:PV}(he:E₀.ev sc e ρ' = .ok p)(hd:A.depth+N<=900)(hu:A.units+10*N<=9000){Q E:ae->ah->Prop}(h:∀v s',bF K W X A l B Lc sc env os s' ρ->Rep W X s'.heap v p->Q v s'):wpAny W.M A (eval e env) Q E s:=by
 refine hE.1 sc e X A l s env ρ' (T.sub hs).here (by rw[he];exact λq=>nomatch q) hd hu Q E ⟨λv q s' e1 a r=> ?_,λe' c s' e1 ø=>by rw[he]at e1;cases e1⟩
 rw[he]at e1;obtain rfl:=dk e1
 exact h v s' (T.after a) r
theorem Bb(hE:aN false W N E₀)(T:bF K W X A l B Lc sc env os s ρ)(hs:Sub ρ' ρ){e:ai}{b:Bool}(he:E₀.tst sc e ρ' = .ok b)(hd:A.depth+N<=900)(hu:A.units+10*N<=9000){Q:Bool->ah->Prop}{E:ae->ah->Prop}(h:∀s',bF K W X A l B Lc sc env os s' ρ->Q b s'):wpAny W.M A (isTrue e env (eval e env)) Q E s:=by
 refine hE.2 sc e X A l s env ρ' (T.sub hs).here (by rw[he];exact λq=>nomatch q) hd hu Q E ⟨λv q s' e1 a r=> ?_,λe' c s' e1 ø=>by rw[he]at e1;cases e1⟩
 rw[he]at e1;obtain rfl:=dk e1;subst r
 exact h s' (T.after a)
theorem Bc(O:aZ W)(hE:aN false W N E₀)(hT:gx W B fT)(hmg:W.mg (aa "_law_take")=some (.ref fT)) (hcal:ce W (.ref fT)) (hb:sc.names.lookup (aa "box")=some .local) (hk:sc.names.lookup (aa "_law_take")=some .globalImplicit) (T:bF K W X A l B Lc sc env os s ρ) (hs:Sub ρ' ρ) (hd:A.depth+N<=900) (hu:A.units+10*N<=9000) (hN:1<=N)
  {p q r v:ax} {e:ai} {k:Int} (he:E₀.ev sc e ρ' = .ok (.int k)) (hk0:0<k/\ k<=1000) {Q E:ae->ah->Prop} (h:∀i t s',0<=i->i<k->bF K W X A l B Lc sc env os s' ρ->Q (.int i t) s'):wpAny W.M A (eval (.BinOp (eP p q r) .Mod e v) env) Q E s:=by
 refine fU (A7 O hT hmg hcal hb hk T (aj (bf _ _) ‹_›) (jB ‹_› ‹_› (by rfl)) λi t s₁ T1=> ?_)
 refine uG hE T1 hs he hd hu λw s₂ T2 r₂=> ?_
 refine r₂.intE λø zq=> ?_;subst zq
 have hz:bJ .Mod (.int i) (.int k)=some (.int (i%k)):=by
  show(if 0<k/\ k<=1000 then some (PV.int (i%k))else none)=_
  exact if_pos hk0
 refine jL (W:=W) (X:=X) (op:= .Mod) T2.R.inv T2.R.xlt hz (.int i t) (.int k _) λw s₃ a₃ r₃=> ?_
 refine r₃.intE λø zq=> ?_;subst zq
 exact h _ _ _ (DJ _ (vW hk0.1)) (wA _ hk0.1) (T2.after a₃)
end
section
variable{W:Wd}{X:Addr->Prop}{A:aA}{l:List av}{N:Nat}{E₀:Ev}{fT fA fa:Addr}{fd:dA}
structure qo(W:Wd)(fT fA:Addr)(N:Nat):Prop where
 O:aZ W
 take:∀B,l7 W B->gx W B fT
 tree:∀B,l7 W B->gf W B fA N 137 0/\ gf W B fA N 44 1
 mgT:W.mg (aa "_law_take")=some (.ref fT)
 calT:ce W (.ref fT)
 mgA:W.mg (aa "_law_tree")=some (.ref fA)
 calA:ce W (.ref fA)
 N1:1<=N
theorem L5{K:Addr->Obj->Prop}{B Lc:Addr}{env:av}{os:iv}{s:ah}{ρ2:ak}{z:List Nat}{tn:Int}{L:Nat}(F:qm W fa fd)(Z:qo W fT fA N)(hE:aN false W N E₀)(LE:mc fd.scope E₀)(tk:gx W B fT)(U2:bF K W X A l B Lc fd.scope env os s ρ2)(hd:A.depth+N<=900)(hu:A.units+10*N<=9000)
  (pTu:ρ2.lookup kY=some (.int tn)) (pT:ρ2.lookup sT=some (.str z)) (hz:dI z L) (hL:L<=56) (fl2:fH ρ2) {Q:cO->ah->Prop} {E:ae->ah->Prop}
  (h:∀s' ρ' z',bF K W X A l B Lc fd.scope env os s' ρ'->ρ'.lookup kY=some (.int tn)->ρ'.lookup sT=some (.str z')->dI z' (L+4)->fH ρ'->Q .next s'):wpAny W.M A (execs (A8 cf) env) Q E s:=by
 have hz60:dI z 60:=hz.mono (aL ‹_› (by rfl))
 refine bW (ix (hs:=rfl) (Bc Z.O hE tk Z.mgT Z.calT F.nbox F.ntake U2 (ji pT me) hd hu Z.N1 (LE.ep z hz60) ⟨PI (kh _),kg.mpr (aj (er hz60.1) (bz rfl))⟩ λip tp s₃ hp0 hp1 U3=> ?_))
 refine kX U3 F.nplace (by decide+kernel) (.int ip tp) λs₄ U4=> ?_
 have fl4:=fH.set (x:=nT) (v:= .int ip) fl2 (.inr ⟨_,rfl⟩)
 have pTu4:=ic (x:=nT) (v:= .int ip) (by decide+kernel) pTu
 have pT4:=ic (x:=nT) (v:= .int ip) (by decide+kernel) pT
 refine bW (ix (hs:=rfl) (Bc Z.O hE tk Z.mgT Z.calT F.nbox F.ntake U4 me hd hu Z.N1 (LE.c16 []) (by decide) λim tm s₅ hm0 hm1 U5=> ?_))
 refine kX U5 F.nmark (by decide+kernel) (.int im tm) λs₆ U6=> ?_
 refine ay (LE.ifx z ip im L hz hL hp0 hp1 hm0 hm1) λz' ez hz' => ?_
 refine bW (ix (hs:=rfl) (uG hE U6 (ji (ic (by decide+kernel) pT4) (ji (ic (by decide+kernel) mh) (ji mh me))) ez hd hu λvz s₇ U7 rz=> ?_))
 refine kX U7 F.ntext (by decide+kernel) rz λs₈ U8=> ?_
 exact dW (h s₈ _ z' U8 (ic (by decide+kernel) (ic (by decide+kernel) pTu4)) mh hz' (fH.set (fH.set fl4 (.inr ⟨_,rfl⟩)) (.inl ⟨_,rfl⟩)))
inductive Bd(W:Wd)(X:Addr->Prop)(A:aA)(l:List av)(B Lc:Addr)(sc:Scope)(env:av)(os:iv)(I₀:Addr)(tn:Int)(k:Nat)(s':ah):Prop
 |mk (j:Nat) (ρ':ak) (z:List Nat):k=tn.toNat+1-j->j<=tn.toNat->bF (λø ø=>False) W X A l B Lc sc env os s' ρ'->oZ s'.heap I₀ (0+(j:Int)*1) ((tn.toNat:Int)-(j:Int)) 1->ρ'.lookup kY=some (.int tn)->ρ'.lookup sT=some (.str z)->dI z (40+4*j)->fH ρ'->Bd W X A l B Lc sc env os I₀ tn k s'
set_option tactic.hygienic true in
theorem L6{B Lc:Addr}{env:av}{os:iv}{s:ah}(F:qm W fa fd)(Z:qo W fT fA N)(hE:aN false W N E₀)(LE:mc fd.scope E₀)(hB:l7 W B)(T:bF (λø ø=>False) W X A l B Lc fd.scope env os s [])(hh:A.handled=none)(hd:A.depth+N<=900)(hu:A.units+10*N<=9000)
  {Q:cO->ah->Prop} {E:ae->ah->Prop} (h:∀s',Inv W s'->s'.os=os->Q (.ret (.bool true)) s'):wpAny W.M A (execs (uF cf).tail env) Q E s:=by
 have O:=Z.O
 refine xA (Z.tree B hB) λtr0 tr1=> ?_
 have tk:=Z.take B hB
 have kE:∀x k,fd.scope.names.lookup x=some k->k≠ .cell->k≠ .free->env.kindOf x=some k:=T.envk.names
 refine bW (ix (hs:=rfl) (L3 O hE tk Z.mgT Z.calT F.nbox F.ntake T hd hu Z.N1 (LE.c3 _) (by decide) λtn tt s₁ ht0 ht1 T1=> ?_))
 refine kX T1 F.nturns (by decide+kernel) (.int tn tt) λs₂ T2=> ?_
 refine bW (ix (hs:=rfl) (Ba O tr0 Z.mgA Z.calA F.nbox F.ntree T2 hd hu (by decide) (by decide) λvx x s₃ hx T3 rx=> ?_))
 refine kX T3 F.ntext (by decide+kernel) rx λs₄ T4=> ?_
 refine bW (ix (hs:=rfl) (Ba O tr1 Z.mgA Z.calA F.nbox F.ntree T4 hd hu (by decide) (by decide) λvy y s₅ hy T5 ry=> ?_))
 refine kX T5 F.nother (by decide+kernel) ry λs₆ T6=> ?_
 obtain⟨ρ,hρ,rTu,rT,rO,fl⟩:∃ρ:ak,ρ=aQ sO (.str y) (aQ sT (.str x) (aQ kY (.int tn) []))/\ ρ.lookup kY=some (.int tn)/\ ρ.lookup sT=some (.str x)/\ ρ.lookup sO=some (.str y)/\ fH ρ:=
  ⟨_,rfl,ic (by decide+kernel) (ic (by decide+kernel) mh),ic (by decide+kernel) mh,mh,
   fH.set (fH.set (fH.set (λz p e=>nomatch e) (.inr ⟨_,rfl⟩)) (.inl ⟨_,rfl⟩)) (.inl ⟨_,rfl⟩)⟩
 have T6:bF (λø ø=>False) W X A l B Lc fd.scope env os s₆ ρ:=hρ▸T6
 clear hρ
 refine bW (jA (Bb hE T6 (ji rT me) (LE.t5 x hx) hd hu λs₇ T₇=> ?_))
 rw[if_neg (by decide)]
 refine dW (bW (jA (Bb hE T₇ (ji rT (ji rO me)) (LE.t6 x y hx hy) hd hu λs₈ T8=> ?_)))
 rw[if_neg (by decide)]
 refine dW (bW (zc (hs:=by intro ø;rfl) ?_))
 refine gF rfl ?_
 rw[dY (cf.p 38) (show bv [jx (aa "turns") (cf.p 37)]=true from rfl)]
 refine kT O T8.R.inv T8.envk.scope (T8.envk.names _ _ F.nrange (by decide) (by decide)) T8.envk.globals T8.envk.builtins (by decide+kernel) (O.nogl _ (by simp[blt])) ((O.mbv _ (by decide+kernel)).trans (by kernel_rfl:bootBuiltins "range" =some (.type "range"))) ?_
 refine bA T8.loc λm hm ø hv=> ?_
 refine ay (hv _ _ rTu) λvt e1 e2=> ?_
 cases e2
 rename_i tt'
 refine gu (W:=W) "range" A E s₈ (cf.p 38) [] _ _ rfl (Calls.evalArgs_plain (Calls.spliced_cons (dT (dM T8.envk.scope (T8.envk.names _ _ F.nturns (by decide) (by decide)) (T8.hL▸hm) e1 (Calls.spliced_nil ⟨T8.R.inv,call_range_1 ?_⟩)) (by decide+kernel))))
 have a₉:After W X s₈ {s₈ with heap:=s₈.heap.push {cls:= .type "range",data:= .fields #[.int 0 s₈.toks, .int tn tt', .int 1 (s₈.toks+1)]},toks:=s₈.toks+1+1}:=After.push T8.R.inv _
 have T9:=T8.after a₉
 obtain⟨s₉,hs9⟩:∃s₉,s₉=({s₈ with heap:=s₈.heap.push {cls:= .type "range",data:= .fields #[.int 0 s₈.toks, .int tn tt', .int 1 (s₈.toks+1)]},toks:=s₈.toks+1+1}:ah):=⟨_,rfl⟩
 have hr9:IsRange s₉.heap s₈.heap.objs.size 0 tn 1 s₈.toks tt' (s₈.toks+1):=by rw[hs9];exact IsRange.new _ _ _ _ _ _ _
 rw[<-hs9]at T9 ⊢
 clear hs9 a₉
 refine wpAny_pyIter_range hr9 (AZ _ (o8 ‹_› (by rfl)) (D7 ‹_› (by rfl))) ?_
 rw[rangeSize_one]
 have hsz:(if(0:Int)<tn then tn-0 else 0)=tn:=by by_cases q:(0:Int)<tn<;>simp[q]<;>exact Eh ‹_› ‹_›
 rw[hsz]
 obtain⟨I₀,hI0⟩:∃I₀,s₉.heap.objs.size=I₀:=⟨_,rfl⟩
 rw[hI0]
 have nI:s₉.heap.get? I₀=none:=dU (by rw[hI0];exact bP _)
 have xI:¬X I₀:=λhx=>by obtain⟨o,e⟩:=T9.R.xlt _ hx;rw[nI]at e;exact am e
 have bI:W.base.get? I₀=none:=by
  cases q:W.base.get? I₀ with
  |none=>rfl
  |some o=>have:=T9.R.inv.stays _ _ q;rw[nI]at this;exact am this
 have a10:After W X s₉ {s₉ with heap:=s₉.heap.push {cls:= .type "range_iterator",data:= .fields #[rawInt 0,rawInt tn,rawInt 1]}}:=After.push (tk:=s₉.toks) T9.R.inv _
 have hit10:oZ (s₉.heap.push {cls:= .type "range_iterator",data:= .fields #[rawInt 0,rawInt tn,rawInt 1]}) I₀ (0+((0:Nat):Int)*1) (((tn.toNat:Nat):Int)-((0:Nat):Int)) 1:=by
  have e1:((tn.toNat:Nat):Int)-((0:Nat):Int)=tn:=(vS _).trans (rE ht0)
  rw[e1,<-hI0]
  exact et _ rfl
 have Wk:=Walks.range (prog:=iu) (w:=W.w) hh I₀ 0 1 tn.toNat
 refine⟨Bd W X A l B Lc fd.scope env os I₀ tn,⟨_,⟨0,ρ,x,rfl,dR _,(T9.after a10),hit10,rTu,rT,hx,fl⟩⟩,?_⟩
 intro k s' zn1 E1
 obtain⟨j,ρ',z,rfl,hj,T,hit,qTu,qT,hz,fl'⟩:=zn1
 by_cases hlt:j<tn.toNat
 ·refine Wk.item j s' _ _ hlt hit λv h₁ tk1 hP hit1 k₁=> ?_
  refine xE hP λtj zq1=> ?_;subst zq1
  have ext1:eW I₀ s'.heap h₁:=gI k₁
  have U1:=T.chg (tk:=tk1) (K':=λb o=>b=I₀/\ h₁.get? I₀=some o) fl' bI xI hit rfl ext1 λb o h=>⟨h.1,by rw[h.1];exact h.2⟩
  refine ko (kX U1 F.nk (by decide+kernel) (.int _ tj) λs₂ U2=> ?_)
  refine L5 F Z hE LE tk U2 hd hu (ic (by decide+kernel) qTu) (ic (by decide+kernel) qT) hz (mV (k:=40) (lr 4 (dz (di hlt (DL.mpr (rn ht1))))) (by rfl)) (fH.set fl' (.inr ⟨_,rfl⟩)) λs₈ ρ8 z' U8 q1 q2 q3 q4=> ?_
  exact⟨tn.toNat+1-(j+1),uk hlt,j+1,ρ8,z',rfl,hlt,U8.forget λb o q=>q.elim,(U8.kp _ _ ⟨rfl,hit1⟩).2,q1,q2,q3,q4⟩
 ·have:j=tn.toNat:=mX ‹_› ‹_›
  subst this
  refine Wk.done s' _ _ hit λh₁ tk1 k₁=> ?_
  have ext1:eW I₀ s'.heap h₁:=gI k₁
  refine dW (bW (iy (uG hE (T.chg (tk:=tk1) (K':=λø ø=>False) fl' bI xI hit rfl ext1 λb o h=>h.elim) (ji qTu (ji qT me)) (LE.e8 tn z (hz.mono (mV (k:=40) (lr 4 (DL.mpr (rn ht1))) (by rfl)))) hd hu λv s₂ U2 rv=> ?_)))
  obtain rfl:=rv.boolI
  exact h _ U2.R.inv U2.os
end
end
section
section
variable{W:Wd}{X:Addr->Prop}{A:aA}{l:List av}{N:Nat}{E₀:Ev}{fT fA fa:Addr}{fd:dA}
theorem L7(F:qm W fa fd)(Z:qo W fT fA N)(hE:aN false W N E₀)(LE:mc fd.scope E₀){s:ah}(R:Ready W X A l s){sa:Addr}{vs:List ae}{ns:List Int}(hl:s.heap.IsList sa vs.toArray)(hi:lE vs ns)(hlen:vs.length<=64)(hd:A.depth+N+1<=900)(hu:A.units+10*N+3<=9000)
  {Q E:ae->ah->Prop} (h:∀s',Inv W s'->s'.os=s.os->Q (.bool true) s'):wpAny W.M A (call (.ref fa) [.ref sa]) Q E s:=by
 have O:=Z.O
 have D:=F.D
 have hsl:sizeLine=16777216:=mM
 have hrl:(900:Nat)<recursionLimit:=by decide+kernel
 have I:=R.inv
 refine ay D.at_ λo ho hod=> ?_
 obtain⟨hh,g,dr,tk,os⟩:=s
 have nC:hh.get? hh.objs.size=none:=dU (bP _)
 refine jz (rS (binds:=[(aa "script", .ref sa)]) (bU (show A.depth<=900 by exact D3 ‹_› (by rfl)) hrl) (I.stays _ _ ho) hod (I.nolimit O) (D.rec_.keeps I.stays) D.body (D.bind _ [.ref sa] I.stays rfl).of D.nocell (λx hx=>by rw[dw]at hx;subst hx;exact D.local_ _ (by simp)) (λh₀ hns keep=> ?_) D.co D.gen D.kind)
 have F0:Fr hh hh.objs.size h₀ (λz=>([(aa "script",rR sa)]:List (Str×ae)).reverse.lookup z):=⟨hns,keep,bP _⟩
 have nXs:∀b,hh.objs.size<=b->¬X b:=λb hb hx=>by
  refine xE (R.xlt b hx) λo e=> ?_
  have:hh.get? b=some o:=e
  rw[dU hb]at this;exact am this
 have bC:∀b,hh.objs.size<=b->W.base.get? b=none:=λb hb=>by
  cases q:W.base.get? b with
  |none=>rfl
  |some o=>have:=I.stays _ _ q;rw[show(ah.heap ⟨hh,g,dr,tk,os⟩)=hh from rfl,dU hb]at this;exact am this
 have I₁:∀{h':Heap} {tk':Nat},(∀b o,hh.get? b=some o->h'.get? b=some o)->Inv W ⟨h',g,dr,tk',os⟩:=λ{h' tk'} k=>(After.of_keeps (X:=X) (s:=⟨hh,g,dr,tk,os⟩) (h':=h') (tk:=tk') I k).inv
 have hscr:(callEnv fd hh.objs.size fa).kindOf (aa "script")=some .local:=D.local_ _ (by simp)
 refine bW (ix (hs:=rfl) (gF rfl ?_))
 rw[dY (cf.p 6) (show bv [ai.Subscript (.Name (aa "script") (cf.p 2)) (.Slice none (some (.Constant (.int 22) 0 (cf.p 3))) none (cf.p 4)) (cf.p 5)]=true from rfl)]
 refine kT O (I₁ keep) D.kind F.nlist D.globals D.builtins (by decide+kernel) (O.nogl _ (by simp[blt])) ((O.mbv _ (by decide+kernel)).trans (by kernel_rfl:bootBuiltins "list" =some (.type "list"))) ?_
 refine gu (W:=W) "list" (A.deeper (callEnv fd hh.objs.size fa)) _ _ (cf.p 6) [] _ _ rfl (Calls.evalArgs_plain (Calls.spliced_cons (oV (dT (dM D.kind hscr hns rfl ?_) (by decide+kernel)))))
 refine wpAny_Slice (bk (d8 (k:=0) (pos:=cf.p 3) (bk (a:=kl) ?_)))
 have hl0:h₀.IsList sa vs.toArray:=by obtain⟨o1,e1,r1⟩:=hl;exact⟨o1,keep _ _ e1,r1⟩
 have N0:eL hh hh.objs.size h₀ []:=λp hp=>nomatch hp
 refine slice_list (h₀:=hh) (L:=hh.objs.size) (lo:=none) (hi:=some 22) F0 N0 hl0 .none (.int 22 _) ?_ (hsz:=by rw[oS,hsl];exact aL ‹_› (by rfl))
 intro h1 F1 N1
 dsimp only
 obtain⟨ws,hws⟩:∃ws,ws=(slicePick vs.toArray none (some 22) none).toList:=⟨_,rfl⟩
 have wi:lE ws (ns.take 22):=hws▸slice_ints_uptoW hi (by decide)
 have wl:ws.length<=64:=by
  rw[hws,oO]
  exact aj (slicePick_size_le _ _ _ _) (by rw[oS];exact hlen)
 have wa:slicePick vs.toArray none (some 22) none=ws.toArray:=by rw[hws]
 rw[wa]at N1
 have hl1:h1.IsList (h₀.objs.size+1) ws.toArray:=⟨_,(N1 _ (.head _)).1,rfl,0,rfl⟩
 refine Calls.spliced_nil ⟨I₁ F1.keep,list_copyK (h₀:=hh) (L:=hh.objs.size) F1 N1 hl1 (λB c h2 F2 N2 hlt=> ?_) (by rw[oS,hsl];exact aL ‹_› (by rfl))⟩
 have hC2:∃m,h2.Ns hh.objs.size m:=⟨_,F2.ns⟩
 refine lC (s:=⟨h2,g,dr,_,os⟩) (show(callEnv fd hh.objs.size fa).kindOf (aa "box")=some .local from F.nbox) F2.ns (λh3 hn3 hs3=> ?_) (by show(fd.scope.kind== .class||(fd.scope.kind== .module&&_))=false;rw[D.kind];rfl)
 have F3:=F2.set hn3 hs3
 have N3:=N2.set hs3
 have bx:dQ B h3:=⟨ws,c,_,(N3 _ (.head _)).1,wi,wl⟩
 have nB:hh.get? B=none:=(N3 _ (.head _)).2.2
 have neB:B≠hh.objs.size:=(N3 _ (.head _)).2.1
 have xB:¬X B:=λhx=>by
  refine xE (R.xlt B hx) λo e=> ?_
  have:hh.get? B=some o:=e
  rw[nB]at this;exact am this
 have bB:W.base.get? B=none:=by
  cases q:W.base.get? B with
  |none=>rfl
  |some o=>have:hh.get? B=some o:=I.stays _ _ q;rw[nB]at this;exact am this
 have hB:l7 W B:=⟨bB,λq hq z=>xB (z▸R.xtabs q hq)⟩
 refine L6 (A:=A.deeper (callEnv fd hh.objs.size fa)) (X:=λb=>X b \/b=hh.objs.size \/b=B) (l:=callEnv fd hh.objs.size fa::l) (B:=B) (Lc:=hh.objs.size) F Z hE LE hB (os:=os) ?tt R.handled ?hd ?hu ?qq
 case hd=>show A.depth+1+N<=900;exact sw ‹_›
 case hu=>show A.units+3+10*N<=9000;exact sw ‹_›
 case qq=>exact λs' I' ho' =>h s' I' ho'
 refine⟨⟨I₁ F3.keep,?_,R.guards,R.handled,?_,λq hq=> .inl (R.xtabs q hq),?_,?_⟩,⟨D.code,D.kind,λx k e ø ø=>e,D.globals,D.builtins,D.nocell⟩,rfl, .inr (.inl rfl), .inr (.inr rfl),bx,rfl,(λx p e=>nomatch e),λb o k=>k.elim,_,F3.ns,if_pos rfl,λx p e=>nomatch e⟩
 ·show A.frames.map _=_
  rw[R.frames];rfl
 ·intro e he
  rcases bS.mp he with q|q
  ·subst q
   exact⟨by show fd.scope.kind≠_;rw[D.kind];decide,hh.objs.size,_,rfl,bC _ (bP _),F3.ns, .inr (.inl rfl)⟩
  ·refine g' (R.below e q) λk L0 m f1 f2 f3 f4=> ?_
   exact⟨k,L0,m,f1,f2,f3.keeps F3.keep, .inl f4⟩
 ·intro b o' e q
  rcases q with q|q|q
  ·exact R.xbase b o' e q
  ·rw[q,bC _ (bP _)]at e;exact am e
  ·rw[q,bB]at e;exact am e
 ·intro b hb
  rcases hb with q|q|q
  ·refine xE (R.xlt b q) λo' e=> ?_
   exact⟨o',F3.keep _ _ e⟩
  ·subst q
   refine dj F3.ns λo' ø ø e ø=> ?_
   exact⟨o',e⟩
  ·subst q;exact⟨_,(N3 _ (.head _)).1⟩
end
end
section
theorem L8:aT (ag 19)=AT:=by kernel_rfl
theorem L9:aT (ag 20)=uA:=by kernel_rfl
theorem Ma:aT (ag 29)=uF cf:=by kernel_rfl
theorem uH(P:al):fnIn (HK P) 301=true/\ (az (HK P) 301).body= .stmts (aT (ag 20))/\ codeIn (HK P) (az (HK P) 301).code (az (HK P) 301).qualname=true/\ (az (HK P) 301).scope=ck (ag 20):=⟨by kernel_rfl,by kernel_rfl,by kernel_rfl,by kernel_rfl⟩
theorem Be(P:al):aU (HK P) 352 (ag 29) (au (ag 29)):=
 ⟨by kernel_rfl,by kernel_rfl,by kernel_rfl,by kernel_rfl,by kernel_rfl,by kernel_rfl,by kernel_rfl,by kernel_rfl,by kernel_rfl,by decide+kernel,by kernel_rfl,by kernel_rfl⟩
theorem Mb{W:Wd}{P:al}(X:(HK P).In W.base):ql W 301 (az (HK P) 301) where
 at_:=un X (uH P).1
 body:=(uH P).2.1.trans (congrArg FuncBody.stmts L9)
 globals:=by kernel_rfl
 builtins:=by kernel_rfl
 rec_:=codeRec_of X (uH P).2.2.1
 kind:=by kernel_rfl
 co:=by kernel_rfl
 gen:=by kernel_rfl
 clo:=by kernel_rfl
 bind:=λa b=>by kernel_rfl
 cells:=λn=>by kernel_rfl
 nbox:=by kernel_rfl
 ndep:=by kernel_rfl
 nkind:=by kernel_rfl
 ntake:=by kernel_rfl
 ntree:=by kernel_rfl
 nnames:=by kernel_rfl
 nsubs:=by kernel_rfl
 nstr:=by kernel_rfl
 nrange:=by kernel_rfl
 comp:=by kernel_rfl
 ckind:=by kernel_rfl
end
section
theorem Mc(P:al)(a:ae):bindArgs (az (HK P) 352) ⟨[a],[]⟩=pure ((au (ag 29)).zip [a]):=by kernel_rfl
theorem Md:au (ag 29)=[aa "script"]:=by kernel_rfl
theorem Me:au (ag 19)=[aa "box"]:=by kernel_rfl
theorem Mf{W:Wd}{P:al}(X:(HK P).In W.base)(hT:W.tabs=bd):bw false W 352 (az (HK P) 352) (aT (ag 29)) (au (ag 29)):=
 aU.ok (Be P) X (cv) (λs vs ø hl=>by
  refine xE (dH (hl.trans (show(au (ag 29)).length=1 by kernel_rfl))) λa zq1=> ?_;subst zq1
  exact Binds.mk_eq (Mc P a))
theorem Mg{W:Wd}{P:al}(X:(HK P).In W.base)(hT:W.tabs=bd):qm W 352 (az (HK P) 352) where
 D:=by have:=Mf X hT;rw[Ma,Md]at this;exact this
 nbox:=by kernel_rfl
 nturns:=by kernel_rfl
 ntext:=by kernel_rfl
 nother:=by kernel_rfl
 nk:=by kernel_rfl
 nplace:=by kernel_rfl
 nmark:=by kernel_rfl
 nlist:=by kernel_rfl
 ntake:=by kernel_rfl
 ntree:=by kernel_rfl
 nrange:=by kernel_rfl
section
variable{w:fk}{h:Heap}{mg mb:Str->Option ae}
theorem Bf(Z:bb w h mg mb){B:Addr}(hB:l7 (wd w h mg mb) B):gx (wd w h mg mb) B 296:=by
 have D:=ur (W:=wd w h mg mb) (P:=w.params) Z.O.kin rfl
 rw[L8,Me]at D
 exact λA X s I g d u bx Q E hq=>LH Z.O D (by kernel_rfl) hB.base hB.tabs I g d u bx hq
noncomputable def Bg:List (List Nat):=["uint", "int", "bytes", "string", "bool", "address", "fixed", "ufixed", "hash", "x", "Zz"].map S
noncomputable def Bi:List (List Nat):=["", "8", "256", "32", "33", "7", "264", "8x1", "128x80", "128x81", "20x3", "1"].map S
theorem Mh:aO pZ false (ag 16) []= .ok (.list (Bg.map .str)):=by kernel_rfl
theorem Mi:aO pZ false (ag 17) []= .ok (.list (Bi.map .str)):=by kernel_rfl
theorem Bj{xs:List (List Nat)}{b:Nat}(h:xs.all (λx=>decide (x.length<=b)&&x.all λc=>decide (c<1114112))=true):∀x∈xs,x.length<=b/\ ∀c∈x,c<1114112:=λx hx=>by
 have:=ba.mp h x hx
 rw[aI,decide_eq_true_eq,ba]at this
 exact⟨this.1,λc hc=>by simpa using this.2 c hc⟩
theorem Mj(Z:bb w h mg mb):∃fv,∀N,2<=N->nR (wd w h mg mb) N (aa "_law_names") fv Bg 7:=by
 refine bA (AH Z (uw (n:=0) Z)) λfv e1 e2 e3=> ?_
 exact⟨fv,λN hN=>⟨e1,e2,by have:=e3 [];rw[Mh]at this;exact this.mono hN,Bj (by decide+kernel),by decide+kernel⟩⟩
theorem Mk(Z:bb w h mg mb):∃fv,∀N,2<=N->nR (wd w h mg mb) N (aa "_law_subs") fv Bi 6:=by
 refine bA (AI Z (uw (n:=0) Z)) λfv e1 e2 e3=> ?_
 exact⟨fv,λN hN=>⟨e1,e2,by have:=e3 [];rw[Mi]at this;exact this.mono hN,Bj (by decide+kernel),by decide+kernel⟩⟩
theorem Ml(Z:bb w h mg mb){N:Nat}(hN:5<=N):qo (wd w h mg mb) 296 301 N:=by
 have mgT:(wd w h mg mb).mg (aa "_law_take")=some (.ref 296):=bH (K:=HK w.params) Z.O.kin Z.O.g (AG w.params)
 have calT:ce (wd w h mg mb) (.ref 296):=bT (ur (W:=wd w h mg mb) (P:=w.params) Z.O.kin rfl)
 have mgA:(wd w h mg mb).mg (aa "_law_tree")=some (.ref 301):=bH (K:=HK w.params) Z.O.kin Z.O.g (AJ w.params)
 have F:=Mb (W:=wd w h mg mb) (P:=w.params) Z.O.kin
 have calA:ce (wd w h mg mb) (.ref 301):=us (by obtain⟨o,e1,e2⟩:=F.at_;exact⟨o,e1,_,e2⟩)
 refine xE (Mj Z) λfN hN1=> ?_
 refine xE (Mk Z) λfS hS1=> ?_
 refine⟨Z.O,λB hB=>Bf Z hB,λB hB=> ?_,mgT,calT,mgA,calA,aj (bV _ _) ‹_›⟩
 have:=LZ (n:=2) F (λM hM=>⟨Z.O,Bf Z hB,mgT,calT,mgA,calA,hN1 M hM,hS1 M hM,by decide+kernel,by decide+kernel,aj (bV _ _) ‹_›,hB⟩)
 exact⟨λA l s X td R hX bx hd hu=>this.1 A l s X td R hX bx (wS ‹_› ‹_› (by rfl)) (jB ‹_› ‹_› (by rfl)),λA l s X td R hX bx hd hu=>this.2 A l s X td R hX bx (wS ‹_› ‹_› (by rfl)) (jB ‹_› ‹_› (by rfl))⟩
noncomputable def J0:Nat:=40
noncomputable def K0:Nat:=140
theorem Mm(Z:bb w h mg mb)(LE:mc (ck (ag 29)) (pE (fE J0 K0) false 24)){X:Addr->Prop}{A:aA}{l:List av}{s:ah}(R:Ready (wd w h mg mb) X A l s){sa:Addr}{vs:List ae}{ns:List Int}(hl:s.heap.IsList sa vs.toArray)(hi:lE vs ns)(hlen:vs.length<=64)(hd:A.depth<=320)(hu:A.units<=100)
  {Q E:ae->ah->Prop} (hq:∀s',Inv (wd w h mg mb) s'->s'.os=s.os->Q (.bool true) s'):wpAny (wd w h mg mb).M A (call (.ref 352) [.ref sa]) Q E s:=by
 have hE:aN false (wd w h mg mb) 560 (pE (fE J0 K0) false 24):=iG Z.O (AO Z 40 140) 24
 have hsc:(az (HK w.params) 352).scope=ck (ag 29):=(Be w.params).scope
 exact L7 (Mg (P:=w.params) Z.O.kin rfl) (Ml Z (by decide)) hE (by rw[hsc];exact LE) R hl hi hlen (d9 (k:=561) hd (by rfl)) (d9 (k:=5603) hu (by rfl)) hq
end
end
section
theorem Mn(args:List WData)(cls:ExcName):gm.row.claim.raises args cls=false:=rfl
theorem Mo(args after:List WData):gm.row.claim.post args (.bool true) after=true:=by kernel_rfl
theorem Mp{w:fk}{h:Heap}{p:ki}{loose:List Str}{mean:ExcName->Option ae}{mg mb:Str->Option ae}(KX:(HK w.params).In h)(TB:∀P∈([151,183,205,235]:List Addr),h.get? P=some (tabObj #[]))(T:Top p loose mean mg mb h):bb w h mg mb:=by
 have O:=Iy KX TB T
 have Z:=JH O (topRead_of (ghost_top (ul KX TB (um _)) T))
 exact⟨O,HO O Z,HP O Z⟩
theorem Mq(LE:mc (ck (ag 29)) (pE (fE J0 K0) false 24)){w:fk}{s₁:ah}{p:ki}{loose:List Str}{mean mean':ExcName->Option ae}{mg mb:Str->Option ae}{cl:Str->Option Addr}{args:List WData}
  (KX:(HK w.params).In s₁.heap) (TB:∀P∈([151,183,205,235]:List Addr),s₁.heap.get? P=some (tabObj #[])) (T:Top p loose mean mg mb s₁.heap) (hg:s₁.gens= #[])
  {fa:Addr} (hm:mg (aa "law")=some (.ref fa)) {sa:Addr} {vs:List ae} {ns:List Int} (hl:s₁.heap.IsList sa vs.toArray) (hi:lE vs ns) (hlen:¬(63:Int)<(ns.length:Int)):
  wpAny (model gm.row.prog w) callerA (call (.ref fa) [.ref sa])
   (λv s' =>GoodWG gm.row.claim cl mean' args s₁ (.ok (.ret v)) s') (λe s' =>GoodWG gm.row.claim cl mean' args s₁ (.error e) s') s₁:=by
 have e0:mg (aa "law")=some (.ref 352):=bH KX T.g (by kernel_rfl)
 rw[hm]at e0
 cases aq e0
 have hT:=ul KX TB (um _)
 have hlen':vs.length<=64:=by have:=lE.length hi;omega
 have I:Inv (wd w s₁.heap mg mb) s₁:=by
  refine⟨λb o e=>of_hideAll _ e,λq hq=>⟨#[],?_,?_⟩, .of_eq hg⟩
  ·exact(hT q hq).1.code (hT q hq).2 (by trivial)
  ·exact(hT q hq).1.tab (hT q hq).2
 have R:Ready (wd w s₁.heap mg mb) (λb=>b∈bd.map (·.2)) callerA [] s₁:=by
  refine⟨I,rfl,rfl,rfl,λe he=>by simp at he,λq hq=>lD hq,λb o e hb=> ?_,λb hb=> ?_⟩
  ·rw[show(wd w s₁.heap mg mb).base.get? b=none from hideAll_none _ hb]at e;exact am e
  ·refine ay (iw.mp hb) λq hq zq2=> ?_;subst zq2
   exact⟨_,(hT q hq).2⟩
 refine Mm (w:=w) (Mp KX TB T) LE R hl hi hlen' (by decide+kernel) (by decide+kernel) λs' I' ho=> ?_
 have keep:∀b o,b∉bd.map (·.2)->s₁.heap.get? b=some o->s'.heap.get? b=some o:=λb o hb e=>I'.stays b o (ghost_ne e hb)
 have grown:∀b o,b∈bd.map (·.2)->s₁.heap.get? b=some o->isCodeTable s₁.heap b/\ o=tabObj #[]/\ ∃ps,s'.heap.get? b=some (tabObj ps):=λb o hb e=>by
  refine ay (iw.mp hb) λq hq zq2=> ?_;subst zq2
  have e2:=(hT q hq).2
  rw[e]at e2
  refine ay (I'.tabs q hq) λps h1 h2=> ?_
  exact⟨((hT q hq).1.tab (hT q hq).2).isCodeTable,vR e2,ps,h2.2⟩
 refine⟨.inl ⟨.bool true, .bool true,[],rfl,Mn _,ReadsW.bool _,Mo _ _,λø=>⟨List.nodup_nil,λa ha=>by simp at ha⟩⟩,⟨λb o e=> ?_,λb o e=> ?_⟩,ho,I'.gens⟩
 ·by_cases hb:b∈bd.map (·.2)
  ·refine rX (grown b o hb e) λht zq1 ps hP=> ?_;subst zq1
   exact .inr (.inl ⟨ht,rfl, #[],ps,rfl,by rw[Array.empty_append];exact hP⟩)
  ·exact .inl (keep b o hb e)
 ·by_cases hb:b∈bd.map (·.2)
  ·refine rX (grown b o hb e) λø ø ps hP=> ?_
   exact⟨_,hP⟩
  ·exact⟨o,keep b o hb e⟩
end
section
section
variable{C:Calls}{g:Bool}{n:Nat}{sc:Scope}{ρ:ak}
theorem Qn{k p}:(pE C g (n+1)).ev sc (.Constant .none k p) ρ= .ok .none:=rfl
theorem Qo{b k p}:(pE C g (n+1)).ev sc (.Constant (.bool b) k p) ρ= .ok (.bool b):=rfl
theorem Bk{i k p}:(pE C g (n+1)).ev sc (.Constant (.int i) k p) ρ= .ok (.int i):=rfl
theorem Qp{x k p y}(h:ao x=y):(pE C g (n+1)).ev sc (.Constant (.str x) k p) ρ= .ok (.str y):=by rw[<-h];rfl
theorem Qq{x p v}(h:ρ.lookup x=some v)(hd:(x==aa "__debug__")=false):(pE C g (n+1)).ev sc (.Name x p) ρ= .ok v:=by
 show(if x=aa "__debug__" then Res.stuck else match ρ.lookup x with|some v=> .ok v|none=>if cj sc x then aE (C.glob x)else .stuck)=_
 rw[if_neg (λq=>by rw[q,beq_self_eq_true]at hd;exact kA hd),h]
theorem Qr{x p v}(h:ρ.lookup x=none)(hd:(x==aa "__debug__")=false) (hg:cj sc x=true) (hv:C.glob x=some v):(pE C g (n+1)).ev sc (.Name x p) ρ= .ok v:=by
 show(if x=aa "__debug__" then Res.stuck else match ρ.lookup x with|some v=> .ok v|none=>if cj sc x then aE (C.glob x)else .stuck)=_
 rw[if_neg (λq=>by rw[q,beq_self_eq_true]at hd;exact kA hd),h]
 simp only[hg,if_true,hv];rfl
theorem Qs{ev:ai->ak->Res PV}:bL ev [] ρ= .ok []:=rfl
theorem Qt{ev:ai->ak->Res PV}{e r v vs}(h:ev e ρ= .ok v)(hr:bL ev r ρ= .ok vs):bL ev (e::r) ρ= .ok (v::vs):=by
 show(ev e ρ).bind _=_
 rw[h];show(bL ev r ρ).bind _=_;rw[hr];rfl
theorem Qu{es c p vs}(hs:(bv es&&decide (es.length<=64))=true)(h:bL ((pE C g n).ev sc) es ρ= .ok vs):(pE C g (n+1)).ev sc (.Tuple es c p) ρ= .ok (.tuple vs):=by
 show(if(bv es&&decide (es.length<=64))=true then _ else _)=_
 rw[if_pos hs,h];rfl
theorem Qv{es p vs}(hs:(bv es&&decide (es.length<=64))=true)(h:bL ((pE C g n).ev sc) es ρ= .ok vs):(pE C g (n+1)).ev sc (.List es p) ρ= .ok (.list vs):=by
 show(if(bv es&&decide (es.length<=64))=true then _ else _)=_
 rw[if_pos hs,h];rfl
theorem Qw{l op r p a b v}(hl:(pE C g n).ev sc l ρ= .ok a)(hr:(pE C g n).ev sc r ρ= .ok b)(h:bJ op a b=some v):(pE C g (n+1)).ev sc (.BinOp l op r p) ρ= .ok v:=by
 show((pE C g n).ev sc l ρ).bind _=_
 rw[hl];show((pE C g n).ev sc r ρ).bind _=_;rw[hr];show aE _=_;rw[h];rfl
theorem Qx{x p v t}(hx:(pE C g n).ev sc x ρ= .ok v)(h:ee v=some t):(pE C g (n+1)).ev sc (.UnaryOp .Not x p) ρ= .ok (.bool !t):=by
 show((pE C g n).ev sc x ρ).bind _=_
 rw[hx];show(aE _).bind _=_;rw[h];rfl
theorem Qy{i k p q}:(pE C g (n+1)).ev sc (.UnaryOp .USub (.Constant (.int i) k p) q) ρ= .ok (.int (-i)):=rfl
theorem Mr{ev:ai->ak->Res PV}{l op r a b t}(hs:cW r=true)(hl:ev l ρ= .ok a)(hr:ev r ρ= .ok b)(h:bn C op a b= .ok t):fZ C ev l [op] [r] ρ= .ok t:=by
 have e:fZ C ev l [op] [r] ρ=lN C ev l op r ρ:=if_pos ⟨rfl,hs⟩
 rw[e,lN,hl];show(gK C ev op a r ρ).bind _=_
 unfold gK;rw[hr];show((bn C op a b).bind _).bind _=_;rw[h];rfl
theorem Qz{ev:ai->ak->Res PV}{l op r op' r' a b c t t'}(hs:cW r' =true)(hl:ev l ρ= .ok a)(hr:ev r ρ= .ok b)(h:bn C op a b= .ok t)(hr':ev r' ρ= .ok c)(h':bn C op' b c= .ok t'):fZ C ev l [op,op'] [r,r'] ρ= .ok (t&&t'):=by
 have e:fZ C ev l [op,op'] [r,r'] ρ=lO C ev l op op' r r' ρ:=if_pos ⟨rfl,rfl,hs⟩
 rw[e,lO,hl];show(gK C ev op a r ρ).bind _=_
 unfold gK;rw[hr];show((bn C op a b).bind _).bind _=_;rw[h]
 cases t with
 |false=>rfl
 |true=>show(gK C ev op' b r' ρ).bind _=_;unfold gK;rw[hr'];show((bn C op' b c).bind _).bind _=_;rw[h'];rfl
theorem QA{l ops rs p t}(h:fZ C ((pE C g n).ev sc) l ops rs ρ= .ok t):(pE C g (n+1)).ev sc (.Compare l ops rs p) ρ= .ok (.bool t):=by
 show(fZ C ((pE C g n).ev sc) l ops rs ρ).bind _=_
 rw[h];rfl
theorem jV{op vs p v}(h:fw ((pE C g n).ev sc) op vs ρ= .ok v):(pE C g (n+1)).ev sc (.BoolOp op vs p) ρ= .ok v:=h
theorem Ms{ev:ai->ak->Res PV}{op e v}(h:ev e ρ= .ok v):fw ev op [e] ρ= .ok v:=h
theorem mi{ev:ai->ak->Res PV}{e e' r b c}(h:ev e ρ= .ok (.bool b))(h':b=true->fw ev .And (e'::r) ρ= .ok (.bool c)):fw ev .And (e::e'::r) ρ= .ok (.bool (b&&c)):=by
 show(ev e ρ).bind _=_
 rw[h]
 cases b with
 |false=>rfl
 |true=>exact h' rfl
theorem Bl{ev:ai->ak->Res PV}{e e' r b c}(h:ev e ρ= .ok (.bool b))(h':b=false->fw ev .Or (e'::r) ρ= .ok (.bool c)):fw ev .Or (e::e'::r) ρ= .ok (.bool (b||c)):=by
 show(ev e ρ).bind _=_
 rw[h]
 cases b with
 |true=>rfl
 |false=>exact h' rfl
theorem QB{ev:ai->ak->Res PV}{op e e' r v t w}(h:ev e ρ= .ok v)(ht:ee v=some t)(hs:jE op t=false)(h':fw ev op (e'::r) ρ= .ok w):fw ev op (e::e'::r) ρ= .ok w:=by
 show(ev e ρ).bind _=_
 rw[h];show(aE _).bind _=_;rw[ht];show(if jE op t=true then _ else _)=_;rw[hs];exact h'
theorem QC{ev:ai->ak->Res PV}{op e e' r v t}(h:ev e ρ= .ok v)(ht:ee v=some t)(hs:jE op t=true):fw ev op (e::e'::r) ρ= .ok v:=by
 show(ev e ρ).bind _=_
 rw[h];show(aE _).bind _=_;rw[ht];show(if jE op t=true then _ else _)=_;rw[hs];rfl
theorem Bm{t b o p c v}(ht:(pE C g n).tst sc t ρ= .ok c)(h1:c=true->(pE C g n).ev sc b ρ= .ok v)(h2:c=false->(pE C g n).ev sc o ρ= .ok v):(pE C g (n+1)).ev sc (.IfExp t b o p) ρ= .ok v:=by
 show((pE C g n).tst sc t ρ).bind _=_
 rw[ht]
 cases c with
 |true=>exact h1 rfl
 |false=>exact h2 rfl
theorem QD{v l u p q a x y z}(hv:(pE C g n).ev sc v ρ= .ok a)(hl:(pE C g n).ev sc l ρ= .ok x)(hu:(pE C g n).ev sc u ρ= .ok y)(h:gJ a x y=some z):(pE C g (n+1)).ev sc (.Subscript v (.Slice (some l) (some u) none p) q) ρ= .ok z:=by
 show((pE C g n).ev sc v ρ).bind _=_
 rw[hv];show((pE C g n).ev sc l ρ).bind _=_;rw[hl];show((pE C g n).ev sc u ρ).bind _=_;rw[hu];show aE _=_;rw[h];rfl
theorem QE{v l p q a x z}(hv:(pE C g n).ev sc v ρ= .ok a)(hl:(pE C g n).ev sc l ρ= .ok x)(h:gJ a x .none=some z):(pE C g (n+1)).ev sc (.Subscript v (.Slice (some l) none none p) q) ρ= .ok z:=by
 show((pE C g n).ev sc v ρ).bind _=_
 rw[hv];show((pE C g n).ev sc l ρ).bind _=_;rw[hl];show aE _=_;rw[h];rfl
theorem QF{v u p q a y z}(hv:(pE C g n).ev sc v ρ= .ok a)(hu:(pE C g n).ev sc u ρ= .ok y)(h:gJ a .none y=some z):(pE C g (n+1)).ev sc (.Subscript v (.Slice none (some u) none p) q) ρ= .ok z:=by
 show((pE C g n).ev sc v ρ).bind _=_
 rw[hv];show((pE C g n).ev sc u ρ).bind _=_;rw[hu];show aE _=_;rw[h];rfl
noncomputable def Mt:ai->Bool
 | .Slice .. =>false
 |_=>true
theorem QG{v i q a k z}(hn:Mt i=true)(hv:(pE C g n).ev sc v ρ= .ok a)(hi:(pE C g n).ev sc i ρ= .ok k)(h:fu a k=some z):(pE C g (n+1)).ev sc (.Subscript v i q) ρ= .ok z:=by
 have:(pE C g (n+1)).ev sc (.Subscript v i q) ρ=((pE C g n).ev sc v ρ).bind λa=>((pE C g n).ev sc i ρ).bind λk=>aE (fu a k):=by
  cases i<;>first|rfl|(exact bZ hn;done)
 rw[this,hv];show((pE C g n).ev sc i ρ).bind _=_;rw[hi];show aE _=_;rw[h];rfl
theorem Bn{a b:Str}(h:(!(a==b))=true):¬a=b:=λq=>by rw[q,beq_self_eq_true]at h;exact bZ h
noncomputable def qp(sc:Scope)(f:Str)(args:List ai):Bool:=cj sc f&& !(f==aa "__debug__")&&(kH args).isNone&& !(f==aa "isinstance")&&bv args&&pi f
theorem Bo{f p args q}(hg:qp sc f args=true)(h2:ρ.lookup f=none):(pE C g (n+1)).ev sc (.Call (.Name f p) args [] q) ρ=(bL ((pE C g n).ev sc) args ρ).bind λvs=>i7 C f vs:=by
 unfold qp at hg
 refine xA (ew hg) λhg h7=> ?_
 refine xA (ew hg) λhg h6=> ?_
 refine xA (ew hg) λhg h5=> ?_
 refine xA (ew hg) λhg h4=> ?_
 refine xA (ew hg) λh1 h3=> ?_
 rw[DM]at h4
 have h3:=Bn h3
 have h5:=Bn h5
 have c0:¬((!cj sc f||(ρ.lookup f).isSome||decide (f=aa "__debug__"))=true):=by rw[h1,h2];simp[h3]
 have pl:kJ C (pE C g n) sc f args ρ=(bL ((pE C g n).ev sc) args ρ).bind λvs=>i7 C f vs:=if_pos (by rw[h6,h7];rfl)
 show jG C g (pE C g n) (pE C false n) sc f args ρ=_
 unfold jG
 rw[if_neg c0,h4]
 show nq C (pE C g n) sc f args ρ=_
 unfold nq
 cases pj args with
 |none=>exact pl
 |some q=>exact(if_neg h5).trans pl
theorem QH{f p args q vs r}(hg:qp sc f args=true)(hn:ρ.lookup f=none)(hb:(f0 f).isNone=true)(ha:bL ((pE C g n).ev sc) args ρ= .ok vs)(h:C.fn f vs=r):(pE C g (n+1)).ev sc (.Call (.Name f p) args [] q) ρ=r:=by
 rw[Bo hg hn,ha]
 show i7 C f vs=r
 unfold i7
 rw[DM.mp hb];exact h
theorem QI{f p args q vs v}(hg:qp sc f args=true)(hn:ρ.lookup f=none)(hb:(f0 f).isSome=true)(ha:bL ((pE C g n).ev sc) args ρ= .ok vs)(h:da f vs=some v):(pE C g (n+1)).ev sc (.Call (.Name f p) args [] q) ρ= .ok v:=by
 rw[Bo hg hn,ha]
 show i7 C f vs=_
 unfold i7
 cases e:f0 f with
 |none=>rw[e]at hb;exact bZ hb
 |some x=>show aE (da f vs)=_;rw[h];rfl
theorem QJ{f p e t r q v b}(hf:(f==aa "isinstance")=true) (hg:(cj sc f&&cj sc t&&bv [e])=true) (h2:ρ.lookup f=none) (h4:ρ.lookup t=none) (ha:(pE C g n).ev sc e ρ= .ok v) (h:dO v t=some b):(pE C g (n+1)).ev sc (.Call (.Name f p) [e, .Name t r] [] q) ρ= .ok (.bool b):=by
 have hf:=cN hf
 subst hf
 refine xA (ew hg) λhg h5=> ?_
 refine xA (ew hg) λh1 h3=> ?_
 show jG C g (pE C g n) (pE C false n) sc (aa "isinstance") [e, .Name t r] ρ=_
 unfold jG
 rw[if_neg (by rw[h1,h2];simp;decide+kernel)]
 show(if aa "isinstance" =aa "isinstance" then(if(cj sc t&&(ρ.lookup t).isNone&&bv [e])=true then((pE C g n).ev sc e ρ).bind λv=>(aE (dO v t)).bind λb=> .ok (PV.bool b)else .stuck)else kJ C (pE C g n) sc (aa "isinstance") [e, .Name t r] ρ)=_
 rw[if_pos rfl,if_pos (by rw[h3,h4,h5];rfl),ha]
 show(aE (dO v t)).bind _=_
 rw[h];rfl
theorem QK{f p elt x px iter gsc gp q v items vs bs}(hf:(f==aa "any")=true) (hg:(cj sc f&&eN gsc iter)=true) (h2:ρ.lookup f=none) (hi:(pE C true n).ev sc iter ρ= .ok v) (ht:bQ v=some items) (hc:cq (pE C false n) gsc x elt [] items= .ok vs) (hb:i4 vs=some bs):(pE C true (n+1)).ev sc (.Call (.Name f p) [.GeneratorExp elt [⟨.Name x px,iter,[],0⟩] gsc gp] [] q) ρ= .ok (.bool (bs.any id)):=by
 have hf:=cN hf
 subst hf
 refine xA (ew hg) λh1 h3=> ?_
 show(if(!cj sc (aa "any")||(ρ.lookup (aa "any")).isSome||decide (aa "any" =aa "__debug__"))=true then Res.stuck else if(decide (aa "any" =aa "any")&&true&&eN gsc iter)=true then _ else _)=_
 rw[if_neg (by rw[h1,h2];simp;decide+kernel),if_pos (by rw[h3];simp),hi]
 show(aE (bQ v)).bind _=_
 rw[ht];show(cq (pE C false n) gsc x elt [] items).bind _=_
 rw[hc];show(aE (i4 vs)).bind _=_
 rw[hb];rfl
theorem QL{o m ap elt x px iter gsc gp q s v items vs r}(hm:(m==aa "join")=true) (hg:(fy o&&ap.endLine==q.line&&eN gsc iter)=true) (ho:(pE C true n).ev sc o ρ= .ok (.str s)) (hi:(pE C true n).ev sc iter ρ= .ok v) (ht:bQ v=some items) (hc:cq (pE C false n) gsc x elt [] items= .ok vs) (hb:cn m s [.list vs]=some r):(pE C true (n+1)).ev sc (.Call (.Attribute o m ap) [.GeneratorExp elt [⟨.Name x px,iter,[],0⟩] gsc gp] [] q) ρ= .ok r:=by
 have hm:=cN hm
 subst hm
 simp only[aI]at hg
 obtain⟨zn10,h3⟩:=hg
 obtain⟨h1,h2⟩:=zn10
 show(if(!(fy o&&ap.endLine==q.line&&true&&true))=true then Res.stuck else((pE C true n).ev sc o ρ).bind _)=_
 rw[if_neg (by rw[h1,h2];simp),ho]
 show(if(decide (aa "join" =aa "join")&&true&&eN gsc iter)=true then _ else _)=_
 rw[if_pos (by rw[h3];simp),hi]
 show(aE (bQ v)).bind _=_
 rw[ht];show(cq (pE C false n) gsc x elt [] items).bind _=_
 rw[hc];show aE _=_
 rw[hb];rfl
theorem QM{o m ap args q s vs r}(hg:(fy o&&ap.endLine==q.line&&bv args&&decide (args.length<29)&&i8.contains m&&(kH args).isNone)=true)(ho:(pE C g n).ev sc o ρ= .ok (.str s))(ha:bL ((pE C g n).ev sc) args ρ= .ok vs)(h:cn m s vs=some r):(pE C g (n+1)).ev sc (.Call (.Attribute o m ap) args [] q) ρ= .ok r:=by
 simp only[aI]at hg
 refine xA hg λzn11 h6=> ?_
 refine xA zn11 λzn12 h5=> ?_
 refine xA zn12 λzn13 h4=> ?_
 refine xA zn13 λzn14 h3=> ?_
 refine xA zn14 λh1 h2=> ?_
 show jH C g (pE C g n) (pE C false n) sc o m ap args q ρ=_
 unfold jH
 rw[if_neg (by rw[h1,h2,h3,h4];simp),ho]
 show lP g (pE C g n) (pE C false n) sc m s args ρ=_
 unfold lP
 rw[DM.mp h6]
 show(if i8.contains m=true then(bL ((pE C g n).ev sc) args ρ).bind λvs=>aE (cn m s vs)else .stuck)=_
 rw[if_pos h5,ha];show aE _=_;rw[h];rfl
theorem QN{o m ap args q c fs vs r}(hg:(fy o&&ap.endLine==q.line&&bv args&&decide (args.length<29)&&hZ.contains m)=true)(ho:(pE C g n).ev sc o ρ= .ok (.inst c fs))(hf:(fs.lookup m).isNone=true)(ha:bL ((pE C g n).ev sc) args ρ= .ok vs)(h:C.meth c m (.inst c fs::vs)=r):(pE C g (n+1)).ev sc (.Call (.Attribute o m ap) args [] q) ρ=r:=by
 simp only[aI]at hg
 refine xA hg λzn15 h5=> ?_
 refine xA zn15 λzn16 h4=> ?_
 refine xA zn16 λzn17 h3=> ?_
 refine xA zn17 λh1 h2=> ?_
 show jH C g (pE C g n) (pE C false n) sc o m ap args q ρ=_
 unfold jH
 rw[if_neg (by rw[h1,h2,h3,h4];simp),ho]
 show(if((fs.lookup m).isNone&&hZ.contains m)=true then _ else _)=_
 rw[if_pos (by rw[hf,h5];rfl),ha];exact h
theorem QO{o a p c fs v}(hb:fy o=true)(hf:dP.contains a=true)(ho:(pE C g n).ev sc o ρ= .ok (.inst c fs))(h:fs.lookup a=some v):(pE C g (n+1)).ev sc (.Attribute o a p) ρ= .ok v:=by
 show(if(!fy o)=true then Res.stuck else((pE C g n).ev sc o ρ).bind _)=_
 rw[if_neg (by rw[hb];simp),ho]
 show(if dP.contains a=true then aE (fs.lookup a)else _)=_
 rw[if_pos hf,h];rfl
theorem QP{o a p c fs r}(hb:fy o=true)(hf:dP.contains a=false)(ho:(pE C g n).ev sc o ρ= .ok (.inst c fs))(h:C.prop c a (.inst c fs)=r):(pE C g (n+1)).ev sc (.Attribute o a p) ρ=r:=by
 show(if(!fy o)=true then Res.stuck else((pE C g n).ev sc o ρ).bind _)=_
 rw[if_neg (by rw[hb];simp),ho]
 show(if dP.contains a=true then aE (fs.lookup a)else _)=_
 rw[if_neg (by rw[hf];simp)];exact h
theorem jj{elt x px iter ifs csc q v items vs}(hn:cW iter=true)(hi:(pE C g n).ev sc iter ρ= .ok v)(ht:bQ v=some items)(hc:cq (pE C false n) csc x elt ifs items= .ok vs):(pE C g (n+1)).ev sc (.ListComp elt [⟨.Name x px,iter,ifs,0⟩] csc q) ρ= .ok (.list vs):=by
 show(if(!cW iter)=true then Res.stuck else _)=_
 rw[if_neg (by rw[hn];simp),hi]
 show(aE (bQ v)).bind _=_
 rw[ht];show(cq (pE C false n) csc x elt ifs items).bind _=_
 rw[hc];rfl
theorem uI{α:Type}{f:α->Res Bool}:∀{l:List α},(∀a∈l,f a= .ok true)->iC f l= .ok l
 |[],_=>rfl
 |a::r,h=>by
  show(f a).bind _=_
  rw[h a (.head _)];show(iC f r).bind _=_
  rw[uI λb hb=>h b (.tail _ hb)];rfl
theorem Bp{α:Type}{f:α->Res Bool}{t:α->Bool}:∀{l:List α},(∀a∈l,f a= .ok (t a))->iC f l= .ok (l.filter t)
 |[],_=>rfl
 |a::r,h=>by
  show(f a).bind _=_
  rw[h a (.head _)];show(iC f r).bind _=_
  rw[Bp λb hb=>h b (.tail _ hb)]
  show Res.ok _=_
  rw[wc]
theorem uJ{α β:Type}{f:α->Res β}{t:α->β}:∀{l:List α},(∀a∈l,f a= .ok (t a))->fx f l= .ok (l.map t)
 |[],_=>rfl
 |a::r,h=>by
  show(f a).bind _=_
  rw[h a (.head _)];show(fx f r).bind _=_
  rw[uJ λb hb=>h b (.tail _ hb)];rfl
theorem QQ{E:Ev}{csc x elt items}{t:PV->PV}(hs:(hY csc&&bR csc x&&x !=aa ".0")=true) (h:∀v∈items,E.ev csc elt [(x,v)]= .ok (t v)):cq E csc x elt [] items= .ok (items.map t):=by
 unfold cq
 rw[if_pos hs,uI (f:=iD E csc x []) (λa ø=>rfl)]
 show ca (fx _ items)=_
 rw[uJ h];rfl
theorem QR{E:Ev}{csc x elt e items}{f:PV->Bool}(hs:(hY csc&&bR csc x&&x !=aa ".0")=true) (hf:∀v∈items,E.tst csc e [(x,v)]= .ok (f v)) (h:∀v∈items,E.ev csc elt [(x,v)]= .ok v):cq E csc x elt [e] items= .ok (items.filter f):=by
 unfold cq
 rw[if_pos hs,Bp (f:=iD E csc x [e]) (t:=f) (λa ha=>hf a ha)]
 show ca (fx _ (items.filter f))=_
 rw[uJ (t:=λv=>v) (λa ha=>h a (Du.mp ha).1),List.map_id'];rfl
theorem QS{parts p vs ws}(hl:(decide (2<=parts.length)&&decide (parts.length<=16))=true)(h:bL (gL ((pE C g n).ev sc)) parts ρ= .ok vs)(ht:cV vs=some ws):(pE C g (n+1)).ev sc (.JoinedStr parts p) ρ= .ok (.str ws.flatten):=by
 show(if(decide (2<=parts.length)&&decide (parts.length<=16))=true then _ else _)=_
 rw[if_pos hl,h]
 show(match cV vs with|some ws=>Res.ok (PV.str ws.flatten)|none=> .stuck)=_
 rw[ht]
theorem QT{x p t}(h:(pE C g n).tst sc x ρ= .ok t):(pE C g (n+1)).tst sc (.UnaryOp .Not x p) ρ= .ok !t:=by
 show((pE C g n).tst sc x ρ).bind _=_
 rw[h];rfl
theorem nU{l ops rs p t}(h:fZ C ((pE C g n).ev sc) l ops rs ρ= .ok t):(pE C g (n+1)).tst sc (.Compare l ops rs p) ρ= .ok t:=h
theorem gh{op vs p t}(h:i6 ((pE C g n).tst sc) op vs ρ= .ok t):(pE C g (n+1)).tst sc (.BoolOp op vs p) ρ= .ok t:=h
theorem Bq{tst:ai->ak->Res Bool}{op e t}(h:tst e ρ= .ok t):i6 tst op [e] ρ= .ok t:=by
 show(tst e ρ).bind _=_
 rw[h]
 cases op<;>cases t<;>rfl
theorem kZ{tst:ai->ak->Res Bool}{e e' r b c}(h:tst e ρ= .ok b)(h':b=true->i6 tst .And (e'::r) ρ= .ok c):i6 tst .And (e::e'::r) ρ= .ok (b&&c):=by
 show(tst e ρ).bind _=_
 rw[h]
 cases b with
 |false=>rfl
 |true=>exact h' rfl
theorem iJ{tst:ai->ak->Res Bool}{e e' r b c}(h:tst e ρ= .ok b)(h':b=false->i6 tst .Or (e'::r) ρ= .ok c):i6 tst .Or (e::e'::r) ρ= .ok (b||c):=by
 show(tst e ρ).bind _=_
 rw[h]
 cases b with
 |true=>rfl
 |false=>exact h' rfl
noncomputable def Mu:ai->Bool
 | .UnaryOp .Not .. =>false
 | .BoolOp .. =>false
 | .IfExp .. =>false
 | .Compare .. =>false
 |_=>true
theorem QU{e v t}(hp:Mu e=true)(h:(pE C g n).ev sc e ρ= .ok v)(ht:ee v=some t):(pE C g (n+1)).tst sc e ρ= .ok t:=by
 have:(pE C g (n+1)).tst sc e ρ=((pE C g n).ev sc e ρ).bind λv=>aE (ee v):=by
  cases e with
  |UnaryOp op x p=>cases op<;>first|(cases hp;done)|rfl
  |_=>first|(cases hp;done)|rfl
 rw[this,h];show aE _=_;rw[ht];rfl
section
variable{ex:aC->ak->aB}{k:Nat}{ρ':ak}{o:aB}
theorem aS:aw ex [] ρ= .next ρ:=rfl
theorem aP{s r}(h:ex s ρ= .next ρ')(hr:aw ex r ρ' =o):aw ex (s::r) ρ=o:=by
 show(match ex s ρ with| .next ρ' =>aw ex r ρ'|o=>o)=_
 rw[h];exact hr
noncomputable def aB.stops:aB->Bool
 | .next _=>false
 |_=>true
theorem aD{s r}(h:ex s ρ=o)(hs:o.stops=true):aw ex (s::r) ρ=o:=by
 show(match ex s ρ with| .next ρ' =>aw ex r ρ'|o=>o)=_
 rw[h]
 cases o<;>first|rfl|(exact bZ hs;done)
theorem QV{x kk p q}:pX C g (k+1) sc (.Expr (.Constant (.str x) kk p) q) ρ= .next ρ:=rfl
theorem Br{f as ks p q}(h:(pE C g 24).ev sc (.Call f as ks p) ρ= .ok .none):pX C g (k+1) sc (.Expr (.Call f as ks p) q) ρ= .next ρ:=by
 show aW ((pE C g 24).ev sc (.Call f as ks p) ρ) ρ _=_
 rw[h];rfl
theorem eh{f as ks p q c}(h:(pE C g 24).ev sc (.Call f as ks p) ρ= .exc c):pX C g (k+1) sc (.Expr (.Call f as ks p) q) ρ= .exc c ρ:=by
 show aW ((pE C g 24).ev sc (.Call f as ks p) ρ) ρ _=_
 rw[h];rfl
noncomputable def Bs:ai->Bool
 | .ListComp .. =>false
 |_=>true
theorem bg{x px e p v}(hc:(Bs e&&bR sc x&&kK e)=true)(h:(pE C g 24).ev sc e ρ= .ok v)(hs:aQ x v ρ=ρ'):pX C g (k+1) sc (.Assign [.Name x px] e p) ρ= .next ρ':=by
 simp only[aI]at hc
 obtain⟨zn18,h3⟩:=hc
 obtain⟨h1,h2⟩:=zn18
 have:pX C g (k+1) sc (.Assign [.Name x px] e p) ρ=(if(bR sc x&&kK e)=true then aW ((pE C g 24).ev sc e ρ) ρ λa=> .next (aQ x a ρ)else .stuck):=by
  show lS (pE C g 24) (pX C g k) sc (.Assign [.Name x px] e p) ρ=_
  unfold lS
  cases e<;>first|rfl|(exact bZ h1;done)
 rw[this,if_pos (by rw[h2,h3];rfl),h]
 show aB.next _=_
 rw[hs]
theorem Mv{x px e p c}(hc:(Bs e&&bR sc x&&kK e)=true)(h:(pE C g 24).ev sc e ρ= .exc c):pX C g (k+1) sc (.Assign [.Name x px] e p) ρ= .exc c ρ:=by
 simp only[aI]at hc
 obtain⟨zn19,h3⟩:=hc
 obtain⟨h1,h2⟩:=zn19
 have:pX C g (k+1) sc (.Assign [.Name x px] e p) ρ=(if(bR sc x&&kK e)=true then aW ((pE C g 24).ev sc e ρ) ρ λa=> .next (aQ x a ρ)else .stuck):=by
  show lS (pE C g 24) (pX C g k) sc (.Assign [.Name x px] e p) ρ=_
  unfold lS
  cases e<;>first|rfl|(exact bZ h1;done)
 rw[this,if_pos (by rw[h2,h3];rfl),h]
 rfl
theorem Mw{x px e gs csc p q v}(hc:(bR sc x&&px.line==p.line&&(csc.names.lookup x).isNone)=true)(h:(pE C g 24).ev sc (.ListComp e gs csc p) ρ= .ok v)(hs:aQ x v ρ=ρ'):pX C g (k+1) sc (.Assign [.Name x px] (.ListComp e gs csc p) q) ρ= .next ρ':=by
 show(if(bR sc x&&px.line==p.line&&(csc.names.lookup x).isNone)=true then aW ((pE C g 24).ev sc (.ListComp e gs csc p) ρ) ρ _ else _)=_
 rw[if_pos hc,h]
 show aB.next _=_
 rw[hs]
theorem iK{x px y py c q e p a b ρ1}(hc:(bR sc x&&bR sc y&&x !=y&&px.line==py.line&&pp e)=true)(h:(pE C g 24).ev sc e ρ= .ok (.tuple [a,b]))(h1:aQ x a ρ=ρ1)(h2:aQ y b ρ1=ρ'):pX C g (k+1) sc (.Assign [.Tuple [.Name x px, .Name y py] c q] e p) ρ= .next ρ':=by
 show(if(bR sc x&&bR sc y&&x !=y&&px.line==py.line&&pp e)=true then aW ((pE C g 24).ev sc e ρ) ρ _ else _)=_
 rw[if_pos hc,h]
 show aB.next _=_
 rw[h1,h2]
theorem qr{x px e p a b v}(hx:ρ.lookup x=some (.int a))(h:(pE C g 24).ev sc e ρ= .ok b)(hv:bJ .Add (.int a) b=some v)(hs:aQ x v ρ=ρ'):pX C g (k+1) sc (.AugAssign (.Name x px) .Add e p) ρ= .next ρ':=by
 have e:pX C g (k+1) sc (.AugAssign (.Name x px) .Add e p) ρ=(match(ρ.lookup x).bind gq with|some i=>if wD= .Add \/wD= .Sub then aW ((pE C g 24).ev sc e ρ) ρ λb=>aW (aE (bJ .Add (.int i) b)) ρ λr=> .next (aQ x r ρ)else .stuck|none=> .stuck):=rfl
 rw[e,hx]
 show(if wD= .Add \/wD= .Sub then _ else _)=_
 rw[if_pos (.inl rfl)]
 rw[h]
 show aW (aE (bJ .Add (.int a) b)) ρ _=_
 rw[hv]
 show aB.next _=_
 rw[hs]
theorem Mx{x px e p a b v}(hx:ρ.lookup x=some (.int a))(h:(pE C g 24).ev sc e ρ= .ok b)(hv:bJ .Sub (.int a) b=some v)(hs:aQ x v ρ=ρ'):pX C g (k+1) sc (.AugAssign (.Name x px) .Sub e p) ρ= .next ρ':=by
 have e:pX C g (k+1) sc (.AugAssign (.Name x px) .Sub e p) ρ=(match(ρ.lookup x).bind gq with|some i=>if wE= .Add \/wE= .Sub then aW ((pE C g 24).ev sc e ρ) ρ λb=>aW (aE (bJ .Sub (.int i) b)) ρ λr=> .next (aQ x r ρ)else .stuck|none=> .stuck):=rfl
 rw[e,hx]
 show(if wE= .Add \/wE= .Sub then _ else _)=_
 rw[if_pos (.inr rfl)]
 rw[h]
 show aW (aE (bJ .Sub (.int a) b)) ρ _=_
 rw[hv]
 show aB.next _=_
 rw[hs]
theorem Bt{t b e p c}(ht:(pE C g 24).tst sc t ρ= .ok c)(h1:c=true->aw (pX C g k sc) b ρ=o)(h2:c=false->aw (pX C g k sc) e ρ=o):pX C g (k+1) sc (.If t b e p) ρ=o:=by
 show aW ((pE C g 24).tst sc t ρ) ρ _=_
 rw[ht]
 cases c with
 |true=>exact h1 rfl
 |false=>exact h2 rfl
theorem k8{t b e p c}(ht:(pE C g 24).tst sc t ρ= .ok c)(hc:c=true)(h1:aw (pX C g k sc) b ρ=o):pX C g (k+1) sc (.If t b e p) ρ=o:=Bt ht (λø=>h1) λq=>by rw[hc]at q;cases q
theorem jW{t b e p c}(ht:(pE C g 24).tst sc t ρ= .ok c)(hc:c=false)(h1:aw (pX C g k sc) e ρ=o):pX C g (k+1) sc (.If t b e p) ρ=o:=Bt ht (λq=>by rw[hc]at q;cases q) λø=>h1
theorem ml{t b p}(h:dC ((pE C g 24).tst sc t) (aw (pX C g k sc) b) jK ρ=o):pX C g (k+1) sc (.While t b [] p) ρ=o:=h
theorem Bu{x px it b p v items}(hc:(bR sc x&&cW it)=true)(h:(pE C g 24).ev sc it ρ= .ok v)(hi:bQ v=some items)(hl:db (aw (pX C g k sc) b) x items ρ=o):pX C g (k+1) sc (.For (.Name x px) it b [] p) ρ=o:=by
 show(if(bR sc x&&cW it)=true then aW (ca ((pE C g 24).ev sc it ρ)) ρ _ else _)=_
 rw[if_pos hc,h]
 show aW (aE (bQ v)) ρ _=_
 rw[hi];exact hl
theorem jX{e p v}(h:(pE C g 24).ev sc e ρ= .ok v):pX C g (k+1) sc (.Return (some e) p) ρ= .ret v:=by
 show aW ((pE C g 24).ev sc e ρ) ρ _=_
 rw[h];rfl
theorem a6{e p v w}(h:(pE C g 24).ev sc e ρ= .ok v)(hv:v=w):pX C g (k+1) sc (.Return (some e) p) ρ= .ret w:=hv▸jX h
theorem Bv{e p c}(h:(pE C g 24).ev sc e ρ= .exc c):pX C g (k+1) sc (.Return (some e) p) ρ= .exc c ρ:=by
 show aW ((pE C g 24).ev sc e ρ) ρ _=_
 rw[h];rfl
theorem Bw{p}:pX C g (k+1) sc (.Break p) ρ= .brk ρ:=rfl
theorem k9{f pf e q p y c}(hc:(cj sc f&&bv [e])=true)(h:(pE C g 24).ev sc e ρ= .ok (.str y))(hx:jI f=some c):pX C g (k+1) sc (.Raise (some (.Call (.Name f pf) [e] [] q)) none p) ρ= .rais c ρ:=by
 show(if(cj sc f&&bv [e])=true then aW (ca ((pE C g 24).ev sc e ρ)) ρ _ else _)=_
 rw[if_pos hc,h]
 show(match jI f with|some c=>aB.rais c ρ|none=> .stuck)=_
 rw[hx]
theorem Bx{b h hs p}(hb:aw (pX C g k sc) b ρ= .next ρ'):pX C g (k+1) sc (.Try b (h::hs) [] [] p) ρ= .next ρ':=by
 show(match aw (pX C g k sc) b ρ with| .next ρ' =>aB.next ρ'| .ret v=> .ret v| .exc c ρ' =>f7 sc c ρ' (h::hs)|_=> .stuck)=_
 rw[hb]
theorem My{b h hs p v}(hb:aw (pX C g k sc) b ρ= .ret v):pX C g (k+1) sc (.Try b (h::hs) [] [] p) ρ= .ret v:=by
 show(match aw (pX C g k sc) b ρ with| .next ρ' =>aB.next ρ'| .ret v=> .ret v| .exc c ρ' =>f7 sc c ρ' (h::hs)|_=> .stuck)=_
 rw[hb]
theorem qt{b h hs p c}(hb:aw (pX C g k sc) b ρ= .exc c ρ')(hh:f7 sc c ρ' (h::hs)=o):pX C g (k+1) sc (.Try b (h::hs) [] [] p) ρ=o:=by
 show(match aw (pX C g k sc) b ρ with| .next ρ' =>aB.next ρ'| .ret v=> .ret v| .exc c ρ' =>f7 sc c ρ' (h::hs)|_=> .stuck)=_
 rw[hb];exact hh
theorem nV{tst:ak->Res Bool}{body:ak->aB}(f:Nat->ak):∀(m a fuel:Nat),m<fuel->(∀i,a<=i->i<a+m->tst (f i)= .ok true/\ body (f i)= .next (f (i+1)))->tst (f (a+m))= .ok false->dC tst body fuel (f a)= .next (f (a+m))
 |0,a,0,hf,_,_=>absurd hf (js _)
 |0,a,fuel+1,_,_,he=>by
  show(match tst (f a)with| .ok true=>_| .ok false=>aB.next (f a)|_=> .stuck)=_
  rw[show f (a+0)=f a from rfl]at he
  rw[he];rfl
 |m+1,a,0,hf,_,_=>absurd hf (oP _)
 |m+1,a,fuel+1,hf,hs,he=>by
  refine xA (hs a (bP _) (oC (gB _))) λh1 h2=> ?_
  show(match tst (f a)with| .ok true=>(match body (f a)with| .next ρ' =>dC tst body fuel ρ'| .brk ρ' => .next ρ'| .ret v=> .ret v|_=> .stuck)| .ok false=>aB.next (f a)|_=> .stuck)=_
  rw[h1]
  show(match body (f a)with| .next ρ' =>dC tst body fuel ρ'| .brk ρ' => .next ρ'| .ret v=> .ret v|_=> .stuck)=_
  rw[h2]
  show dC tst body fuel (f (a+1))=_
  have e:a+(m+1)=(a+1)+m:=gX a m 1
  rw[e]at he ⊢
  exact nV f m (a+1) fuel (Pw hf) (λi h1 h2=>hs i (aj (bf _ _) ‹_›) (Nat.lt_of_lt_of_eq h2 e.symm)) he
theorem By{tst:ak->Res Bool}{body:ak->aB}{fuel:Nat}(h1:tst ρ= .ok true)(h2:body ρ= .next ρ')(h:dC tst body fuel ρ' =o):dC tst body (fuel+1) ρ=o:=by
 show(match tst ρ with| .ok true=>(match body ρ with| .next ρ' =>dC tst body fuel ρ'| .brk ρ' => .next ρ'| .ret v=> .ret v|_=> .stuck)| .ok false=>aB.next ρ|_=> .stuck)=_
 rw[h1]
 rw[h2];exact h
theorem Mz{tst:ak->Res Bool}{body:ak->aB}{fuel:Nat}(h1:tst ρ= .ok false):dC tst body (fuel+1) ρ= .next ρ:=by
 show(match tst ρ with| .ok true=>_| .ok false=>aB.next ρ|_=> .stuck)=_
 rw[h1]
theorem MA{tst:ak->Res Bool}{body:ak->aB}{fuel:Nat}(h1:tst ρ= .ok true)(h2:body ρ= .brk ρ'):dC tst body (fuel+1) ρ= .next ρ':=by
 show(match tst ρ with| .ok true=>(match body ρ with| .next ρ' =>dC tst body fuel ρ'| .brk ρ' => .next ρ'| .ret v=> .ret v|_=> .stuck)| .ok false=>aB.next ρ|_=> .stuck)=_
 rw[h1]
 rw[h2]
theorem MB{tst:ak->Res Bool}{body:ak->aB}{fuel:Nat}{v:PV}(h1:tst ρ= .ok true)(h2:body ρ= .ret v):dC tst body (fuel+1) ρ= .ret v:=by
 show(match tst ρ with| .ok true=>(match body ρ with| .next ρ' =>dC tst body fuel ρ'| .brk ρ' => .next ρ'| .ret v=> .ret v|_=> .stuck)| .ok false=>aB.next ρ|_=> .stuck)=_
 rw[h1]
 rw[h2]
theorem jY{t b e p c r}(ht:(pE C g 24).tst sc t ρ= .ok c)(hc:c=true)(hb:aw (pX C g k sc) b ρ= .next ρ')(hr:aw (pX C g (k+1) sc) r ρ' =o):aw (pX C g (k+1) sc) (.If t b e p::r) ρ=o:=aP (k8 ht hc hb) hr
theorem br{t b e p c r}(ht:(pE C g 24).tst sc t ρ= .ok c)(hc:c=false)(hb:aw (pX C g k sc) e ρ= .next ρ')(hr:aw (pX C g (k+1) sc) r ρ' =o):aw (pX C g (k+1) sc) (.If t b e p::r) ρ=o:=aP (jW ht hc hb) hr
theorem la{t b e p c r}(ht:(pE C g 24).tst sc t ρ= .ok c)(hc:c=true)(hb:aw (pX C g k sc) b ρ=o)(hs:o.stops=true):aw (pX C g (k+1) sc) (.If t b e p::r) ρ=o:=aD (k8 ht hc hb) hs
theorem MC{t b e p c r}(ht:(pE C g 24).tst sc t ρ= .ok c)(hc:c=false)(hb:aw (pX C g k sc) e ρ=o)(hs:o.stops=true):aw (pX C g (k+1) sc) (.If t b e p::r) ρ=o:=aD (jW ht hc hb) hs
inductive dt(tst:ak->Res Bool)(body:ak->aB)(I:Nat->ak->Prop)(Post:ak->Prop)(o:aB)(n:Nat)(ρ:ak):Prop
 |stop (h:tst ρ= .ok false) (hp:Post ρ)
 |next (ρ':ak) (h:tst ρ= .ok true) (hb:body ρ= .next ρ') (n':Nat) (hn:n'<n) (hi:I n' ρ')
 |brk (ρ':ak) (h:tst ρ= .ok true) (hb:body ρ= .brk ρ') (hp:Post ρ')
 |ret (v:PV) (h:tst ρ= .ok true) (hb:body ρ= .ret v) (ho:o= .ret v)
theorem dt.test{tst:ak->Res Bool}{body:ak->aB}{I:Nat->ak->Prop}{Post:ak->Prop}{n:Nat}{b:Bool}(ht:tst ρ= .ok b)(hs:dt (λø=> .ok b) body I Post o n ρ):dt tst body I Post o n ρ:=by
 cases hs with
 |stop h hp=>exact .stop (ht.trans h) hp
 |next ρ' h hb n' hn hi=>exact .next ρ' (ht.trans h) hb n' hn hi
 |brk ρ' h hb hi=>exact .brk ρ' (ht.trans h) hb hi
 |ret v h hb ho=>exact .ret v (ht.trans h) hb ho
theorem dt.pre{tst:ak->Res Bool}{body:ak->aB}{I:Nat->ak->Prop}{Post:ak->Prop}{n:Nat}{ρ3:ak}{rest:List aC}(ht:tst ρ= .ok true)(hp:∀o',aw ex rest ρ3=o'->body ρ=o')(hs:dt (λø=> .ok true) (λø=>aw ex rest ρ3) I Post o n ρ):dt tst body I Post o n ρ:=by
 cases hs with
 |stop h=>cases h
 |next ρ' h hb n' hn hi=>exact .next ρ' ht (hp _ hb) n' hn hi
 |brk ρ' h hb hi=>exact .brk ρ' ht (hp _ hb) hi
 |ret v h hb ho=>exact .ret v ht (hp _ hb) ho
theorem Bz{tst:ak->Res Bool}{body:ak->aB}{I:Nat->ak->Prop}{Post:ak->Prop}(step:∀n ρ,I n ρ->dt tst body I Post o n ρ):∀fuel n ρ,n<fuel->I n ρ->(∃ρ',dC tst body fuel ρ= .next ρ'/\ Post ρ') \/∃v,dC tst body fuel ρ= .ret v/\ o= .ret v
 |0,n,_,hn,_=>absurd hn (oP _)
 |fuel+1,n,ρ,hn,hi=>by
  rcases step n ρ hi with ⟨h,hp⟩|⟨ρ',h,hb,n',hn',hi'⟩|⟨ρ',h,hb,hp⟩|⟨v,h,hb,ho⟩
  ·exact .inl ⟨ρ,Mz h,hp⟩
  ·rcases Bz step fuel n' ρ' (di hn' (vN hn)) hi' with ⟨ρ2,e,hp⟩|⟨v,e,ho⟩
   ·exact .inl ⟨ρ2,By h hb e,hp⟩
   ·exact .inr ⟨v,By h hb e,ho⟩
  ·exact .inl ⟨ρ',MA h hb,hp⟩
  ·exact .inr ⟨v,MB h hb,ho⟩
theorem uK{t b p r}(I:Nat->ak->Prop)(Post:ak->Prop)(n:Nat)(hn:n<100)(h0:I n ρ)(step:∀n ρ,I n ρ->dt ((pE C g 24).tst sc t) (aw (pX C g k sc) b) I Post o n ρ)(hr:∀ρ',Post ρ'->aw (pX C g (k+1) sc) r ρ' =o):aw (pX C g (k+1) sc) (.While t b [] p::r) ρ=o:=by
 rcases Bz step jK n ρ hn h0 with ⟨ρ',e,hp⟩|⟨v,e,ho⟩
 ·exact aP (ml e) (hr ρ' hp)
 ·rw[ho];exact aD (ml e) rfl
theorem ei{tst:Res Bool}{b c:Bool}(h:tst= .ok b)(hb:b=c):tst= .ok c:=hb▸h
theorem lb{t b o p c v}(ht:(pE C g n).tst sc t ρ= .ok c)(hc:c=true)(h1:(pE C g n).ev sc b ρ= .ok v):(pE C g (n+1)).ev sc (.IfExp t b o p) ρ= .ok v:=Bm ht (λø=>h1) λq=>by rw[hc]at q;cases q
theorem lc{t b o p c v}(ht:(pE C g n).tst sc t ρ= .ok c)(hc:c=false)(h1:(pE C g n).ev sc o ρ= .ok v):(pE C g (n+1)).ev sc (.IfExp t b o p) ρ= .ok v:=Bm ht (λq=>by rw[hc]at q;cases q) λø=>h1
theorem jk{ev:Res PV}{v w:PV}(h:ev= .ok v)(hv:v=w):ev= .ok w:=hv▸h
theorem QW{body:ak->aB}{x:Str}:db body x [] ρ= .next ρ:=rfl
theorem BA{body:ak->aB}{x:Str}{v:PV}{r:List PV}{ρ1:ak}(hs:aQ x v ρ=ρ1)(h1:body ρ1= .next ρ')(h:db body x r ρ' =o):db body x (v::r) ρ=o:=by
 show(match body (aQ x v ρ)with| .next ρ' =>db body x r ρ'| .ret v=> .ret v| .exc c _=> .held c|_=> .stuck)=_
 rw[hs,h1];exact h
theorem MD{body:ak->aB}{x:Str}{v:PV}{r:List PV}{ρ1:ak}{c:XC}(hs:aQ x v ρ=ρ1)(h1:body ρ1= .exc c ρ'):db body x (v::r) ρ= .held c:=by
 show(match body (aQ x v ρ)with| .next ρ' =>db body x r ρ'| .ret v=> .ret v| .exc c _=> .held c|_=> .stuck)=_
 rw[hs,h1]
end
theorem mn{x:Str}{v:PV}{r:ak}:((x,v)::r:ak).lookup x=some v:=by rw[ch,beq_self_eq_true]
theorem qu{x y:Str}{v:PV}{w:Option PV}{r:ak}(h:(x==y)=false)(h':r.lookup x=w):((y,v)::r:ak).lookup x=w:=by rw[ch,h];exact h'
theorem QX{x:Str}:([]:ak).lookup x=none:=rfl
theorem qv{x:Str}{v w:PV}{r:ak}:aQ x v ((x,w)::r)=(x,v)::r:=by
 show(if x=x then _ else _)=_
 rw[if_pos rfl]
theorem qw{x y:Str}{v w:PV}{r r':ak}(h:(y==x)=false)(h':aQ x v r=r'):aQ x v ((y,w)::r)=(y,w)::r':=by
 show(if y=x then _ else(y,w)::aQ x v r)=_
 rw[if_neg (λq=>by rw[q,beq_self_eq_true]at h;exact kA h),h']
theorem ME{x:Str}{v:PV}:aQ x v []=[(x,v)]:=rfl
theorem jZ{x y:Str}{v:PV}{w:Option PV}{r:ak}(h:(x==y)=false)(h':r.lookup x=w):(aQ y v r).lookup x=w:=by rw[gd,if_neg (beq_eq_false_iff_ne.mp h),h']
theorem QY{x:Str}{v:PV}{r:ak}:(aQ x v r).lookup x=some v:=by rw[gd,if_pos rfl]
theorem MF{x:Str}{v w:PV}:∀{r:ak},aQ x v (aQ x w r)=aQ x v r
 |[]=>qv
 |(y,u)::r=>by
  show aQ x v (if y=x then(y,w)::r else(y,u)::aQ x w r)=if y=x then(y,v)::r else(y,u)::aQ x v r
  by_cases q:y=x
  ·rw[if_pos q,if_pos q,q];exact qv
  ·rw[if_neg q,if_neg q]
   exact qw (beq_eq_false_iff_ne.mpr q) MF
theorem du{C:Calls}{gen:Bool}{st:aC}{args:List PV}{v:PV}{names:List Str}(hn:au st=names)(hl:args.length=names.length)(h:aw (pX C gen 12 (ck st)) (aT st) (names.zip args)= .ret v):aO C gen st args= .ok v:=by
 unfold aO
 rw[hn,if_pos hl,h];rfl
theorem mo{C:Calls}{gen:Bool}{st:aC}{args:List PV}{o:aB}{names:List Str}(hn:au st=names)(hl:args.length=names.length)(h:aw (pX C gen 12 (ck st)) (aT st) (names.zip args)=o):aO C gen st args=jP o:=by
 unfold aO
 rw[hn,if_pos hl,h]
end
end
section
section
variable{C:Calls}{g:Bool}{k:Nat}{sc:Scope}{ρ:ak}{o:aB}
theorem cm{t b e p c r}(ht:(pE C g 24).tst sc t ρ= .ok c)(hc:c=true)(hs:o.stops=true)(hb:aw (pX C g k sc) b ρ=o):aw (pX C g (k+1) sc) (.If t b e p::r) ρ=o:=la ht hc hb hs
theorem BB{t b e p c r}(ht:(pE C g 24).tst sc t ρ= .ok c)(hc:c=false)(hs:o.stops=true)(hb:aw (pX C g k sc) e ρ=o):aw (pX C g (k+1) sc) (.If t b e p::r) ρ=o:=MC ht hc hb hs
end
theorem QZ{ev:ai->ak->Res PV}{ρ:ak}{x k p y}(h:ao x=y)(hl:dh (ao x).length 60000=true):gL ev (.Constant (.str x) k p) ρ= .ok (.str y):=by
 rw[<-h]
 exact if_pos (bz hl)
theorem Q0{ev:ai->ak->Res PV}{ρ:ak}{e p v w}(h:ev e ρ= .ok v)(hv:e6 v= .ok w):gL ev (.FormattedValue e (-1) none p) ρ= .ok w:=by
 show(ev e ρ).bind e6=_
 rw[h];exact hv
theorem Q1:ao (aa "[")=[91]:=by decide+kernel
theorem Q2:ao (aa "]")=[93]:=by decide+kernel
theorem Q3:ao (aa "[]")=[91,93]:=by decide+kernel
theorem Q4:ao (aa "()")=[40,41]:=by decide+kernel
theorem BC{b:Bool}:ee (.bool b)=some b:=rfl
theorem Q5:ao (aa "0")=[48]:=by decide+kernel
theorem Q6:ao (aa "x")=[120]:=by decide+kernel
theorem Q7:ao (aa "")=[]:=by decide+kernel
noncomputable abbrev Sm(x:List Nat):Prop:=x.length<=100
theorem dJ:100000<=aX:=by rw[gt];decide
theorem mq{α:Type}(xs:List α)(k:Nat)(h:k<=1000):i3 xs (k:Int)=xs[k]? :=by
 have:=dJ
 unfold i3
 rw[if_pos ⟨kh _,kg.mpr (aj (aL (c:=100000) h (by rfl)) this)⟩];rfl
section
variable{C:Calls}{x y:List Nat}{a b k:Nat}{c:Nat}
theorem cH:bJ .Add (.int (k:Int)) (.int 1)=some (.int ((k+1:Nat):Int)):=rfl
theorem j0:bJ .Add (.int (k:Int)) (.int 2)=some (.int ((k+2:Nat):Int)):=rfl
theorem fJ(h:Sm x):da (aa "len") [.str x]=some (.int (x.length:Nat)):=by
 have:=dJ
 rw[qg]
 exact if_pos (by unfold Sm at h;exact aL ‹_› (by rfl))
theorem jn:bn C .Lt (.int (a:Int)) (.int (b:Int))= .ok (decide (a<b)):=by
 show Res.ok (decide ((a:Int)<(b:Int)))=_
 rw[decide_eq_decide.mpr mF]
theorem lf:bn C .Eq (.int (a:Int)) (.int (b:Int))= .ok (a==b):=by
 show Res.ok ((a:Int)==(b:Int))=_
 congr 1
 by_cases h:a=b
 ·subst h;simp
 ·rw[beq_eq_false_iff_ne.mpr h,beq_eq_false_iff_ne];exact λq=>h (vZ q)
theorem qy(h:a<=1000):gr (.int (a:Int))=some (some a):=by
 have:=dJ
 show(if(0:Int)<=(a:Int)/\ (a:Int)<=aX then some (some (a:Int).toNat)else none)=_
 rw[if_pos ⟨kh _,kg.mpr (aj (aL (c:=100000) h (by rfl)) this)⟩];rfl
theorem ej(h:Sm x)(ha:a<=1000)(hb:b<=1000):gJ (.str x) (.int (a:Int)) (.int (b:Int))=some (.str ((x.take b).drop a)):=by
 have:=dJ
 show((gr (.int (a:Int))).bind λl=>(gr (.int (b:Int))).bind λu=>if x.length<=aX then some (PV.str (fY x l u))else none)=_
 rw[qy ha,qy hb]
 exact if_pos (aj (aL (c:=100000) h (by rfl)) this)
theorem qz(h:Sm x)(ha:a<=1000):gJ (.str x) (.int (a:Int)) .none=some (.str (x.drop a)):=by
 have:=dJ
 show((gr (.int (a:Int))).bind λl=>(gr .none).bind λu=>if x.length<=aX then some (PV.str (fY x l u))else none)=_
 rw[qy ha]
 exact if_pos (aj (aL (c:=100000) h (by rfl)) this)
theorem mr(h:Sm x)(hb:b<=1000):gJ (.str x) .none (.int (b:Int))=some (.str (x.take b)):=by
 have:=dJ
 show((gr .none).bind λl=>(gr (.int (b:Int))).bind λu=>if x.length<=aX then some (PV.str (fY x l u))else none)=_
 rw[qy hb]
 exact if_pos (aj (aL (c:=100000) h (by rfl)) this)
theorem iL(ha:a<=1000)(h:x[a]? =some c):fu (.str x) (.int (a:Int))=some (.str [c]):=by
 have:=dJ
 show(if(0:Int)<=(a:Int)/\ (a:Int)<=aX then x[(a:Int).toNat]?.map λc=>PV.str [c]else none)=_
 rw[if_pos ⟨kh _,kg.mpr (aj (aL (c:=100000) ha (by rfl)) this)⟩,show(a:Int).toNat=a from rfl,h];rfl
noncomputable def aK(c:Nat):Bool:=(65<=c&&c<=90)||(97<=c&&c<=122)
theorem nW(c:Nat):∀y:List Nat,ci [c] y=y.contains c
 |[]=>rfl
 |d::r=>by
  show([c].isPrefixOf (d::r)||ci [c] r)=_
  rw[nW c r,List.contains_cons]
  simp[List.isPrefixOf]
theorem BE(c:Nat):ci [c] gw=bc c:=by
 rw[nW,show gw=[48,49,50,51,52,53,54,55,56,57] by decide+kernel]
 by_cases h:c<58
 ·exact(by decide:∀c,c<58->[48,49,50,51,52,53,54,55,56,57].contains c=bc c) c h
 ·have h1:bc c=false:=by
   unfold bc
   rw[decide_eq_false (p:=c<=57) (λq=>h (rt q)),kr]
  rw[h1,<-mO,rU]
  exact λhm=>h ((by decide:∀x∈[48,49,50,51,52,53,54,55,56,57],x<58) c hm)
theorem MG(c:Nat):ci [c] jU=aK c:=by
 rw[nW]
 by_cases h:c<123
 ·exact(by decide+kernel:∀c,c<123->jU.contains c=aK c) c h
 ·have h1:aK c=false:=by
   unfold aK
   rw[decide_eq_false (p:=c<=90) (λq=>h (bU q (by decide))),decide_eq_false (p:=c<=122) (λq=>h (rt q)),kr,kr];rfl
  rw[h1,<-mO,rU]
  exact λhm=>h ((by decide+kernel:∀x∈jU,x<123) c hm)
theorem BF:bn C .In (.str [c]) (.str gw)= .ok (bc c):=by
 show Res.ok (ci [c] gw)=_
 rw[BE]
theorem qA:bn C .In (.str [c]) (.str jU)= .ok (aK c):=by
 show Res.ok (ci [c] jU)=_
 rw[MG]
theorem MH(h:(x.all bc&& !x.isEmpty&&decide (x.length<=300))=true):da (aa "int") [.str x]=some (.int (aM x)):=by
 rw[Lk]
 exact if_pos h
theorem bj:bn C .Eq (.str x) (.str y)= .ok (x==y):=rfl
theorem fK:bn C .NotEq (.str x) (.str y)= .ok (x !=y):=rfl
end
noncomputable def cA(r:List Nat):Option (List Nat×List Nat):=
 let d:=r.takeWhile bc
 if d=[] \/d.head? =some 48 then none else some (d,r.dropWhile bc)
noncomputable def dK(x r:List Nat):PV:= .int ((x.length-r.length:Nat):Int)
theorem qB{f:Nat->Bool}{x:List Nat}{p k:Nat}(hk:k=((x.drop p).takeWhile f).length):(x.take (p+k)).drop p=(x.drop p).takeWhile f/\ x.drop (p+k)=(x.drop p).dropWhile f:=by
 have h:(x.drop p).takeWhile f++(x.drop p).dropWhile f=x.drop p:=mR
 constructor
 ·rw[Dj,PJ]
  conv=>lhs;rw[<-h]
  rw[hk,List.take_left'];rfl
 ·rw[<-kt]
  conv=>lhs;rw[<-h]
  rw[hk,List.drop_left'];rfl
theorem nY{f:Nat->Bool}{x:List Nat}{p i:Nat}(h1:p<=i)(h2:i<p+((x.drop p).takeWhile f).length):∃c,x[i]? =some c/\ f c=true:=by
 have hlt:i-p<((x.drop p).takeWhile f).length:=Nat.sub_lt_left_of_lt_add h1 h2
 have e:((x.drop p).takeWhile f)[i-p]? =x[i]? :=by
  have h:(x.drop p).takeWhile f++(x.drop p).dropWhile f=x.drop p:=mR
  have:(x.drop p)[i-p]? =x[i]? :=by rw[PK];congr 1;exact Ec ‹_›
  rw[<-this]
  conv=>rhs;rw[<-h]
  rw[PL hlt]
 refine⟨((x.drop p).takeWhile f)[i-p],by rw[<-e];exact fV hlt,?_⟩
 exact ba.mp mS _ (rQ hlt)
theorem qC{f:Nat->Bool}{x:List Nat}{p c:Nat}(h:x[p+((x.drop p).takeWhile f).length]? =some c):f c=false:=by
 have e:=(qB (f:=f) (x:=x) (p:=p) rfl).2
 have:(x.drop (p+((x.drop p).takeWhile f).length))[0]? =some c:=by rw[PK];exact h
 rw[e]at this
 cases q:(x.drop p).dropWhile f with
 |nil=>rw[q]at this;exact am this
 |cons d r=>
  rw[q]at this;obtain rfl:=aq this
  have:=List.head_dropWhile_not (p:=f) (l:=x.drop p) (by rw[q];simp)
  simpa[q] using this
section
open Lean
 def tq(s:String)(r:TSyntax `tactic):MacroM (TSyntax `tactic):=do
 let k<- `(tactic|skip)
 let mut r:=r
 let mut t:=k
 for w in (s.splitOn "/").reverse do
  let b<-match w with
   | "k" => `(tactic|kernel_rfl)
   | "d" => `(tactic|kernel_rfl!)
   | "l" => `(tactic|tb_start)
   | "s" => `(tactic|kst_p)
   | "q" => `(tactic|kpf_c)
   | "a" => `(tactic|first|assumption|rfl)
   |_=> `(tactic|with_reducible apply $(mkIdent (.mkSimple w)))
  t<- `(tactic|($b:tactic; $t))
  if w.length>1 then
   r<- `(tactic|first| $t:tactic| $r:tactic)
   t:=k
 return r
 def tqf(s:String)(r:TSyntax `tactic):MacroM (TSyntax `tactic):=do
 let t<-tq s r
 `(tactic|(focus ((repeat $t:tactic);done)))
end
end
local macro_rules | `(tactic| tb_start) => do tqf "mn/QX/qu/k/QY/jZ/k" (<- `(tactic|assumption))
local macro_rules | `(tactic| lcg_sub) => do tqf "qv/ME/qw/k/MF" (<- `(tactic|exact rfl))
local macro_rules | `(tactic| kst_p) => do tq "Q1/Q2/Q7/H8/H9/y8/Q5/Q6/Q3/Q4" (<- `(tactic|rfl))
local macro_rules | `(tactic| kpf_c) => do tq "Qq/l/k/Qp/s" (<- `(tactic|fail))
local macro_rules | `(tactic| tb_rel) => do tq "Qs/Qt/Qn/Qo/Bk/Qy/Qp/s/Qq/l/k/Qr/l/k/k/a/Qu/k/Qv/k/Qw/QA/jV/Mr/k/Qz/k/QD/QE/QF/QG/k/QL/d/k/QK/d/k/l/QJ/d/k/l/l/QI/k/l/d/QH/k/l/d/QM/d/q/QO/k/d/QP/k/d/QN/d/BC/QS/k/Q0/QZ/s/k/Qx/QT/nU/gh/QU/k/Bq/kZ/iJ/Ms/mi/Bl" (<- `(tactic|intro _))
section
variable{C:Calls}{x:List Nat}{p:Nat}
noncomputable def dL(x r:List Nat):PV:=match cA r with
 |none=> .none
 |some (d,r')=> .tuple [.int (aM d),dK x r']
noncomputable abbrev Q8:Str:=aa "text"
noncomputable abbrev Q9:Str:=aa "place"
noncomputable abbrev Ra:Str:=aa "end"
theorem MI(hg:C.glob (aa "_DIGITS")=some (.str gw)) (hx:x.length<=90) (hp:p<=x.length):aO C false (ag 6) [.str x, .int (p:Int)]= .ok (dL x (x.drop p)):=by
 have hS:Sm x:=by unfold Sm;exact aL ‹_› (by rfl)
 refine du (names:=[aa "text",aa "place"]) (by kernel_rfl) rfl ?_
 show aw _ _ [(aa "text", .str x),(aa "place", .int (p:Int))]=_
 (conv=>lhs;arg 2;whnf)
 (apply aP;(focus (apply bg;kernel_rfl;(focus ((repeat' first|tb_rel);done));lcg_sub)))
 obtain⟨m,hm⟩:∃m,m=((x.drop p).takeWhile bc).length:=⟨_,rfl⟩
 have hml:p+m<=x.length:=by
  have:=(o0 (p:=bc) (l:=x.drop p)).length_le
  rw[eu]at this;exact mY hp hm this
 have hrest:=qB (f:=bc) hm
 apply aP;focus refine ml (nV (λk=>[(aa "text", .str x),(aa "place", .int (p:Int)),(aa "end", .int (k:Int))]) m p _ (by unfold jK;exact bU (aj (bV _ _) hml) (fo hx (by rfl))) (λi h1 h2=> ?_) ?_)
 ·refine ay (nY (f:=bc) h1 (hm▸h2)) λc hc hf=> ?_
  refine⟨ku (b:=Res.ok (decide (i<x.length)&&bc c)) ?_ (by rw[hf,decide_eq_true (di ‹_› ‹_›)];rfl),?_⟩
  ·(repeat' first|tb_rel|exact fJ hS|exact jn|exact iL (bX (aj (dz h2) hml) hx (by rfl)) hc|exact BF)
  ·(apply aP;(focus (apply qr;tb_start;(focus ((repeat' first|tb_rel);done));(focus (first|exact cH|exact j0|exact rfl));lcg_sub)))
   exact aS
 ·by_cases hend:p+m<x.length
  ·have hc:=fV hend
   have hf:=qC (f:=bc) (x:=x) (p:=p) (by rw[<-hm];exact hc)
   refine ku (b:=Res.ok (decide (p+m<x.length)&&bc x[p+m])) ?_ (by rw[hf,kr])
   (repeat' first|tb_rel|exact fJ hS|exact jn|exact iL (bX ‹_› ‹_› (by rfl)) hc|exact BF)
  ·refine ku (b:=Res.ok (decide (p+m<x.length)&&false)) ?_ (by rw[kr])
   refine gh (kZ (nU ?_) λq=>absurd (of_decide_eq_true q) hend)
   (repeat' first|tb_rel|exact fJ hS|exact jn)
 by_cases h0:m=0
 ·have hd:(x.drop p).takeWhile bc=[]:=oR (hm▸h0)
  have hv:dL x (x.drop p)= .none:=by unfold dL cA;simp only[hd];rfl
  rw[hv]
  refine aD (k8 (c:=(p+m==p)||false) (gh (iJ (nU ?_) λq=> ?_)) (by simp[h0]) ?_) rfl
  ·(repeat' first|tb_rel|exact lf)
  ·exact absurd q (by simp[h0])
  ·(refine aD ?_ rfl;apply a6;(focus ((repeat' first|tb_rel);done)))
   rfl
 ·refine ay (nY (f:=bc) (x:=x) (p:=p) (bP p) (oC (C2 (hm▸h0)))) λc hc hf=> ?_
  have hlt:p<x.length:=(v4.mp hc).1
  have hcons:x.drop p=c::x.drop (p+1):=by
   rw[wm hlt]
   congr 1
   rw[fV hlt]at hc;exact vR hc
  have hd:(x.drop p).takeWhile bc=c::(x.drop (p+1)).takeWhile bc:=by rw[hcons,List.takeWhile_cons,if_pos hf]
  have ht:(pE C false 24).tst (ck (ag 6))=(pE C false 24).tst (ck (ag 6)):=rfl
  by_cases hz:c=48
  ·have hv:dL x (x.drop p)= .none:=by unfold dL cA;simp only[hd,hz];simp
   rw[hv]
   refine aD (k8 (c:=(p+m==p)||([c]==[48])) ?_ (by simp[hz]) ?_) rfl
   ·(repeat' first|tb_rel|exact lf|exact iL (bX ‹_› ‹_› (by rfl)) hc|exact bj)
   ·(refine aD ?_ rfl;apply a6;(focus ((repeat' first|tb_rel);done)))
    rfl
  ·have hv:dL x (x.drop p)= .tuple [.int (aM ((x.drop p).takeWhile bc)), .int ((p+m:Nat):Int)]:=by
    unfold dL cA
    simp only
    rw[if_neg (by rw[hd];simp[hz])]
    show PV.tuple [_,dK x ((x.drop p).dropWhile bc)]=_
    unfold dK
    rw[<-hrest.2,eu]
    congr 4
    exact congrArg _ (v5 hml)
   rw[hv,<-hrest.1]
   refine aP (jW (c:=(p+m==p)||([c]==[48])) ?_ (by simp[hz,h0]) aS) ?_
   ·(repeat' first|tb_rel|exact lf|exact iL (bX ‹_› ‹_› (by rfl)) hc|exact bj)
   ·(refine aD ?_ rfl;apply a6;(focus ((repeat' first|tb_rel|exact ej hS (bX hp hx (by rfl)) (bX hml hx (by rfl))|exact MH (by rw[hrest.1,hd];simp[hf];have:=(o0 (p:=bc) (l:=x.drop (p+1))).length_le;rw[eu]at this;exact bX (aj this (cM _ _)) hx (by rfl)));done)))
    rfl
end
section
noncomputable abbrev aF:=Option (List Nat)
noncomputable def aV:aF->PV
 |none=> .tuple []
 |some d=> .tuple [.int (aM d)]
noncomputable def bN(ds:List aF):PV:=if ds=[]then .none else .tuple (ds.map aV)
inductive bh where
 |none
 |one (a:List Nat)
 |two (a b:List Nat)
noncomputable def cJ:bh->PV
 | .none=> .none
 | .one a=> .int (aM a)
 | .two a b=> .tuple [.int (aM a), .int (aM b)]
noncomputable def arr:Nat->List Nat->List aF×List Nat
 |0,r=>([],r)
 |n+1,r=>if r.take 1=[91]then(if r.take 2=[91,93]then(none::(arr n (r.drop 2)).1,(arr n (r.drop 2)).2)else match cA (r.drop 1)with
  |some (d,r')=>if r'.take 1=[93]then(some d::(arr n (r'.drop 1)).1,(arr n (r'.drop 1)).2)else([],r)
  |none=>([],r))else([],r)
noncomputable def b0(r:List Nat):bh×List Nat:=match cA r with
 |none=>(.none,r)
 |some (a,r1)=>if r1.take 1=[120]then(match cA (r1.drop 1)with|some (b,r2)=>(.two a b,r2)|none=>(.one a,r1))else(.one a,r1)
theorem nZ{r d r':List Nat}(h:cA r=some (d,r')):r=d++r'/\ d≠[]:=by
 unfold cA at h
 simp only at h
 split at h
 ·exact am h
 ·rename_i hn
  cases aq h
  exact⟨mR.symm,λq=>hn (.inl q)⟩
theorem qD{x r d r':List Nat}{p:Nat}(hr:x.drop p=r)(h:r=d++r')(hp:p<=x.length):p+d.length<=x.length/\ x.drop (p+d.length)=r'/\ dK x r' = .int ((p+d.length:Nat):Int):=by
 have h1:r.length=x.length-p:=by rw[<-hr,eu]
 have h2:r.length=d.length+r'.length:=by rw[h,cC]
 refine⟨mY hp rfl (aj (bf _ _) (bG (h2.symm.trans h1))),?_,?_⟩
 ·rw[<-kt,hr,h,List.drop_left]
 ·unfold dK
  congr 2
  exact Ep hp (h1.symm.trans h2)
theorem BG{x d r':List Nat}{p:Nat}(h:cA (x.drop p)=some (d,r'))(hp:p<=x.length):∃p',p<p'/\ p'<=x.length/\ x.drop p' =r'/\ dK x r' = .int (p':Int):=by
 refine xA (nZ h) λh1 h2=> ?_
 refine bM (qD rfl h1 hp) λh3 h4 h5=> ?_
 exact⟨_,oC (DN.mpr h2),h3,h4,h5⟩
theorem fL{x:List Nat}{p k:Nat}:(x.take (p+k)).drop p=(x.drop p).take k:=by rw[Dj,PJ]
theorem Rb:aV none= .tuple []:=rfl
section
variable{C:Calls}{x:List Nat}{p:Nat}{a b:PV}{xs ys:List PV}
theorem n5:fu (.tuple [a,b]) (.int 0)=some a:=by
 exact mq _ 0 (by decide)
theorem gy:fu (.tuple [a,b]) (.int 1)=some b:=by
 exact mq _ 1 (by decide)
theorem cX{v:PV}:bn C .Is v .none= .ok (match v with| .none=>true|_=>false):=by cases v<;>rfl
theorem iM{v:PV}:bn C .IsNot v .none= .ok (match v with| .none=>false|_=>true):=by cases v<;>rfl
theorem uL(h:xs.length+ys.length<=1000):bJ .Add (.tuple xs) (.tuple ys)=some (.tuple (xs++ys)):=if_pos (show xs.length+ys.length<=aX by have:=dJ;exact aL ‹_› (by rfl))
theorem qE(h:xs.length<=1000):ee (.tuple xs)=some (!xs.isEmpty):=if_pos (by have:=dJ;exact aL ‹_› (by rfl))
theorem MJ:da (aa "tuple") []=some (.tuple []):=by kernel_rfl
noncomputable abbrev Rc:Str:=aa "arrlist"
noncomputable abbrev Re:Str:=aa "size"
theorem MK(hD:∀q,q<=x.length->C.fn (aa "_parse_digits") [.str x, .int (q:Int)]= .ok (dL x (x.drop q))) (hx:x.length<=90) (hp:p<=x.length):aO C false (ag 8) [.str x, .int (p:Int)]= .ok (.tuple [cJ (b0 (x.drop p)).1,dK x (b0 (x.drop p)).2]):=by
 have hS:Sm x:=by unfold Sm;exact aL ‹_› (by rfl)
 refine du (names:=[aa "text",aa "place"]) (by kernel_rfl) rfl ?_
 show aw _ _ [(aa "text", .str x),(aa "place", .int (p:Int))]=_
 (conv=>lhs;arg 2;whnf)
 have h1:=hD p hp
 cases e1:cA (x.drop p)with
 |none=>
  have hv:(b0 (x.drop p))=(.none,x.drop p):=by unfold b0;rw[e1]
  have hd:dL x (x.drop p)= .none:=by unfold dL;rw[e1]
  have hpl:dK x (x.drop p)= .int (p:Int):=by unfold dK;rw[eu];congr 2;exact v5 hp
  rw[hd]at h1
  rw[hv]
  (apply aP;(focus (apply bg;kernel_rfl;(focus ((repeat' first|tb_rel|exact h1);done));lcg_sub)))
  (apply cm;(focus ((repeat' first|tb_rel|exact cX);done));(focus (rfl;done));(focus (exact rfl)))
  (refine aD ?_ rfl;apply a6;(focus ((repeat' first|tb_rel);done)))
  rw[hpl];rfl
 |some q=>
  obtain⟨a,r1⟩:=q
  refine wL (BG e1 hp) λp1 g1 g2 g3 g4=> ?_
  have hd:dL x (x.drop p)= .tuple [.int (aM a), .int (p1:Int)]:=by unfold dL;rw[e1,<-g4]
  rw[hd]at h1
  (apply aP;(focus (apply bg;kernel_rfl;(focus ((repeat' first|tb_rel|exact h1);done));lcg_sub)))
  (apply br;(focus ((repeat' first|tb_rel|exact cX);done));(focus (rfl;done));(focus (exact aS)))
  have hsp:b0 (x.drop p)=(if r1.take 1=[120]then(match cA (r1.drop 1)with|some (b,r2)=>(.two a b,r2)|none=>(.one a,r1))else(.one a,r1)):=by unfold b0;rw[e1]
  by_cases hx1:r1.take 1=[120]
  ·rw[if_pos hx1]at hsp
   have hp1:p1+1<=x.length:=by
    have:(r1.take 1).length=1:=by rw[hx1];rfl
    rw[<-g3,jw,eu]at this;exact w5 g2 this
   have h2:=hD (p1+1) hp1
   have hdr:x.drop (p1+1)=r1.drop 1:=by rw[<-kt,g3]
   rw[hdr]at h2
   cases e2:cA (r1.drop 1)with
   |none=>
    have hv:(b0 (x.drop p))=(.one a,r1):=by rw[hsp,e2]
    have hd2:dL x (r1.drop 1)= .none:=by unfold dL;rw[e2]
    rw[hd2]at h2
    (apply jY;(focus ((repeat' first|tb_rel|exact gy|exact cH|exact ej hS (eY hp1 hx (by rfl)) (bX hp1 hx (by rfl))|(rw[fL,g3];exact bj));done));(focus (exact beq_iff_eq.mpr hx1;done)))
    ·(apply aP;(focus (apply bg;kernel_rfl;(focus ((repeat' first|tb_rel|exact gy|exact cH|exact h2);done));lcg_sub)))
     (apply br;(focus ((repeat' first|tb_rel|exact iM);done));(focus (rfl;done));(focus (exact aS)))
     exact aS
    ·(refine aD ?_ rfl;apply a6;(focus ((repeat' first|tb_rel);done)))
     rw[hv,<-g4];rfl
   |some q=>
    obtain⟨b,r2⟩:=q
    have hv:(b0 (x.drop p))=(.two a b,r2):=by rw[hsp,e2]
    have hd2:dL x (r1.drop 1)= .tuple [.int (aM b),dK x r2]:=by unfold dL;rw[e2]
    rw[hd2]at h2
    (apply cm;(focus ((repeat' first|tb_rel|exact gy|exact cH|exact ej hS (eY hp1 hx (by rfl)) (bX hp1 hx (by rfl))|(rw[fL,g3];exact bj));done));(focus (exact beq_iff_eq.mpr hx1;done));(focus (exact rfl)))
    (apply aP;(focus (apply bg;kernel_rfl;(focus ((repeat' first|tb_rel|exact gy|exact cH|exact h2);done));lcg_sub)))
    (apply cm;(focus ((repeat' first|tb_rel|exact iM);done));(focus (rfl;done));(focus (exact rfl)))
    (refine aD ?_ rfl;apply a6;(focus ((repeat' first|tb_rel|exact n5|exact gy);done)))
    rw[hv];rfl
  ·rw[if_neg hx1]at hsp
   (apply br;(focus ((repeat' first|tb_rel|exact gy|exact cH|exact ej hS (bX g2 hx (by rfl)) (d9 (aj g2 hx) (by rfl))|(rw[fL,g3];exact bj));done));(focus (exact beq_eq_false_iff_ne.mpr hx1;done));(focus (exact aS)))
   (refine aD ?_ rfl;apply a6;(focus ((repeat' first|tb_rel);done)))
   rw[hsp,<-g4];rfl
end
end
section
theorem n9:∀n r,∃s,r=s++(arr n r).2
 |0,r=>⟨[],rfl⟩
 |n+1,r=>by
  unfold arr
  by_cases h1:r.take 1=[91]
  ·rw[if_pos h1]
   by_cases h2:r.take 2=[91,93]
   ·rw[if_pos h2]
    refine xE (n9 n (r.drop 2)) λs hs=> ?_
    exact⟨r.take 2++s,by rw[bY,<-hs,kv]⟩
   ·rw[if_neg h2]
    cases e:cA (r.drop 1)with
    |none=>exact⟨[],rfl⟩
    |some q=>
     obtain⟨d,r'⟩:=q
     by_cases h3:r'.take 1=[93]
     ·show ∃s,r=s++(if r'.take 1=[93]then _ else _:List aF×List Nat).2
      rw[if_pos h3]
      refine xE (n9 n (r'.drop 1)) λs hs=> ?_
      refine⟨r.take 1++(d++(r'.take 1++s)),?_⟩
      rw[bY,bY,bY,<-hs,kv,<-(nZ e).1,kv]
     ·show ∃s,r=s++(if r'.take 1=[93]then _ else _:List aF×List Nat).2
      rw[if_neg h3]
      exact⟨[],rfl⟩
  ·rw[if_neg h1];exact⟨[],rfl⟩
theorem ML{ds:List aF}(h:ds.length<=900):bJ .Add (.tuple (ds.map aV)) (.tuple [.tuple []])=some (.tuple ((ds++[none]).map aV)):=by
 rw[uL (by rw[cu];simp;exact aL ‹_› (by rfl)),wF];rfl
theorem MM{ds:List aF}{d:List Nat}(h:ds.length<=900):bJ .Add (.tuple (ds.map aV)) (.tuple [.tuple [.int (aM d)]])=some (.tuple ((ds++[some d]).map aV)):=by
 rw[uL (by rw[cu];simp;exact aL h (by rfl)),wF];rfl
section
variable{C:Calls}{x:List Nat}{p:Nat}
theorem ms{x:List Nat}{p k:Nat}{l:List Nat}(h:(x.drop p).take k=l)(hl:l.length=k):k=0 \/p+k<=x.length:=by
 have:((x.drop p).take k).length=l.length:=by rw[h]
 rw[hl,jw,eu]at this;exact(Nat.le_total p x.length).elim (λq=> .inr (w5 q this)) (λq=> .inl (by rw[Dk q,Nat.min_zero]at this;exact this.symm))
noncomputable def BH(tl:ak):Prop:=∀f,(f==aa "size")=false->tl.lookup f=none
inductive oa(x:List Nat)(p:Nat)(n:Nat)(ρ:ak):Prop
 |mk (q:Nat) (k:Nat) (ds:List aF) (tl:ak) (h0:n=x.length-q) (h1:q<=x.length) (h2:x.length-q<k) (h3:ρ=(aa "text", .str x)::(aa "place", .int (q:Int))::(aa "arrlist", .tuple (ds.map aV))::tl) (h4:BH tl) (h5:ds.length<=q) (h6:arr 100 (x.drop p)=(ds++(arr k (x.drop q)).1,(arr k (x.drop q)).2)):oa x p n ρ
inductive oh(x:List Nat)(p:Nat)(ρ:ak):Prop
 |mk (q:Nat) (ds:List aF) (tl:ak) (h0:q<=x.length) (h1:ρ=(aa "text", .str x)::(aa "place", .int (q:Int))::(aa "arrlist", .tuple (ds.map aV))::tl) (h2:BH tl) (h3:ds.length<=q) (h4:arr 100 (x.drop p)=(ds,x.drop q)):oh x p ρ
theorem MN(hD:∀q,q<=x.length->C.fn (aa "_parse_digits") [.str x, .int (q:Int)]= .ok (dL x (x.drop q))) (hx:x.length<=90) (hp:p<=x.length):aO C false (ag 7) [.str x, .int (p:Int)]= .ok (.tuple [bN (arr 100 (x.drop p)).1,dK x (arr 100 (x.drop p)).2]):=by
 have hS:Sm x:=by unfold Sm;exact aL ‹_› (by rfl)
 refine du (names:=[aa "text",aa "place"]) (by kernel_rfl) rfl ?_
 show aw _ _ [(aa "text", .str x),(aa "place", .int (p:Int))]=_
 (conv=>lhs;arg 2;whnf)
 (apply aP;(focus (apply bg;kernel_rfl;(focus ((repeat' first|tb_rel);done));lcg_sub)))
 refine uK
  (oa x p)
  (oh x p)
  (x.length-p) (bU (cM _ _) (fo hx (by rfl))) (oa.mk p 100 ([]) ([]) rfl hp (bU (cM _ _) (fo hx (by rfl))) rfl (λø ø=>rfl) (dR _) rfl) ?_ ?_
 ·intro n ρ zn1
  obtain⟨q,k,ds,tl,rfl,hq,hk,rfl,htl,hdl,hinv⟩:=zn1
  obtain⟨k,rfl⟩:∃k',k=k'+1:=⟨k-1,ss ‹_›⟩
  have f1:=htl (aa "tuple") (by kernel_rfl)
  have f2:=htl (aa "_parse_digits") (by kernel_rfl)
  apply dt.test
  ·(repeat' first|tb_rel|exact cH|exact ej hS (bX hq hx (by rfl)) (d9 (aj hq hx) (by rfl))|(rw[fL];exact bj))
  have hA:arr (k+1) (x.drop q)=(if(x.drop q).take 1=[91]then(if(x.drop q).take 2=[91,93]then(none::(arr k ((x.drop q).drop 2)).1,(arr k ((x.drop q).drop 2)).2)else match cA ((x.drop q).drop 1)with
   |some (d,r')=>if r'.take 1=[93]then(some d::(arr k (r'.drop 1)).1,(arr k (r'.drop 1)).2)else([],x.drop q)
   |none=>([],x.drop q))else([],x.drop q)):=rfl
  by_cases h1:(x.drop q).take 1=[91]
  ·rw[if_pos h1]at hA
   have hq1:q+1<=x.length:=(ms h1 rfl).resolve_left (by decide)
   by_cases h2:(x.drop q).take 2=[91,93]
   ·rw[if_pos h2]at hA
    have hq2:q+2<=x.length:=(ms h2 rfl).resolve_left (by decide)
    ·apply dt.next
     ·exact ei rfl (beq_iff_eq.mpr h1)
     ·(apply jY;(focus ((repeat' first|tb_rel|exact j0|exact ej hS (eY hq2 hx (by rfl)) (bX hq2 hx (by rfl))|(rw[fL];exact bj));done));(focus (exact beq_iff_eq.mpr h2;done)))
      ·(apply aP;(focus (apply bg;kernel_rfl;(focus ((repeat' first|tb_rel|exact MJ|exact ML (aj hdl (eY hq2 hx (by rfl))));done));lcg_sub)))
       (apply aP;(focus (apply qr;tb_start;(focus ((repeat' first|tb_rel);done));(focus (first|exact cH|exact j0|exact rfl));lcg_sub)))
       exact aS
      ·exact aS
     rotate_left
     ·refine(oa.mk (q+2) k (ds++[none]) _ rfl hq2 (o9 (p:=q+2) (oC (gB 1)) hq2 hk) rfl ?_ (by rw[cC];simp;exact iW ‹_›) ?_)
      ·first|exact htl|exact λf q=>jZ q (htl f q)
      ·rw[hinv,hA,kt,bY];rfl
     ·exact Ea hq1 (by rfl)
   ·rw[if_neg h2]at hA
    have hd:=hD (q+1) hq1
    have hdr:x.drop (q+1)=(x.drop q).drop 1:=by rw[kt]
    rw[hdr]at hd
    cases e1:cA ((x.drop q).drop 1)with
    |none=>
     have hv:dL x ((x.drop q).drop 1)= .none:=by unfold dL;rw[e1]
     rw[hv]at hd
     rw[e1]at hA
     ·apply dt.brk
      ·exact ei rfl (beq_iff_eq.mpr h1)
      ·(apply BB;(focus ((repeat' first|tb_rel|exact j0|exact ej hS (eY hq1 hx (by rfl)) (d9 (a:=q+1) (k:=1) (aj hq1 hx) (by rfl))|(rw[fL];exact bj));done));(focus (exact beq_eq_false_iff_ne.mpr h2;done));(focus (exact rfl)))
       (apply aP;(focus (apply bg;kernel_rfl;(focus ((repeat' first|tb_rel|exact cH|exact hd);done));lcg_sub)))
       refine la (c:=true||false) (gh (iJ ?_ λq=>nomatch q)) rfl (aD Bw rfl) rfl
       (repeat' first|tb_rel|exact cX)
      ·refine(oh.mk q ds _ hq rfl ?_ hdl ?_)
       ·first|exact htl|exact λf q=>jZ q (htl f q)
       ·rw[hinv,hA];simp
    |some z=>
     obtain⟨d,r1⟩:=z
     refine wL (BG (hdr▸e1) hq1) λp1 g1 g2 g3 g4=> ?_
     have hv:dL x ((x.drop q).drop 1)= .tuple [.int (aM d), .int (p1:Int)]:=by unfold dL;rw[e1,<-g4]
     rw[hv]at hd
     rw[e1]at hA
     by_cases h3:r1.take 1=[93]
     ·have hA:arr (k+1) (x.drop q)=(some d::(arr k (r1.drop 1)).1,(arr k (r1.drop 1)).2):=by rw[hA];exact if_pos h3
      have hp1:p1+1<=x.length:=(ms (x:=x) (p:=p1) (k:=1) (l:=[93]) (by rw[g3];exact h3) rfl).resolve_left (by decide)
      have hdr1:x.drop (p1+1)=r1.drop 1:=by rw[<-kt,g3]
      ·apply dt.next
       ·exact ei rfl (beq_iff_eq.mpr h1)
       ·apply br
        focus (repeat' first|tb_rel|exact j0|exact ej hS (eY hq1 hx (by rfl)) (d9 (a:=q+1) (k:=1) (aj hq1 hx) (by rfl))|(rw[fL];exact bj))
        focus exact beq_eq_false_iff_ne.mpr h2
        focus
         (apply aP;(focus (apply bg;kernel_rfl;(focus ((repeat' first|tb_rel|exact cH|exact hd);done));lcg_sub)))
         (apply br;(focus ((repeat' first|tb_rel|exact cX|exact gy|exact cH|exact ej hS (eY hp1 hx (by rfl)) (bX hp1 hx (by rfl))|(rw[fL,g3];exact fK));done));(focus (rw[h3];rfl;done));(focus (exact aS)))
         (apply aP;(focus (apply bg;kernel_rfl;(focus ((repeat' first|tb_rel|exact n5|exact MM (aj hdl (eY hq1 hx (by rfl))));done));lcg_sub)))
         (apply aP;(focus (apply bg;kernel_rfl;(focus ((repeat' first|tb_rel|exact gy|exact cH);done));lcg_sub)))
         exact aS
        exact aS
       rotate_left
       ·refine(oa.mk (p1+1) k (ds++[some d]) _ rfl hp1 (o9 (kf (iT g1)) hp1 hk) rfl ?_ (by rw[cC];simp;exact aj hdl (dz (iT g1))) ?_)
        ·first|exact htl|exact λf q=>jZ q (htl f q)
        ·rw[hinv,hA,hdr1,bY];rfl
       ·exact Eb g1 hp1
     ·have hA:arr (k+1) (x.drop q)=([],x.drop q):=by rw[hA];exact if_neg h3
      ·apply dt.brk
       ·exact ei rfl (beq_iff_eq.mpr h1)
       ·(apply BB;(focus ((repeat' first|tb_rel|exact j0|exact ej hS (eY hq1 hx (by rfl)) (d9 (a:=q+1) (k:=1) (aj hq1 hx) (by rfl))|(rw[fL];exact bj));done));(focus (exact beq_eq_false_iff_ne.mpr h2;done));(focus (exact rfl)))
        (apply aP;(focus (apply bg;kernel_rfl;(focus ((repeat' first|tb_rel|exact cH|exact hd);done));lcg_sub)))
        (apply cm;(focus ((repeat' first|tb_rel|exact cX|exact gy|exact cH|exact ej hS (bX g2 hx (by rfl)) (d9 (aj g2 hx) (by rfl))|(rw[fL,g3];exact fK));done));(focus (show(false||(r1.take 1 !=[93]))=true;simp[bne,h3];done));(focus (exact rfl)))
        exact aD Bw rfl
       ·refine(oh.mk q ds _ hq rfl ?_ hdl ?_)
        ·first|exact htl|exact λf q=>jZ q (htl f q)
        ·rw[hinv,hA];simp
  ·rw[if_neg h1]at hA
   ·refine dt.stop (ei rfl (beq_eq_false_iff_ne.mpr h1)) (oh.mk q ds _ hq rfl ?_ hdl ?_)
    ·first|exact htl|exact λf q=>jZ q (htl f q)
    ·rw[hinv,hA];simp
 ·intro ρ zn2
  obtain⟨q,ds,tl,hq,rfl,htl,hdl,hinv⟩:=zn2
  have hpl:dK x (x.drop q)= .int (q:Int):=by unfold dK;rw[eu];congr 2;exact v5 hq
  rw[hinv]
  show _=aB.ret (.tuple [bN ds,dK x (x.drop q)])
  rw[hpl]
  unfold bN
  by_cases h0:ds=[]
  ·rw[if_pos h0]
   subst h0
   ·(refine aD ?_ rfl;apply a6;(focus ((repeat' first|tb_rel|(with_reducible apply lc)|exact qE (by decide)|exact rfl);done)))
    rfl
  ·rw[if_neg h0]
   ·(refine aD ?_ rfl;apply a6;(focus ((repeat' first|tb_rel|(with_reducible apply lb)|exact qE (by rw[cu];exact bX (aj hdl hq) hx (by rfl))|(cases ds<;>first|rfl|exact absurd rfl h0));done)))
    rfl
end
end
section
inductive Ty where
 |bas (b:List Nat) (s:bh) (ds:List aF)
 |tup (cs:List Ty) (ds:List aF)
mutual
noncomputable def d0:Ty->PV
 | .bas b s ds=> .inst .bas [(aa "arrlist",bN ds),(aa "base", .str b),(aa "sub",cJ s)]
 | .tup cs ds=> .inst .tup [(aa "arrlist",bN ds),(aa "components", .tuple (ie cs))]
noncomputable def ie:List Ty->List PV
 |[]=>[]
 |T::r=>d0 T::ie r
end
theorem uM:∀cs,ie cs=cs.map d0
 |[]=>rfl
 |T::r=>by show d0 T::ie r=_;rw[uM r];rfl
noncomputable def cU(f:List Nat->Option (Ty×List Nat)):Nat->List Nat->Option (List Ty×List Nat)
 |0,_=>none
 |m+1,r=>match f r with
  |none=>none
  |some (T,r1)=>if r1.take 1=[44]then(match cU f m (r1.drop 1)with|some (Ts,r2)=>some (T::Ts,r2)|none=>none)else some ([T],r1)
noncomputable def gN(f:List Nat->Option (Ty×List Nat))(r:List Nat):Option (Ty×List Nat):=match cU f 100 (r.drop 1)with
 |some (Ts,r1)=>if r1.take 1=[41]then some (.tup Ts (arr 100 (r1.drop 1)).1,(arr 100 (r1.drop 1)).2)else none
 |none=>none
noncomputable def d4:Nat->List Nat->Option (Ty×List Nat)
 |0,_=>none
 |n+1,r=>if r.take 1=[40]then gN (d4 n) r else if r.takeWhile aK=[]then none else
   some (.bas (r.takeWhile aK) (b0 (r.dropWhile aK)).1 (arr 100 (b0 (r.dropWhile aK)).2).1,(arr 100 (b0 (r.dropWhile aK)).2).2)
noncomputable def iN(x:List Nat):Option (Ty×List Nat)->PV
 |none=> .none
 |some (T,r)=> .tuple [d0 T,dK x r]
noncomputable def de(x:List Nat):Option Ty:=match d4 64 x with
 |some (T,[])=>some T
 |_=>none
theorem MO{cs:List Ty}{T:Ty}(h:cs.length<=900):bJ .Add (.tuple (cs.map d0)) (.tuple [d0 T])=some (.tuple ((cs++[T]).map d0)):=by
 rw[uL (by rw[cu];simp;exact aL ‹_› (by rfl)),wF];rfl
section
variable{C:Calls}{x:List Nat}{p:Nat}{f:List Nat->Option (Ty×List Nat)}
theorem BJ{xs:List PV}:bn C .Eq (.tuple xs) (.tuple [])= .ok xs.isEmpty:=rfl
noncomputable def BK(tl:ak):Prop:=∀f,(f==aa "found")=false->tl.lookup f=none
inductive qF(f:List Nat->Option (Ty×List Nat))(x:List Nat)(p:Nat)(n:Nat)(ρ:ak):Prop
 |mk (q:Nat) (k:Nat) (cs:List Ty) (tl:ak) (h0:n=x.length-q) (h1:p<=q) (h2:q<=x.length) (h3:x.length-q<k) (h4:ρ=(aa "text", .str x)::(aa "place", .int (q:Int))::(aa "components", .tuple (cs.map d0))::tl) (h5:BK tl) (h6:cs.length<=q) (h7:(cs=[]->q=p)) (h8:cU f 100 ((x.drop p).drop 1)=(if cs=[] \/(x.drop q).take 1=[44]then(match cU f k ((x.drop q).drop 1)with|some (Ts,r')=>some (cs++Ts,r')|none=>none)else some (cs,x.drop q))):qF f x p n ρ
inductive uN(f:List Nat->Option (Ty×List Nat))(x:List Nat)(p:Nat)(ρ:ak):Prop
 |mk (q:Nat) (cs:List Ty) (tl:ak) (h0:q<=x.length) (h1:ρ=(aa "text", .str x)::(aa "place", .int (q:Int))::(aa "components", .tuple (cs.map d0))::tl) (h2:BK tl) (h3:cU f 100 ((x.drop p).drop 1)=some (cs,x.drop q)):uN f x p ρ
theorem MP(hf:∀r T r',f r=some (T,r')->∃s,r=s++r'/\ s≠[])
  (hP:∀q,p<q->q<=x.length->C.fn (aa "_parse_type") [.str x, .int (q:Int)]= .ok (iN x (f (x.drop q))))
  (hA:∀q,q<=x.length->C.fn (aa "_parse_arrlist") [.str x, .int (q:Int)]= .ok (.tuple [bN (arr 100 (x.drop q)).1,dK x (arr 100 (x.drop q)).2]))
  (hC:∀a b,C.fn (aa "TupleType") [a,b]= .ok (.inst .tup [(aa "arrlist",b),(aa "components",a)]))
  (hx:x.length<=90) (hp:p<=x.length) (h40:(x.drop p).take 1=[40]):aO C false (ag 9) [.str x, .int (p:Int)]= .ok (iN x (gN f (x.drop p))):=by
 have hS:Sm x:=by unfold Sm;exact aL ‹_› (by rfl)
 have hp1:p+1<=x.length:=(ms h40 rfl).resolve_left (by decide)
 refine du (names:=[aa "text",aa "place"]) (by kernel_rfl) rfl ?_
 show aw _ _ [(aa "text", .str x),(aa "place", .int (p:Int))]=_
 (conv=>lhs;arg 2;whnf)
 (apply aP;(focus (apply bg;kernel_rfl;(focus ((repeat' first|tb_rel);done));lcg_sub)))
 refine uK
  (qF f x p)
  (uN f x p)
  (x.length-p) (bU (cM _ _) (fo hx (by rfl))) (qF.mk p 100 ([]) ([]) rfl (bP _) hp (bU (cM _ _) (fo hx (by rfl))) rfl (λø ø=>rfl) (dR _) (λø=>rfl) ?_) ?_ ?_
 ·rw[if_pos (.inl rfl)]
  cases cU f 100 ((x.drop p).drop 1)with
  |none=>rfl
  |some z=>rfl
 ·intro n ρ zn1
  obtain⟨q,k,cs,tl,rfl,hpq,hq,hk,rfl,htl,hcl,hc0,hinv⟩:=zn1
  obtain⟨k,rfl⟩:∃k',k=k'+1:=⟨k-1,ss ‹_›⟩
  have f1:=htl (aa "_parse_type") (by kernel_rfl)
  apply dt.test
  ·(repeat' first|tb_rel|exact BJ|exact cH|exact ej hS (bX hq hx (by rfl)) (d9 (aj hq hx) (by rfl))|(rw[fL];exact bj))
  by_cases ht:cs=[] \/(x.drop q).take 1=[44]
  ·have hb:((cs.map d0).isEmpty||((x.drop q).take 1==[44]))=true:=by
    rcases ht with rfl|h
    ·rfl
    ·rw[gZ];exact .inr (beq_iff_eq.mpr h)
   have hq1:q+1<=x.length:=by
    rcases ht with h|h
    ·rw[hc0 h];exact hp1
    ·exact(ms h rfl).resolve_left (by decide)
   rw[if_pos ht]at hinv
   have h1:=hP (q+1) (er ‹_›) hq1
   rw[<-kt]at h1
   cases e1:f ((x.drop q).drop 1)with
   |none=>
    rw[e1]at h1
    have hn:gN f (x.drop p)=none:=by
     unfold gN
     rw[hinv]
     unfold cU
     rw[e1]
    ·apply dt.ret
     ·exact ei rfl (hb)
     ·(apply aP;(focus (apply bg;kernel_rfl;(focus ((repeat' first|tb_rel|exact cH|exact h1);done));lcg_sub)))
      (apply cm;(focus ((repeat' first|tb_rel|exact cX);done));(focus (rfl;done));(focus (exact rfl)))
      (refine aD ?_ rfl;apply a6;(focus ((repeat' first|tb_rel);done)))
      exact rfl
     ·rw[hn];rfl
   |some z=>
    obtain⟨T,r1⟩:=z
    refine ay (hf _ _ _ e1) λs g1 g2=> ?_
    refine bM (qD (x:=x) (p:=q+1) (by rw[<-kt]) g1 hq1) λg3 g4 g5=> ?_
    have hs:=DN.mpr g2
    obtain⟨q1,hq1e⟩:∃q1,q1=q+1+s.length:=⟨_,rfl⟩
    rw[<-hq1e]at g3 g4 g5
    rw[e1]at h1
    have h1:C.fn (aa "_parse_type") [.str x, .int ((q+1:Nat):Int)]= .ok (.tuple [d0 T, .int (q1:Int)]):=by rw[h1,<-g5];rfl
    ·apply dt.next
     ·exact ei rfl (hb)
     ·(apply aP;(focus (apply bg;kernel_rfl;(focus ((repeat' first|tb_rel|exact cH|exact h1);done));lcg_sub)))
      (apply br;(focus ((repeat' first|tb_rel|exact cX);done));(focus (rfl;done));(focus (exact aS)))
      (apply aP;(focus (apply bg;kernel_rfl;(focus ((repeat' first|tb_rel|exact n5|exact MO (aj hcl (eY hq1 hx (by rfl))));done));lcg_sub)))
      (apply aP;(focus (apply bg;kernel_rfl;(focus ((repeat' first|tb_rel|exact gy);done));lcg_sub)))
      exact aS
     rotate_left
     ·refine(qF.mk q1 k (cs++[T]) _ rfl (aj hpq (dz (mZ hq1e))) g3 (o9 (mZ hq1e) g3 hk) rfl (λf q=>jZ q (htl f q)) (by rw[cC];simp;exact bU hcl (mZ hq1e)) (λq=>by simp at q) ?_)
      rw[hinv,g4]
      unfold cU
      rw[e1]
      show(match(if r1.take 1=[44]then _ else _:Option (List Ty×List Nat))with|some (Ts,r')=>some (cs++Ts,r')|none=>none)=_
      by_cases h3:r1.take 1=[44]
      ·rw[if_pos h3,if_pos (.inr h3)]
       cases k with
       |zero=>rfl
       |succ k=>
        show(match(match cU f (k+1) (r1.drop 1)with|some (Ts,r2)=>some (T::Ts,r2)|none=>none:Option (List Ty×List Nat))with|some (Ts,r')=>some (cs++Ts,r')|none=>none)=(match cU f (k+1) (r1.drop 1)with|some (Ts,r')=>some (cs++[T]++Ts,r')|none=>none)
        cases cU f (k+1) (r1.drop 1)with
        |none=>rfl
        |some z=>simp
      ·rw[if_neg h3,if_neg (by simp[h3])]
     ·exact rk (di (mZ hq1e) g3) (mZ hq1e)
  ·rw[if_neg ht]at hinv
   rw[not_or]at ht
   have hb:((cs.map d0).isEmpty||((x.drop q).take 1==[44]))=false:=by
    rw[kx]
    refine⟨?_,beq_eq_false_iff_ne.mpr ht.2⟩
    cases cs with
    |nil=>exact absurd rfl ht.1
    |cons T r=>rfl
   ·apply dt.stop
    ·exact ei rfl (hb)
    ·exact(uN.mk q cs _ hq rfl htl hinv)
 ·intro ρ zn2
  obtain⟨q,cs,tl,hq,rfl,htl,hinv⟩:=zn2
  have hT:gN f (x.drop p)=(if(x.drop q).take 1=[41]then some (.tup cs (arr 100 ((x.drop q).drop 1)).1,(arr 100 ((x.drop q).drop 1)).2)else none):=by
   unfold gN;rw[hinv]
  rw[hT]
  by_cases h1:(x.drop q).take 1=[41]
  ·rw[if_pos h1]
   have hq1:q+1<=x.length:=(ms h1 rfl).resolve_left (by decide)
   have h2:=hA (q+1) hq1
   rw[<-kt]at h2
   have f1:=htl (aa "_parse_arrlist") (by kernel_rfl)
   have f2:=htl (aa "TupleType") (by kernel_rfl)
   ·(apply br;(focus ((repeat' first|tb_rel|exact cH|exact ej hS (eY hq1 hx (by rfl)) (bX hq1 hx (by rfl))|(rw[fL];exact fK));done));(focus (rw[h1];rfl;done));(focus (exact aS)))
    apply aP
    focus
     apply iK
     focus kernel_rfl
     focus (repeat' first|tb_rel|exact cH|exact h2)
     lcg_sub
     lcg_sub
    (refine aD ?_ rfl;apply a6;(focus ((repeat' first|tb_rel|exact hC _ _);done)))
    show PV.tuple [PV.inst .tup [(_,_),(_,PV.tuple (cs.map d0))],_]= .tuple [PV.inst .tup [(_,_),(_,PV.tuple (ie cs))],_]
    rw[uM]
  ·rw[if_neg h1]
   ·(apply cm;(focus ((repeat' first|tb_rel|exact cH|exact ej hS (bX hq hx (by rfl)) (d9 (aj hq hx) (by rfl))|(rw[fL];exact fK));done));(focus (simp[bne,h1];done));(focus (exact rfl)))
    (refine aD ?_ rfl;apply a6;(focus ((repeat' first|tb_rel);done)))
    rfl
end
end
section
theorem BL(r:List Nat):∃s,r=s++(b0 r).2:=by
 unfold b0
 cases e:cA r with
 |none=>exact⟨[],rfl⟩
 |some z=>
  obtain⟨a,r1⟩:=z
  obtain⟨h1,_⟩:=nZ e
  show ∃s,r=s++(if r1.take 1=[120]then _ else _:bh×List Nat).2
  by_cases h:r1.take 1=[120]
  ·rw[if_pos h]
   cases e2:cA (r1.drop 1)with
   |none=>exact⟨a,h1⟩
   |some z=>
    obtain⟨b,r2⟩:=z
    obtain⟨h2,_⟩:=nZ e2
    exact⟨a++(r1.take 1++b),by rw[bY,bY,<-h2,kv];exact h1⟩
  ·rw[if_neg h];exact⟨a,h1⟩
section
variable{C:Calls}{x:List Nat}{p:Nat}{f:List Nat->Option (Ty×List Nat)}
theorem MQ(n:Nat)
  (hT:(x.drop p).take 1=[40]->C.fn (aa "_parse_tuple_type") [.str x, .int (p:Int)]= .ok (iN x (gN (d4 n) (x.drop p))))
  (hA:∀q,q<=x.length->C.fn (aa "_parse_arrlist") [.str x, .int (q:Int)]= .ok (.tuple [bN (arr 100 (x.drop q)).1,dK x (arr 100 (x.drop q)).2]))
  (hU:∀q,q<=x.length->C.fn (aa "_parse_sub") [.str x, .int (q:Int)]= .ok (.tuple [cJ (b0 (x.drop q)).1,dK x (b0 (x.drop q)).2]))
  (hC:∀a b c,C.fn (aa "BasicType") [a,b,c]= .ok (.inst .bas [(aa "arrlist",c),(aa "base",a),(aa "sub",b)]))
  (hg:C.glob (aa "_LETTERS")=some (.str jU))
  (hx:x.length<=90) (hp:p<=x.length):aO C false (ag 10) [.str x, .int (p:Int)]= .ok (iN x (d4 (n+1) (x.drop p))):=by
 have hS:Sm x:=by unfold Sm;exact aL ‹_› (by rfl)
 refine du (names:=[aa "text",aa "place"]) (by kernel_rfl) rfl ?_
 show aw _ _ [(aa "text", .str x),(aa "place", .int (p:Int))]=_
 (conv=>lhs;arg 2;whnf)
 have hdef:d4 (n+1) (x.drop p)=(if(x.drop p).take 1=[40]then gN (d4 n) (x.drop p)else if(x.drop p).takeWhile aK=[]then none else
   some (.bas ((x.drop p).takeWhile aK) (b0 ((x.drop p).dropWhile aK)).1 (arr 100 (b0 ((x.drop p).dropWhile aK)).2).1,(arr 100 (b0 ((x.drop p).dropWhile aK)).2).2)):=rfl
 by_cases h40:(x.drop p).take 1=[40]
 ·rw[hdef,if_pos h40]
  (apply cm;(focus ((repeat' first|tb_rel|exact cH|exact ej hS (bX hp hx (by rfl)) (d9 (aj hp hx) (by rfl))|(rw[fL];exact bj));done));(focus (exact beq_iff_eq.mpr h40;done));(focus (exact rfl)))
  (refine aD ?_ rfl;apply a6;(focus ((repeat' first|tb_rel|exact hT h40);done)))
  rfl
 ·rw[if_neg h40]at hdef
  (apply br;(focus ((repeat' first|tb_rel|exact cH|exact ej hS (bX hp hx (by rfl)) (d9 (aj hp hx) (by rfl))|(rw[fL];exact bj));done));(focus (exact beq_eq_false_iff_ne.mpr h40;done));(focus (exact aS)))
  (apply aP;(focus (apply bg;kernel_rfl;(focus ((repeat' first|tb_rel);done));lcg_sub)))
  obtain⟨m,hm⟩:∃m,m=((x.drop p).takeWhile aK).length:=⟨_,rfl⟩
  have hml:p+m<=x.length:=by
   have:=(o0 (p:=aK) (l:=x.drop p)).length_le
   rw[eu]at this;exact mY hp hm this
  have hrest:=qB (f:=aK) hm
  apply aP;focus refine ml (nV (λk=>[(aa "text", .str x),(aa "place", .int (p:Int)),(aa "end", .int (k:Int))]) m p _ (by unfold jK;exact bU (aj (bV _ _) hml) (fo hx (by rfl))) (λi h1 h2=> ?_) ?_)
  ·refine ay (nY (f:=aK) h1 (hm▸h2)) λc hc hf=> ?_
   refine⟨ku (b:=Res.ok (decide (i<x.length)&&aK c)) ?_ (by rw[hf,decide_eq_true (di ‹_› ‹_›)];rfl),?_⟩
   ·(repeat' first|tb_rel|exact fJ hS|exact jn|exact iL (bX (aj (dz h2) hml) hx (by rfl)) hc|exact qA)
   ·(apply aP;(focus (apply qr;tb_start;(focus ((repeat' first|tb_rel);done));(focus (first|exact cH|exact j0|exact rfl));lcg_sub)))
    exact aS
  ·by_cases hend:p+m<x.length
   ·have hc:=fV hend
    refine ku (b:=Res.ok (decide (p+m<x.length)&&aK x[p+m])) ?_ (by rw[(qC (f:=aK) (x:=x) (p:=p) (by rw[<-hm];exact hc)),kr])
    (repeat' first|tb_rel|exact fJ hS|exact jn|exact iL (bX ‹_› ‹_› (by rfl)) hc|exact qA)
   ·refine ku (b:=Res.ok (decide (p+m<x.length)&&false)) ?_ (by rw[kr])
    refine gh (kZ (nU ?_) λq=>absurd (of_decide_eq_true q) hend)
    (repeat' first|tb_rel|exact fJ hS|exact jn)
  by_cases h0:m=0
  ·have hd:(x.drop p).takeWhile aK=[]:=oR (hm▸h0)
   rw[if_pos hd]at hdef
   rw[hdef]
   (apply cm;(focus ((repeat' first|tb_rel|exact lf);done));(focus (simp[h0];done));(focus (exact rfl)))
   (refine aD ?_ rfl;apply a6;(focus ((repeat' first|tb_rel);done)))
   rfl
  ·have hd:(x.drop p).takeWhile aK≠[]:=λq=>h0 (by rw[hm,q];rfl)
   rw[if_neg hd]at hdef
   have h1:=hU (p+m) hml
   rw[hrest.2]at h1
   refine xE (BL ((x.drop p).dropWhile aK)) λs1 g1=> ?_
   refine bM (qD (x:=x) (p:=p+m) hrest.2 g1 hml) λa1 a2 a3=> ?_
   obtain⟨q1,hq1⟩:∃q1,q1=p+m+s1.length:=⟨_,rfl⟩
   rw[<-hq1]at a1 a2 a3
   rw[a3]at h1
   have h2:=hA q1 a1
   rw[a2]at h2
   refine xE (n9 100 (b0 ((x.drop p).dropWhile aK)).2) λs2 g2=> ?_
   refine bM (qD (x:=x) (p:=q1) a2 g2 a1) λb1 b2 b3=> ?_
   rw[b3]at h2
   (apply br;(focus ((repeat' first|tb_rel|exact lf);done));(focus (simp[h0];done));(focus (exact aS)))
   (apply aP;(focus (apply bg;kernel_rfl;(focus ((repeat' first|tb_rel|exact ej hS (bX ‹_› ‹_› (by rfl)) (bX ‹_› ‹_› (by rfl)));done));lcg_sub)))
   apply aP
   focus
    apply iK
    focus kernel_rfl
    focus (repeat' first|tb_rel|exact h1)
    lcg_sub
    lcg_sub
   apply aP
   focus
    apply iK
    focus kernel_rfl
    focus (repeat' first|tb_rel|exact h2)
    lcg_sub
    lcg_sub
   (refine aD ?_ rfl;apply a6;(focus ((repeat' first|tb_rel|exact hC _ _ _);done)))
   rw[hdef,hrest.1]
   show _=PV.tuple [_,dK x (arr 100 (b0 ((x.drop p).dropWhile aK)).2).2]
   rw[b3];rfl
theorem Rf{x:List Nat}:iN x none= .none:=rfl
theorem j3{x y:List Nat}:bn C .In (.str x) (.str y)= .ok (ci x y):=rfl
theorem BM{y:List Nat}:dO (.str y) (aa "str")=some true:=by kernel_rfl
theorem BN{a b:Nat}:bn C .NotEq (.int (a:Int)) (.int (b:Int))= .ok (!(a==b)):=by
 show Res.ok (!((a:Int)==(b:Int)))=_
 congr 2
 by_cases h:a=b
 ·subst h;simp
 ·rw[beq_eq_false_iff_ne.mpr h,beq_eq_false_iff_ne];exact λq=>h (vZ q)
theorem BO{f:List Nat->Option (Ty×List Nat)}(hf:∀r T r',f r=some (T,r')->∃s,r=s++r'/\ s≠[]):∀m r Ts r',cU f m r=some (Ts,r')->∃s,r=s++r'
 |0,r,Ts,r',h=>nomatch h
 |m+1,r,Ts,r',h=>by
  unfold cU at h
  cases e:f r with
  |none=>rw[e]at h;exact am h
  |some z=>
   obtain⟨T,r1⟩:=z
   rw[e]at h
   refine ay (hf _ _ _ e) λs hs ø=> ?_
   have h:(if r1.take 1=[44]then(match cU f m (r1.drop 1)with|some (Ts,r2)=>some (T::Ts,r2)|none=>none)else some ([T],r1):Option (List Ty×List Nat))=some (Ts,r'):=h
   by_cases h1:r1.take 1=[44]
   ·rw[if_pos h1]at h
    cases e2:cU f m (r1.drop 1)with
    |none=>rw[e2]at h;exact am h
    |some z=>
     obtain⟨Us,r2⟩:=z
     rw[e2]at h;cases aq h
     refine xE (BO hf m _ _ _ e2) λs2 hs2=> ?_
     exact⟨s++(r1.take 1++s2),by rw[bY,bY,<-hs2,kv];exact hs⟩
   ·rw[if_neg h1]at h;cases aq h
    exact⟨s,hs⟩
theorem MR{f:List Nat->Option (Ty×List Nat)}(hf:∀r T r',f r=some (T,r')->∃s,r=s++r'/\ s≠[]){r:List Nat}(h0:r.take 1=[40]){T:Ty}{r':List Nat}(h:gN f r=some (T,r')):∃s,r=s++r'/\ s≠[]:=by
 unfold gN at h
 cases e:cU f 100 (r.drop 1)with
 |none=>rw[e]at h;exact am h
 |some z=>
  obtain⟨Ts,r1⟩:=z
  rw[e]at h
  have h:(if r1.take 1=[41]then some (Ty.tup Ts (arr 100 (r1.drop 1)).1,(arr 100 (r1.drop 1)).2)else none)=some (T,r'):=h
  by_cases h1:r1.take 1=[41]
  ·rw[if_pos h1]at h;cases aq h
   refine xE (BO hf _ _ _ _ e) λs1 g1=> ?_
   refine xE (n9 100 (r1.drop 1)) λs2 g2=> ?_
   refine⟨r.take 1++(s1++(r1.take 1++s2)),?_,by rw[h0];simp⟩
   rw[bY,bY,bY,<-g2,kv,<-g1,kv]
  ·rw[if_neg h1]at h;exact am h
theorem uO:∀n r T r',d4 n r=some (T,r')->∃s,r=s++r'/\ s≠[]
 |0,r,T,r',h=>nomatch h
 |n+1,r,T,r',h=>by
  unfold d4 at h
  by_cases h0:r.take 1=[40]
  ·rw[if_pos h0]at h
   exact MR (λr T r' =>uO n r T r') h0 h
  ·rw[if_neg h0]at h
   by_cases h1:r.takeWhile aK=[]
   ·rw[if_pos h1]at h;exact am h
   ·rw[if_neg h1]at h;cases aq h
    refine xE (BL (r.dropWhile aK)) λs1 g1=> ?_
    refine xE (n9 100 (b0 (r.dropWhile aK)).2) λs2 g2=> ?_
    refine⟨r.takeWhile aK++(s1++s2),?_,by simp[h1]⟩
    rw[bY,bY,<-g2,<-g1,mR]
theorem MS(hT:C.fn (aa "_parse_type") [.str x, .int 0]= .ok (iN x (d4 64 x))) (hx:x.length<=90):
  aO C false (ag 11) [.str x]=(match de x with|some T=> .ok (d0 T)|none=>if ci [40,41] x then .exc .value else .exc .parse):=by
 have hS:Sm x:=by unfold Sm;exact aL ‹_› (by rfl)
 have e0:=mo (C:=C) (gen:=false) (st:=ag 11) (args:=[.str x]) (names:=[aa "type_str"]) (o:=match de x with|some T=> .ret (d0 T)|none=>if ci [40,41] x then .rais .value [(aa "type_str", .str x),(aa "found",iN x (d4 64 x))]else .rais .parse [(aa "type_str", .str x),(aa "found",iN x (d4 64 x))]) (by kernel_rfl) rfl ?_
 ·rw[e0]
  cases de x with
  |some T=>rfl
  |none=>by_cases h:ci [40,41] x<;>simp[h,jP]
 show aw _ _ [(aa "type_str", .str x)]=_
 (conv=>lhs;arg 2;whnf)
 (apply br;(focus ((repeat' first|tb_rel|exact BM);done));(focus (rfl;done));(focus (exact aS)))
 (apply aP;(focus (apply bg;kernel_rfl;(focus ((repeat' first|tb_rel|exact hT);done));lcg_sub)))
 cases e:d4 64 x with
 |none=>
  have hn:de x=none:=by unfold de;rw[e]
  rw[hn]
  refine la (c:=true||false) (gh (iJ ?_ λq=>nomatch q)) rfl ?_ (by by_cases h:ci [40,41] x=true<;>simp[h,aB.stops])
  ·(repeat' first|tb_rel|exact cX)
  ·by_cases h:ci [40,41] x=true
   ·rw[if_pos h]
    (apply cm;(focus ((repeat' first|tb_rel|exact j3);done));(focus (exact h;done));(focus (exact rfl)))
    refine aD ?_ rfl
    apply k9
    focus kernel_rfl
    focus (repeat' first|tb_rel)
    focus kernel_rfl
   ·rw[if_neg h]
    (apply br;(focus ((repeat' first|tb_rel|exact j3);done));(focus (simpa using h;done));(focus (exact aS)))
    refine aD ?_ rfl
    apply k9
    focus kernel_rfl
    focus (repeat' first|tb_rel)
    focus kernel_rfl
 |some z=>
  obtain⟨T,r'⟩:=z
  refine ay (uO _ _ _ _ e) λs hs ø=> ?_
  have hle:r'.length<=x.length:=by rw[hs,cC];exact bV _ _
  cases r' with
  |nil=>
   have hn:de x=some T:=by unfold de;rw[e]
   rw[hn]
   (apply br;(focus ((repeat' first|tb_rel|exact cX|exact gy|exact fJ hS|exact BN);done));(focus (simp[iN,dK];done));(focus (exact aS)))
   (refine aD ?_ rfl;apply a6;(focus ((repeat' first|tb_rel|exact n5);done)))
   rfl
  |cons c r=>
   have hn:de x=none:=by unfold de;rw[e]
   rw[hn]
   refine la (c:=false|| !((x.length-(c::r).length:Nat)==x.length)) (gh (iJ ?_ λq=>Bq ?_)) (by simp at hle ⊢;exact eT (vO (di (gB _) hle) (gB _))) ?_ (by by_cases h:ci [40,41] x=true<;>simp[h,aB.stops])
   ·(repeat' first|tb_rel|exact cX)
   ·(repeat' first|tb_rel|exact gy|exact fJ hS|exact BN)
   ·by_cases h:ci [40,41] x=true
    ·rw[if_pos h]
     (apply cm;(focus ((repeat' first|tb_rel|exact j3);done));(focus (exact h;done));(focus (exact rfl)))
     refine aD ?_ rfl
     apply k9
     focus kernel_rfl
     focus (repeat' first|tb_rel)
     focus kernel_rfl
    ·rw[if_neg h]
     (apply br;(focus ((repeat' first|tb_rel|exact j3);done));(focus (simpa using h;done));(focus (exact aS)))
     refine aD ?_ rfl
     apply k9
     focus kernel_rfl
     focus (repeat' first|tb_rel)
     focus kernel_rfl
end
end
section
theorem gO{α:Type}{E:Ev}{csc:Scope}{x:Str}{elt:ai}(m:α->PV)(l:List α)(t:α->PV)(hs:(hY csc&&bR csc x&&x !=aa ".0")=true) (h:∀a∈l,E.ev csc elt [(x,m a)]= .ok (t a)):cq E csc x elt [] (l.map m)= .ok (l.map t):=by
 unfold cq
 rw[if_pos hs,uI (f:=iD E csc x []) (λa ø=>rfl)]
 show ca (fx _ (l.map m))=_
 have:fx (λv=>E.ev csc elt [(x,v)]) (l.map m)= .ok (l.map t):=by
  clear hs
  induction l with
  |nil=>rfl
  |cons a r ih=>
   show(E.ev csc elt [(x,m a)]).bind _=_
   rw[h a (.head _)]
   show(fx _ (r.map m)).bind _=_
   rw[ih λb hb=>h b (.tail _ hb)];rfl
 rw[this];rfl
theorem mu{α:Type}{E:Ev}{csc:Scope}{x:Str}{elt e:ai}(m:α->PV)(l:List α)(f:α->Bool)(hs:(hY csc&&bR csc x&&x !=aa ".0")=true) (hf:∀a∈l,E.tst csc e [(x,m a)]= .ok (f a)) (h:∀a∈l,E.ev csc elt [(x,m a)]= .ok (m a)):cq E csc x elt [e] (l.map m)= .ok ((l.filter f).map m):=by
 unfold cq
 have h1:iC (iD E csc x [e]) (l.map m)= .ok ((l.filter f).map m):=by
  clear h
  induction l with
  |nil=>rfl
  |cons a r ih=>
   show(E.tst csc e [(x,m a)]).bind _=_
   rw[hf a (.head _)]
   rw[ih λb hb=>hf b (.tail _ hb),wc]
   cases f a<;>rfl
 rw[if_pos hs,h1]
 show ca (fx _ ((l.filter f).map m))=_
 have h2:∀k:List α,(∀a∈k,a∈l)->fx (λv=>E.ev csc elt [(x,v)]) (k.map m)= .ok (k.map m):=λk=>by
  induction k with
  |nil=>intro ø;rfl
  |cons a r ih=>
   intro hk
   show(E.ev csc elt [(x,m a)]).bind _=_
   rw[h a (hk a (.head _))]
   show(fx _ (r.map m)).bind _=_
   rw[ih λb hb=>hk b (.tail _ hb)];rfl
 rw[h2 _ λa ha=>(Du.mp ha).1];rfl
section
variable{C:Calls}{g:Bool}{k:Nat}{sc:Scope}{ρ:ak}{o:aB}
theorem BP{body:ak->aB}{x:Str}(I:Nat->ak->Prop):∀(items:List PV) (a:Nat) (ρ:ak),I a ρ->(∀i v ρ,items[i]? =some v->I (a+i) ρ->∃ρ',body (aQ x v ρ)= .next ρ'/\ I (a+i+1) ρ')->∃ρ',db body x items ρ= .next ρ'/\ I (a+items.length) ρ'
 |[],a,ρ,h0,_=>⟨ρ,rfl,h0⟩
 |v::r,a,ρ,h0,hs=>by
  refine ay (hs 0 v ρ rfl h0) λρ1 e1 h1=> ?_
  obtain⟨ρ2,e2,h2⟩:=BP I r (a+1) ρ1 h1 (λi w ρ e h=>by
   have:=hs (i+1) w ρ e (by rw[show a+(i+1)=a+1+i from gX a i 1];exact h)
   rw[show a+(i+1)+1=a+1+i+1 by exact gX _ _ _]at this;exact this)
  exact⟨ρ2,BA rfl e1 e2,by rw[gE,show a+(r.length+1)=a+1+r.length from gX a r.length 1];exact h2⟩
theorem MT{x px it b p v items r}(I:Nat->ak->Prop)(hc:(bR sc x&&cW it)=true)(h:(pE C g 24).ev sc it ρ= .ok v)(hi:bQ v=some items)(h0:I 0 ρ)(step:∀i v ρ,items[i]? =some v->I i ρ->∃ρ',aw (pX C g k sc) b (aQ x v ρ)= .next ρ'/\ I (i+1) ρ')(hr:∀ρ',I items.length ρ'->aw (pX C g (k+1) sc) r ρ' =o):aw (pX C g (k+1) sc) (.For (.Name x px) it b [] p::r) ρ=o:=by
 obtain⟨ρ',e,h'⟩:=BP (body:=aw (pX C g k sc) b) (x:=x) I items 0 ρ h0 (λi v ρ e q=>by
  have:=step i v ρ e (by rw[eV]at q;exact q)
  rwa [eV])
 rw[eV]at h'
 exact aP (Bu hc h hi e) (hr ρ' h')
theorem MU{P:aB}{I:ak->Prop}{ρ':ak}(h:P= .next ρ')(hi:I ρ'):∃ρ',P= .next ρ'/\ I ρ':=⟨ρ',h,hi⟩
theorem MV{v:PV}{ρ ρ1:ak}{s:Str}{ex:aC->ak->aB}{b:List aC}{o:aB}(h:aQ s v ρ=ρ1)(hb:aw ex b ρ1=o):aw ex b (aQ s v ρ)=o:=h▸hb
end
noncomputable def aR(t:List Nat):Bool:= !t.isEmpty&&t.head? !=some 48&&t.all bc
noncomputable def cK(t:List Nat):PV:=if aR t then .int (aM t)else .none
section
variable{C:Calls}{t:List Nat}{c:Nat}
theorem uP(h:Sm t):bQ (.str t)=some (t.map λc=> .str [c]):=if_pos (by have:=dJ;unfold Sm at h;exact aL ‹_› (by rfl))
theorem oi{xs:List PV}(h:xs.length<=1000):bQ (.list xs)=some xs:=if_pos (by have:=dJ;exact aL ‹_› (by rfl))
theorem ig{xs:List PV}(h:xs.length<=1000):bQ (.tuple xs)=some xs:=if_pos (by have:=dJ;exact aL ‹_› (by rfl))
theorem BQ:bn C .NotIn (.str [c]) (.str gw)= .ok (!bc c):=by
 show Res.ok (!ci [c] gw)=_
 rw[BE]
theorem oj{xs:List PV}:bn C .NotEq (.list xs) (.list [])= .ok (!xs.isEmpty):=rfl
theorem uQ{r:List Nat}:fu (.str (c::r)) (.int 0)=some (.str [c]):=by
 show(if(0:Int)<=0/\ (0:Int)<=aX then _ else none)=_
 exact if_pos ⟨Int.le_refl 0,kh _⟩
theorem MW(h:bc c=true):i5 [c] gw 0=some (c-48):=by
 rw[show gw=[48,49,50,51,52,53,54,55,56,57] by decide+kernel]
 unfold bc at h
 simp only[aI,decide_eq_true_eq]at h
 have:c=48 \/c=49 \/c=50 \/c=51 \/c=52 \/c=53 \/c=54 \/c=55 \/c=56 \/c=57:=Ee ‹_›
 rcases this with rfl|rfl|rfl|rfl|rfl|rfl|rfl|rfl|rfl|rfl<;>decide
theorem MX(h:bc c=true):cn (aa "index") gw [.str [c]]=some (.int ((c:Int)-48)):=by
 rw[Lr]
 show(i5 [c] gw 0).map _=_
 rw[MW h]
 show some (PV.int ((c-48:Nat):Int))=_
 unfold bc at h
 simp only[aI,decide_eq_true_eq]at h
 congr 2;exact wV ‹_›
noncomputable def gP(s:List Nat)(a:Nat):Nat:=s.foldl (λacc c=>acc*10+(c-48)) a
theorem uR:∀(s:List Nat) (a k:Nat),s.all bc=true->a<10^k->gP s a<10^(k+s.length)
 |[],a,k,_,h1=>h1
 |c::r,a,k,h,h1=>by
  rw[g9,aI]at h
  have hc:=h.1
  unfold bc at hc
  simp only[aI,decide_eq_true_eq]at hc
  have hp:10^(k+1)=10^k*10:=Nat.pow_succ 10 k
  have:=uR r (a*10+(c-48)) (k+1) h.2 (Er h1 (bU (Pj hc.2 48) (by decide)))
  rw[gE,show k+(r.length+1)=k+1+r.length from gX k r.length 1]
  exact this
theorem MY{a k:Nat}(h1:a<10^k)(hk:k<=100):bJ .Mult (.int (a:Int)) (.int 10)=some (.int ((a*10:Nat):Int)):=by
 have h2:10^k<=10^100:=PM (by decide) hk
 have h3:a<=iB:=dz (di (di h1 h2) (by decide+kernel))
 show(if(small (a:Int)&&small 10)=true then some (PV.int ((a:Int)*10))else none)=_
 rw[if_pos]
 ·rfl
 ·rw[aI]
  exact⟨decide_eq_true h3,by decide+kernel⟩
theorem MZ{a:Nat}(h:bc c=true):bJ .Add (.int (a:Int)) (.int ((c:Int)-48))=some (.int ((a+(c-48):Nat):Int)):=by
 unfold bc at h
 simp only[aI,decide_eq_true_eq]at h
 show some (PV.int ((a:Int)+((c:Int)-48)))=_
 congr 2;exact congrArg (λz=>(a:Int)+z) (wV h).symm
theorem M0(hx:t.length<=90):aO C false (ag 21) [.str t]= .ok (cK t):=by
 have hS:Sm t:=by unfold Sm;exact aL ‹_› (by rfl)
 refine du (names:=[aa "text"]) (by kernel_rfl) rfl ?_
 show aw _ _ [(aa "text", .str t)]=_
 (conv=>lhs;arg 2;whnf)
 cases t with
 |nil=>
  refine la (c:=(([]:List Nat)==[])||false) (gh (iJ ?_ λq=>absurd q (by decide))) rfl ?_ rfl
  ·(repeat' first|tb_rel|exact bj)
  ·(refine aD ?_ rfl;apply a6;(focus ((repeat' first|tb_rel);done)))
   rfl
 |cons c r=>
  by_cases hc:c=48
  ·refine la (c:=((c::r)==[])||(([c]==[48])||false)) (gh (iJ ?_ λq=>iJ ?_ λq=> ?_)) (by simp[hc]) ?_ rfl
   ·(repeat' first|tb_rel|exact bj)
   ·(repeat' first|tb_rel|exact uQ|exact bj)
   ·rw[hc]at q;exact absurd q (by decide)
   ·(refine aD ?_ rfl;apply a6;(focus ((repeat' first|tb_rel);done)))
    unfold cK aR
    simp[hc]
  ·cases ha:(c::r).all bc with
   |false=>
    have hb:(!((((c::r).filter λc=> !bc c).map λc=>PV.str [c]).isEmpty))=true:=by
     refine ay (List.all_eq_false.mp ha) λd hd hf=> ?_
     cases q:(c::r).filter λc=> !bc c with
     |nil=>have:=wG.mp q d hd;simp at this;simp[this]at hf
     |cons e s=>rfl
    (apply cm;(focus ((repeat' first|tb_rel|exact bj|exact uQ|(with_reducible apply jj;kernel_rfl)|exact uP hS|(refine mu (λc=> .str [c]) _ (λc=> !bc c) (by kernel_rfl) ?_ ?_)|exact BQ|exact oj);done));(focus (rw[hb];simp;done));(focus (exact rfl)))
    (refine aD ?_ rfl;apply a6;(focus ((repeat' first|tb_rel);done)))
    unfold cK aR
    simp[ha]
   |true=>
    have hb:(!((((c::r).filter λc=> !bc c).map λc=>PV.str [c]).isEmpty))=false:=by
     have:(c::r).filter (λc=> !bc c)=[]:=wG.mpr λd hd=>by
      rw[ba.mp ha d hd];simp
     rw[this];rfl
    (apply br;(focus ((repeat' first|tb_rel|exact bj|exact uQ|(with_reducible apply jj;kernel_rfl)|exact uP hS|(refine mu (λc=> .str [c]) _ (λc=> !bc c) (by kernel_rfl) ?_ ?_)|exact BQ|exact oj);done));(focus (rw[hb];simp[hc];done));(focus (exact aS)))
    (apply aP;(focus (apply bg;kernel_rfl;(focus ((repeat' first|tb_rel);done));lcg_sub)))
    refine MT (items:=(c::r).map λc=> .str [c]) (λi ρ=>∃tl,ρ=(aa "text", .str (c::r))::(aa "number", .int (gP ((c::r).take i) 0:Nat))::tl/\ (tl=[] \/∃w,tl=[(aa "sign",w)])) (by kernel_rfl) (by(repeat' first|tb_rel)) (uP hS) ⟨[],rfl, .inl rfl⟩ ?_ ?_
    ·intro i v ρ hv zn1
     obtain⟨tl,rfl,htl⟩:=zn1
     rw[lB]at hv
     cases hd:(c::r)[i]? with
     |none=>rw[hd]at hv;exact am hv
     |some d=>
      rw[hd]at hv;obtain rfl:=aq hv
      have hlt:i<(c::r).length:=(v4.mp hd).1
      have hf:bc d=true:=ba.mp ha d (Dv hd)
      have hb:=uR ((c::r).take i) 0 0 (ba.mpr λz hz=>ba.mp ha z (wC hz)) (by decide)
      have hn:gP ((c::r).take (i+1)) 0=gP ((c::r).take i) 0*10+(d-48):=by
       unfold gP
       rw[wj,hd,lF];rfl
      rw[hn]
      rcases htl with rfl|⟨w,rfl⟩
      all_goals
       apply MU
       ·apply MV
        lcg_sub
        (apply aP;(focus (apply bg;kernel_rfl;(focus ((repeat' first|tb_rel|exact MY hb (by rw[eV,jw];exact bX (mG _ _) hx (by rfl))|exact MX hf|exact MZ hf);done));lcg_sub)))
        exact aS
       ·exact⟨_,rfl, .inr ⟨_,rfl⟩⟩
    ·intro ρ' zn2
     obtain⟨tl,rfl,htl⟩:=zn2
     rw[cu,Dh]
     have hv:cK (c::r)= .int (gP (c::r) 0:Nat):=by
      have hn:aR (c::r)=true:=by unfold aR;rw[ha];simp[hc]
      unfold cK aM
      rw[if_pos hn]
      congr 1
      exact pH _ 0 λd hd=>by
       have:=ba.mp ha d hd
       unfold bc at this
       simp only[aI,decide_eq_true_eq]at this
       exact this.1
     rw[hv]
     rcases htl with rfl|⟨w,rfl⟩
     all_goals
      (refine aD ?_ rfl;apply a6;(focus ((repeat' first|tb_rel);done)))
      rfl
end
end
section
theorem qG(c:Nat):∀s:List Nat,∀p∈bK c s,p.length<=s.length
 |[],p,h=>by
  rw[show bK c []=[[]]from rfl,dw]at h;subst h;exact bP _
 |d::r,p,h=>by
  unfold bK at h
  by_cases hd:d=c
  ·rw[if_pos hd]at h
   rcases bS.mp h with rfl|h
   ·exact dR _
   ·exact DD (qG c r p h)
  ·rw[if_neg hd]at h
   cases e:bK c r with
   |nil=>
    rw[e]at h
    have h:p∈[[d]]:=h
    rw[dw]at h;subst h;simp
   |cons w ws=>
    rw[e]at h
    have h:p∈(d::w)::ws:=h
    rcases bS.mp h with rfl|h
    ·have:=qG c r w (by rw[e];exact .head _)
     simp;exact‹_›
    ·have:=qG c r p (by rw[e];exact .tail _ h)
     simp;exact iW ‹_›
theorem BR(c:Nat):∀s:List Nat,(bK c s).length<=s.length+1/\ bK c s≠[]
 |[]=>by constructor<;>simp[bK]
 |d::r=>by
  refine xA (BR c r) λh1 h2=> ?_
  unfold bK
  by_cases hd:d=c
  ·rw[if_pos hd];simp;omega
  ·rw[if_neg hd]
   cases e:bK c r with
   |nil=>exact absurd e h2
   |cons w ws=>rw[e]at h1;simp at h1 ⊢;exact iW ‹_›
noncomputable def iO(l:List (List Nat)):Option bh:=match l with
 |[]=>none
 |a::r=>match r with
  |[]=>if aR a=true then some (.one a)else none
  |b::r=>if(r.isEmpty&&aR a&&aR b)=true then some (.two a b)else none
noncomputable def fe(t:List Nat):Option (List Nat×bh):=
 if t.takeWhile aK=[]then none else if t.dropWhile aK=[]then some (t.takeWhile aK, .none)else(iO (bK 120 (t.dropWhile aK))).map λs=>(t.takeWhile aK,s)
theorem M3{l:List (List Nat)}(h:l.length>2):iO l=none:=by
 cases l with
 |nil=>rfl
 |cons a r=>cases r with
  |nil=>exact absurd h (Nat.not_lt_of_le (mQ 1))
  |cons b r=>cases r with
   |nil=>exact absurd h (js 2)
   |cons=>rfl
theorem uS{l:List (List Nat)}{s:bh}(h:iO l=some s):(∃a,l=[a]/\ aR a=true/\ s= .one a) \/∃a b,l=[a,b]/\ aR a=true/\ aR b=true/\ s= .two a b:=by
 cases l with
 |nil=>exact am h
 |cons a r=>cases r with
  |nil=>
   refine xA (eA h) λh1 h2=> ?_
   exact .inl ⟨a,rfl,h1,h2.symm⟩
  |cons b r=>
   refine xA (eA h) λh1 h2=> ?_
   refine xA (ew h1) λh1 h3=> ?_
   refine xA (ew h1) λh1 h4=> ?_
   exact .inr ⟨a,b,by rw[gY.mp h1],h4,h3,h2.symm⟩
theorem M4{l:List (List Nat)}{s:bh}(h:iO l=some s):(l.any λp=> !aR p)=false:=by
 rcases uS h with ⟨a,rfl,h1,_⟩|⟨a,b,rfl,h1,h2,_⟩
 ·show(!aR a||false)=false;rw[h1];rfl
 ·show(!aR a||(!aR b||false))=false;rw[h1,h2];rfl
theorem M5{l:List (List Nat)}(h:(l.any λp=> !aR p)=true):iO l=none:=by
 cases q:iO l with
 |none=>rfl
 |some s=>rw[M4 q]at h;exact bZ h
theorem M6{l:List (List Nat)}(h0:l≠[])(h2:¬l.length>2)(h:(l.any λp=> !aR p)=false):∃s,iO l=some s:=by
 cases l with
 |nil=>exact absurd rfl h0
 |cons a r=>
  have h:=kx.mp h
  have ha:aR a=true:=by rw[DO]at h;exact h.1
  cases r with
  |nil=>exact⟨_,if_pos ha⟩
  |cons b r=>
   have hb:aR b=true:=by have:=(kx.mp h.2).1;rwa [DO]at this
   cases r with
   |nil=>exact⟨_,if_pos (by rw[ha,hb];rfl)⟩
   |cons=>exact absurd (bV 3 _) h2
noncomputable def uT:Option (List Nat×bh)->PV
 |none=> .none
 |some (b,s)=> .list [.str (ao (aa "name")), .str b,cJ s]
section
variable{C:Calls}{t:List Nat}{xs:List PV}
theorem ol(h:xs.length<=1000):da (aa "len") [.list xs]=some (.int (xs.length:Nat)):=by
 have:=dJ
 rw[qg]
 exact if_pos (aL ‹_› (by rfl))
theorem uU{n:Nat}:bn C .Gt (.int (n:Int)) (.int 2)= .ok (decide (n>2)):=by
 show Res.ok (decide ((n:Int)>2))=_
 congr 1
 by_cases h:n>2
 ·rw[decide_eq_true h,decide_eq_true];exact mF.mpr h
 ·rw[decide_eq_false h,decide_eq_false];exact λq=>h (mF.mp q)
theorem BS{n:Nat}:bn C .Eq (.int (n:Int)) (.int 1)= .ok (n==1):=lf (a:=n) (b:=1)
theorem uV{n:Nat}:bn C .Eq (.int (n:Int)) (.int 0)= .ok (n==0):=lf (a:=n) (b:=0)
theorem gi{a:PV}{r:List PV}:fu (.list (a::r)) (.int 0)=some a:=by
 exact mq _ 0 (by decide)
theorem gQ{a b:PV}{r:List PV}:fu (.list (a::b::r)) (.int 1)=some b:=by
 exact mq _ 1 (by decide)
theorem uW{a b c:PV}{r:List PV}:fu (.list (a::b::c::r)) (.int 2)=some c:=by
 exact mq _ 2 (by decide)
theorem M7(h:Sm t){c:Nat}:cn (aa "split") t [.str [c]]=some (.list ((bK c t).map .str)):=by
 rw[Lq]
 exact if_pos (by have:=dJ;unfold Sm at h;exact aL ‹_› (by rfl))
theorem BU(ps:List (List Nat)):bn C .In .none (.list (ps.map cK))= .ok (ps.any λp=> !aR p):=by
 have h1:(PV.none.flat 4&&(ps.map cK).all (PV.flat 4))=true:=by
  rw[aI]
  refine⟨rfl,ba.mpr λv hv=> ?_⟩
  refine ay (iw.mp hv) λp ø zq2=> ?_;subst zq2
  unfold cK
  by_cases h:aR p=true
  ·rw[if_pos h];rfl
  ·rw[if_neg h];rfl
 show aE (if(PV.none.flat 4&&(ps.map cK).all (PV.flat 4))=true then some ((ps.map cK).any λy=>y.same .none)else none)=_
 rw[if_pos h1]
 show Res.ok _=_
 congr 1
 rw[wH]
 congr 1
 funext p
 unfold cK
 by_cases h:aR p=true
 ·show(if aR p=true then PV.int (aM p)else .none).same .none=_
  rw[if_pos h,h];rfl
 ·show(if aR p=true then PV.int (aM p)else .none).same .none=_
  rw[if_neg h,v6.mpr h];rfl
theorem Rg(h:Sm t){a:Nat}(ha:a<=1000):gJ (.str t) (.int (a:Int)) .none=some (.str (t.drop a)):=qz h ha
theorem M8(hN:∀s:List Nat,s.length<=90->C.fn (aa "_law_number") [.str s]= .ok (cK s)) (hx:t.length<=90):aO C false (ag 23) [.str t]= .ok (uT (fe t)):=by
 have hS:Sm t:=by unfold Sm;exact aL ‹_› (by rfl)
 refine du (names:=[aa "text"]) (by kernel_rfl) rfl ?_
 show aw _ _ [(aa "text", .str t)]=_
 (conv=>lhs;arg 2;whnf)
 (apply aP;(focus (apply bg;kernel_rfl;(focus ((repeat' first|tb_rel);done));lcg_sub)))
 obtain⟨m,hm⟩:∃m,m=((t.drop 0).takeWhile aK).length:=⟨_,rfl⟩
 have hml:0+m<=t.length:=by
  have:=(o0 (p:=aK) (l:=t.drop 0)).length_le
  rw[eu]at this;exact mY (dR _) hm this
 have hrest:=qB (f:=aK) hm
 apply aP;focus refine ml (nV (λk=>[(aa "text", .str t),(aa "size", .int (k:Int))]) m 0 _ (by unfold jK;exact bU (aj (bV _ _) hml) (fo hx (by rfl))) (λi h1 h2=> ?_) ?_)
 ·refine ay (nY (f:=aK) h1 (hm▸h2)) λc hc hf=> ?_
  refine⟨ku (b:=Res.ok (decide (i<t.length)&&aK c)) ?_ (by rw[hf,decide_eq_true (di ‹_› ‹_›)];rfl),?_⟩
  ·(repeat' first|tb_rel|exact fJ hS|exact jn|exact iL (bX (aj (dz h2) hml) hx (by rfl)) hc|exact qA)
  ·(apply aP;(focus (apply qr;tb_start;(focus ((repeat' first|tb_rel);done));(focus (first|exact cH|exact j0|exact rfl));lcg_sub)))
   exact aS
 ·by_cases hend:0+m<t.length
  ·have hc:=fV hend
   refine ku (b:=Res.ok (decide (0+m<t.length)&&aK t[0+m])) ?_ (by rw[(qC (f:=aK) (x:=t) (p:=0) (by rw[<-hm];exact hc)),kr])
   (repeat' first|tb_rel|exact fJ hS|exact jn|exact iL (bX ‹_› ‹_› (by rfl)) hc|exact qA)
  ·refine ku (b:=Res.ok (decide (0+m<t.length)&&false)) ?_ (by rw[kr])
   refine gh (kZ (nU ?_) λq=>absurd (of_decide_eq_true q) hend)
   (repeat' first|tb_rel|exact fJ hS|exact jn)
 rw[gD,gD]at hrest
 rw[gD]at hm
 rw[eV]at hrest hml ⊢
 (apply aP;(focus (apply bg;kernel_rfl;(focus ((repeat' first|tb_rel|(rw[qz hS (bX ‹_› ‹_› (by rfl)),hrest.2]));done));lcg_sub)))
 have hnm:fe t=(if t.takeWhile aK=[]then none else if t.dropWhile aK=[]then some (t.takeWhile aK, .none)else(iO (bK 120 (t.dropWhile aK))).map λs=>(t.takeWhile aK,s)):=rfl
 have htk:t.take m=t.takeWhile aK:=hrest.1
 by_cases hb:t.takeWhile aK=[]
 ·have h0:m=0:=by rw[hm,hb];rfl
  rw[if_pos hb]at hnm
  rw[hnm]
  (apply cm;(focus ((repeat' first|tb_rel|exact uV);done));(focus (simp[h0];done));(focus (exact rfl)))
  (refine aD ?_ rfl;apply a6;(focus ((repeat' first|tb_rel);done)))
  rfl
 ·have h0:m≠0:=λq=>hb (oR (hm▸q))
  rw[if_neg hb]at hnm
  (apply br;(focus ((repeat' first|tb_rel|exact uV);done));(focus (simp[h0];done));(focus (exact aS)))
  by_cases hr:t.dropWhile aK=[]
  ·rw[if_pos hr]at hnm
   rw[hnm]
   have ht:t.takeWhile aK=t:=by
    have:=mR (p:=aK) (l:=t)
    rwa [hr,kj]at this
   (apply cm;(focus ((repeat' first|tb_rel|exact bj);done));(focus (rw[hr];rfl;done));(focus (exact rfl)))
   (refine aD ?_ rfl;apply a6;(focus ((repeat' first|tb_rel);done)))
   rw[ht];rfl
  ·rw[if_neg hr]at hnm
   (apply br;(focus ((repeat' first|tb_rel|exact bj);done));(focus (exact beq_eq_false_iff_ne.mpr hr;done));(focus (exact aS)))
   have hrl:(t.dropWhile aK).length<=t.length:=(List.dropWhile_sublist _).length_le
   have hSr:Sm (t.dropWhile aK):=by unfold Sm;exact aj ‹_› ‹_›
   have hcnt:=BR 120 (t.dropWhile aK)
   have hsl:=qG 120 (t.dropWhile aK)
   obtain⟨ps,hps⟩:∃ps,ps=bK 120 (t.dropWhile aK):=⟨_,rfl⟩
   apply aP
   focus
    apply Mw
    focus kernel_rfl
    focus
     (with_reducible apply jj)
     focus kernel_rfl
     (focus ((repeat' first|tb_rel|exact M7 hSr)))
     (focus (exact oi (by rw[cu];exact aL (aj hcnt.1 (er (aj hrl hx))) (by rfl))))
     (focus (refine gO PV.str _ cK (by kernel_rfl) (λa ha=> ?_);have hal:=hsl a ha;(repeat' first|tb_rel|exact hN _ (aj hal (aj hrl hx)))))
    lcg_sub
   rw[<-hps]at hcnt hsl hnm ⊢
   have hlen:(ps.map cK).length<=1000:=by rw[cu];exact aL (aj hcnt.1 (er (aj hrl hx))) (by rfl)
   by_cases h2:ps.length>2
   ·have hn:fe t=none:=by rw[hnm,M3 h2];rfl
    rw[hn]
    refine la (c:=decide ((ps.map cK).length>2)||false) (gh (iJ ?_ λq=>absurd q ?_)) (by rw[cu];simp[h2]) ?_ rfl
    ·(repeat' first|tb_rel|exact ol hlen|exact uU)
    ·rw[cu];simp[h2]
    ·(refine aD ?_ rfl;apply a6;(focus ((repeat' first|tb_rel);done)))
     rfl
   ·cases ha:ps.any (λp=> !aR p)with
    |true=>
     have hn:fe t=none:=by rw[hnm,M5 ha];rfl
     rw[hn]
     (apply cm;(focus ((repeat' first|tb_rel|exact ol hlen|exact uU|exact BU ps);done));(focus (rw[ha];simp;done));(focus (exact rfl)))
     (refine aD ?_ rfl;apply a6;(focus ((repeat' first|tb_rel);done)))
     rfl
    |false=>
     (apply br;(focus ((repeat' first|tb_rel|exact ol hlen|exact uU|exact BU ps);done));(focus (rw[ha,cu];simp;exact Nat.le_of_not_lt ‹_›;done));(focus (exact aS)))
     refine xE (M6 hcnt.2 h2 ha) λs hs=> ?_
     rw[hs]at hnm
     rw[hnm]
     rcases uS hs with ⟨a,rfl,h3,rfl⟩|⟨a,b,rfl,h3,h4,rfl⟩
     ·have hpv:cK a= .int (aM a):=by unfold cK;rw[if_pos h3]
      (refine aD ?_ rfl;apply a6;(focus ((repeat' first|tb_rel|(with_reducible apply lb)|exact ol (by decide)|exact BS|exact gi|(rw[mr hS (bX ‹_› ‹_› (by rfl)),htk])|exact rfl);done)))
      rw[hpv];rfl
     ·have hpv:cK a= .int (aM a):=by unfold cK;rw[if_pos h3]
      have hpw:cK b= .int (aM b):=by unfold cK;rw[if_pos h4]
      (refine aD ?_ rfl;apply a6;(focus ((repeat' first|tb_rel|(with_reducible apply lc)|exact ol (by decide)|exact BS|exact gi|exact gQ|(rw[mr hS (bX ‹_› ‹_› (by rfl)),htk])|exact rfl);done)))
      rw[hpv,hpw];rfl
end
end
section
noncomputable def cB(t:List Nat):Nat:=t.length-1-(t.reverse.takeWhile (λc=>c !=91)).length
noncomputable def cL(t:List Nat):List Nat:=(t.take (t.length-1)).drop (cB t+1)
noncomputable def ff(t:List Nat):Bool:=[93].isSuffixOf t&&ci [91] t
noncomputable def eQ:Nat->List Nat->List aF->Option (List Nat×List aF)
 |0,_,_=>none
 |n+1,t,ds=>if ff t=true then(if cL t=[]then eQ n (t.take (cB t)) (none::ds)else if aR (cL t)=true then eQ n (t.take (cB t)) (some (cL t)::ds)else none)else some (t,ds)
inductive Rd where
 |tup (ps:List (List Nat)) (ds:List aF)
 |nam (b:List Nat) (s:bh) (ds:List aF)
noncomputable def ek:Option Rd->PV
 |none=> .none
 |some (.tup ps ds)=> .list [.list [.str (ao (aa "tuple")), .list (ps.map .str)], .list (ds.map aV)]
 |some (.nam b s ds)=> .list [.list [.str (ao (aa "name")), .str b,cJ s], .list (ds.map aV)]
noncomputable def fM(t:List Nat):Bool:=[40].isPrefixOf t&&[41].isSuffixOf t
noncomputable def d5(t:List Nat):List Nat:=(t.take (t.length-1)).drop 1
noncomputable def rd:Nat->List Nat->Option Rd
 |0,_=>none
 |n+1,t=>match eQ 100 t []with
  |none=>none
  |some (u,ds)=>if fM u=true then(if(cE (d5 u)).any (λp=>(rd n p).isNone)=true then none else some (.tup (cE (d5 u)) ds))else match fe u with
   |none=>none
   |some (b,s)=>some (.nam b s ds)
theorem BV{c:Nat}{t:List Nat}(h:ci [c] t=true):c∈t:=by
 rw[nW]at h;simpa using h
theorem uX{t:List Nat}(h:ff t=true):(t.reverse.takeWhile (λc=>c !=91)).length<t.length/\ t[cB t]? =some 91/\ 1<=(t.reverse.takeWhile (λc=>c !=91)).length:=by
 unfold ff at h
 rw[aI]at h
 refine xA h λh1 h2=> ?_
 obtain⟨m,hme⟩:∃m,m=(t.reverse.takeWhile (λc=>c !=91)).length:=⟨_,rfl⟩
 have hle:=(o0 (p:=λc:Nat=>c !=91) (l:=t.reverse)).length_le
 rw[DP,<-hme]at hle
 have hlt:m<t.length:=by
  refine cr (Nat.lt_or_eq_of_le hle) (λh=> ?_) (λh=> ?_)
  ·exact h
  ·exfalso
   have he:t.reverse.takeWhile (λc=>c !=91)=t.reverse:=(o0 (p:=λc:Nat=>c !=91) (l:=t.reverse)).eq_of_length (by rw[<-hme,DP];exact h)
   have:=ba.mp (mS (p:=λc:Nat=>c !=91) (l:=t.reverse)) 91 (by rw[he,List.mem_reverse];exact(BV h2))
   simp at this
 refine⟨hme▸hlt,?_,?_⟩
 ·have hr:t.reverse[m]? =t[t.length-1-m]? :=PN hlt
  unfold cB
  rw[<-hme,<-hr]
  have hlt':m<t.reverse.length:=by rw[DP];exact hlt
  have he:=fV hlt'
  have:=qC (f:=λc=>c !=91) (x:=t.reverse) (p:=0) (c:=t.reverse[m]) (by rw[gD,<-hme,eV];exact he)
  rw[he]
  rw[show t.reverse[m]=91 from bne_eq_false_iff_eq.mp this]
 ·refine xE (lw.mp h1) λs hs=> ?_
  rw[<-hs,List.reverse_append]
  simp
theorem BW{t:List Nat}(h:ff t=true):cB t+2<=t.length:=by
 refine bM (uX h) λh1 h2 h3=> ?_
 unfold cB;exact Es h1 h3
section
variable{C:Calls}{t:List Nat}
theorem qH{x:List Nat}:cn (aa "endswith") t [.str x]=some (.bool (x.isSuffixOf t)):=by
 rw[Lo];rfl
theorem BX{x:List Nat}:cn (aa "startswith") t [.str x]=some (.bool (x.isPrefixOf t)):=by
 rw[Lp];rfl
theorem qI{a:Nat}(h:1<=a):bJ .Sub (.int (a:Int)) (.int 1)=some (.int ((a-1:Nat):Int)):=by
 show some (PV.int ((a:Int)-1))=_
 congr 2;exact(C1 h).symm
theorem BY{ds:List aF}{d:aF}{v:PV}(hv:v=aV d)(h:ds.length<=900):bJ .Add (.list [v]) (.list (ds.map aV))=some (.list ((d::ds).map aV)):=by
 subst hv
 exact if_pos (show 1+(ds.map aV).length<=aX by have:=dJ;rw[cu];exact mV ‹_› (by rfl))
theorem uY{s:List Nat}:bn C .Is (cK s) .none= .ok (!aR s):=by
 rw[cX]
 unfold cK
 by_cases h:aR s=true<;>simp[h]
theorem BZ{r:Option Rd}:bn C .Is (ek r) .none= .ok r.isNone:=by
 rw[cX]
 cases r with
 |none=>rfl
 |some r=>cases r<;>rfl
theorem M9(y:List Nat):(∀p∈cE y,p.length<=y.length)/\ (cE y).length<=y.length+1:=by
 refine bM (uj y y.length) λø h2 h3=> ?_
 rw[zb]at h2 h3
 exact⟨h3,h2⟩
noncomputable def uZ(tl:ak):Prop:=∀f,(f==aa "at")=false->(f==aa "inner")=false->tl.lookup f=none
theorem Na{u:List Nat}(ht:fM u=true):2<=u.length:=by
 unfold fM at ht
 rw[aI]at ht
 refine xE (lu.mp ht.1) λs1 e1=> ?_
 refine xE (lw.mp ht.2) λs2 e2=> ?_
 cases s1 with
 |nil=>
  rw[<-e1]at e2
  have:=congrArg List.getLast? e2
  simp at this
 |cons a s=>rw[<-e1];simp
theorem Nb{α:Type}{f:α->Bool}{m:α->PV}{l:List α}(h:l.any f=true):(!((l.filter f).map m).isEmpty)=true:=by
 obtain⟨p,hp,hq⟩:=List.any_eq_true.mp h
 cases e:l.filter f with
 |nil=>exact absurd hq (wG.mp e p hp)
 |cons a r=>rfl
theorem Nc{α:Type}{f:α->Bool}{m:α->PV}{l:List α}(h:l.any f=false):(!((l.filter f).map m).isEmpty)=false:=by
 rw[wG.mpr λp hp=>wx.mp h p hp];rfl
inductive om(t:List Nat)(n:Nat)(ρ:ak):Prop
 |mk (u:List Nat) (ds:List aF) (tl:ak) (k:Nat) (h0:n=u.length) (h1:u.length<k) (h2:ρ=(aa "text", .str u)::(aa "dims", .list (ds.map aV))::tl) (h3:uZ tl) (h4:ds.length+u.length<=t.length) (h5:eQ 100 t []=eQ k u ds):om t n ρ
inductive u0(t:List Nat)(ρ:ak):Prop
 |mk (u:List Nat) (ds:List aF) (tl:ak) (h0:ρ=(aa "text", .str u)::(aa "dims", .list (ds.map aV))::tl) (h1:uZ tl) (h2:ds.length+u.length<=t.length) (h3:eQ 100 t []=some (u,ds)):u0 t ρ
theorem Nd(n:Nat)(hN:∀s:List Nat,s.length<=90->C.fn (aa "_law_number") [.str s]= .ok (cK s))
  (hM:∀s:List Nat,s.length<=90->C.fn (aa "_law_name") [.str s]= .ok (uT (fe s)))
  (hPa:∀s:List Nat,s.length<=90->C.fn (aa "_law_parts") [.str s]= .ok (.list ((cE s).map .str)))
  (hR:∀s:List Nat,s.length+2<=t.length->C.fn (aa "_law_read") [.str s]= .ok (ek (rd n s)))
  (hx:t.length<=90):aO C false (ag 24) [.str t]= .ok (ek (rd (n+1) t)):=by
 have hS:Sm t:=by unfold Sm;exact aL ‹_› (by rfl)
 refine du (names:=[aa "text"]) rfl rfl ?_
 show aw _ _ [(aa "text", .str t)]=_
 (conv=>lhs;arg 2;whnf)
 (apply aP;(focus (apply bg;kernel_rfl;(focus ((repeat' first|tb_rel);done));lcg_sub)))
 refine uK
  (om t)
  (u0 t)
  t.length (fo hx (by rfl)) (om.mk t ([]) ([]) 100 rfl (fo hx (by rfl)) rfl (λø ø ø=>rfl) (by simp) rfl) ?_ ?_
 ·intro n' ρ zn1
  obtain⟨u,ds,tl,k,rfl,hk,rfl,htl,hdl,hinv⟩:=zn1
  obtain⟨k,rfl⟩:∃k',k=k'+1:=⟨k-1,ss ‹_›⟩
  have hSu:Sm u:=aL (aj (aj (bV _ _) hdl) hx) (by rfl)
  have f1:=htl (aa "len") (by kernel_rfl) (by kernel_rfl)
  have f2:=htl (aa "_law_number") (by kernel_rfl) (by kernel_rfl)
  have hdef:eQ (k+1) u ds=(if ff u=true then(if cL u=[]then eQ k (u.take (cB u)) (none::ds)else if aR (cL u)=true then eQ k (u.take (cB u)) (some (cL u)::ds)else none)else some (u,ds)):=rfl
  cases hh:ff u with
  |false=>
   rw[if_neg (by rw[hh];simp)]at hdef
   apply dt.stop
   ·apply ei;(focus ((repeat' first|tb_rel|exact qH|exact j3);done));exact hh
   ·exact(u0.mk u ds _ rfl htl hdl (by rw[hinv,hdef]))
  |true=>
   rw[if_pos hh]at hdef
   refine bM (uX hh) λg1 g2 g3=> ?_
   have g4:=BW hh
   have hilen:(cL u).length<=90:=by
    unfold cL
    rw[eu,jw];exact aj (cM _ _) (aj (mG _ _) (aj (aj (bV _ _) hdl) hx))
   obtain⟨m,hm⟩:∃m,m=(u.reverse.takeWhile (λc=>c !=91)).length:=⟨_,rfl⟩
   rw[<-hm]at g1 g3
   have hlast:cB u=u.length-1-m:=by unfold cB;rw[hm]
   have htake:(u.take (cB u)).length=cB u:=by rw[jw];exact Dg (aj (bf _ 2) g4)
   have hmid:(u.take (u.length-1)).drop (u.length-1-m+1)=cL u:=by unfold cL;rw[hlast]
   have htl2:uZ (aQ (aa "inner") (.str (cL u)) (aQ (aa "at") (.int ((u.length-1-m:Nat):Int)) tl)):=λf q1 q2=>jZ q2 (jZ q1 (htl f q1 q2))
   apply dt.pre (ρ3:=(aa "text", .str u)::(aa "dims", .list (ds.map aV))::aQ (aa "inner") (.str (cL u)) (aQ (aa "at") (.int ((u.length-1-m:Nat):Int)) tl))
   ·apply ei;(focus ((repeat' first|tb_rel|exact qH|exact j3);done));exact hh
   ·intro o' ho
    (apply aP;(focus (apply bg;kernel_rfl;(focus ((repeat' first|tb_rel|(with_reducible exact fJ hSu)|((with_reducible apply qI);(focus exact aj (bV _ _) ‹_›)));done));lcg_sub)))
    apply aP;focus refine ml (nV (λk=>(aa "text", .str u)::(aa "dims", .list (ds.map aV))::aQ (aa "at") (.int ((u.length-1-k:Nat):Int)) tl) m 0 _ (by unfold jK;exact di ‹_› ‹_›) (λi h1 h2=> ?_) ?_)
    ·refine ay (nY (f:=λc=>c !=91) (x:=u.reverse) (p:=0) (i:=i) h1 (by rw[gD,<-hm];exact h2)) λc hc hf=> ?_
     have hc':u[u.length-1-i]? =some c:=by rw[<-hc];exact(PN (ro (eV m▸h2) g1)).symm
     refine⟨?_,?_⟩
     ·apply ei;(focus ((repeat' first|tb_rel|exact iL (aL (aj (aj (cM _ _) (cM _ _)) hSu) (by rfl)) hc'|exact fK);done));simpa[bne] using hf
     ·apply aP
      focus
       apply Mx
       tb_start
       focus (repeat' first|tb_rel)
       focus exact qI (Nat.sub_pos_of_lt (di (eV m▸h2) (CZ g1)))
       lcg_sub
      exact aS
    ·apply ei;(focus ((repeat' first|tb_rel|(rw[eV];exact iL (aL (aj (aj (cM _ _) (cM _ _)) hSu) (by rfl)) (hlast▸g2))|exact fK);done));rfl
    rw[eV]
    (apply aP;(focus (apply bg;kernel_rfl;(focus ((repeat' first|tb_rel|(with_reducible exact fJ hSu)|((with_reducible apply qI);(focus exact aj (bV _ _) ‹_›))|(with_reducible exact cH)|(exact(ej (a:=u.length-1-m+1) (b:=u.length-1) hSu (d9 (aj (aj (cM _ _) (cM _ _)) hSu) (by rfl)) (wT ‹_› (by rfl))).trans (congrArg (λz=>some (PV.str z)) hmid)));done));lcg_sub)))
    exact ho
   ·by_cases hi:cL u=[]
    ·rw[if_pos hi]at hdef
     apply dt.next (n':=(u.take (cB u)).length)
     ·rfl
     ·show aw _ _ _=_
      (apply br;(focus ((repeat' first|tb_rel|exact fK|exact hN _ hilen|exact uY);done));(focus (rw[hi];rfl;done));(focus (exact aS)))
      (apply aP;(focus (apply bg;kernel_rfl;(focus ((repeat' first|tb_rel|(with_reducible apply lc)|exact fK|(rw[hi];rfl)|exact BY (d:=none) rfl (eY ‹_› ‹_› (by rfl)));done));lcg_sub)))
      (apply aP;(focus (apply bg;kernel_rfl;(focus ((repeat' first|tb_rel|(rw[mr hSu (aL (aj (aj (cM _ _) (cM _ _)) hSu) (by rfl)),<-hlast]));done));lcg_sub)))
      exact aS
     ·exact bU (bG htake) (iT g4)
     ·exact(om.mk (u.take (cB u)) (none::ds) _ k rfl (di (bU (bG htake) (iT g4)) (vN hk)) rfl htl2 (by rw[htake];simp;exact aj (bG (gW _ 1 _)) (aj (d7 (aj (bG (ir 1 _)) (dz g4)) _) hdl)) (by rw[hinv,hdef]))
    ·rw[if_neg hi]at hdef
     cases hn:aR (cL u)with
     |false=>
      rw[hn]at hdef
      refine dt.ret .none rfl ?_ ?_
      ·show aw _ _ _=_
       (apply cm;(focus ((repeat' first|tb_rel|exact fK|exact hN _ hilen|exact uY);done));(focus (rw[hn];simp[bne,hi];done));(focus (exact rfl)))
       (refine aD ?_ rfl;apply a6;(focus ((repeat' first|tb_rel);done)))
       rfl
      ·have:rd (n+1) t=none:=by unfold rd;rw[hinv,hdef];rfl
       rw[this];rfl
     |true=>
      have hpv:cK (cL u)= .int (aM (cL u)):=by unfold cK;rw[if_pos hn]
      rw[if_pos hn]at hdef
      apply dt.next (n':=(u.take (cB u)).length)
      ·rfl
      ·show aw _ _ _=_
       (apply br;(focus ((repeat' first|tb_rel|exact fK|exact hN _ hilen|exact uY);done));(focus (rw[hn];simp;done));(focus (exact aS)))
       (apply aP;(focus (apply bg;kernel_rfl;(focus ((repeat' first|tb_rel|(with_reducible apply lb)|exact fK|exact hN _ hilen|(show(cL u !=[])=true;simp[bne,hi])|exact BY (d:=some (cL u)) (by rw[hpv];rfl) (eY ‹_› ‹_› (by rfl)));done));lcg_sub)))
       (apply aP;(focus (apply bg;kernel_rfl;(focus ((repeat' first|tb_rel|(rw[mr hSu (aL (aj (aj (cM _ _) (cM _ _)) hSu) (by rfl)),<-hlast]));done));lcg_sub)))
       exact aS
      ·exact bU (bG htake) (iT g4)
      ·exact(om.mk (u.take (cB u)) (some (cL u)::ds) _ k rfl (di (bU (bG htake) (iT g4)) (vN hk)) rfl htl2 (by rw[htake];simp;exact aj (bG (gW _ 1 _)) (aj (d7 (aj (bG (ir 1 _)) (dz g4)) _) hdl)) (by rw[hinv,hdef]))
 ·intro ρ zn2
  obtain⟨u,ds,tl,rfl,htl,hdl,hinv⟩:=zn2
  have hSu:Sm u:=aL (aj (aj (bV _ _) hdl) hx) (by rfl)
  have f1:=htl (aa "len") (by kernel_rfl) (by kernel_rfl)
  have f3:=htl (aa "_law_parts") (by kernel_rfl) (by kernel_rfl)
  have f4:=htl (aa "_law_name") (by kernel_rfl) (by kernel_rfl)
  have hrd:rd (n+1) t=(if fM u=true then(if(cE (d5 u)).any (λp=>(rd n p).isNone)=true then none else some (.tup (cE (d5 u)) ds))else match fe u with
   |none=>none
   |some (b,s)=>some (.nam b s ds)):=by
   show(match eQ 100 t []with|none=>none|some (u,ds)=>_)=_
   rw[hinv]
  cases ht:fM u with
  |true=>
   rw[if_pos ht]at hrd
   have ht2:2<=u.length:=Na ht
   have hml:(d5 u).length+2<=t.length:=by unfold d5;rw[eu,jw];exact aj (Et ht2) (aj (bV _ _) hdl)
   refine xA (M9 (d5 u)) λhpb hpc=> ?_
   have hlen:((cE (d5 u)).map PV.str).length<=1000:=by rw[cu];exact bX (aj hpc (dz hml)) hx (by rfl)
   have hmid:(u.take (u.length-1)).drop 1=d5 u:=rfl
   (apply cm;(focus ((repeat' first|tb_rel|exact qH|exact BX);done));(focus (exact ht;done));(focus (exact rfl)))
   (apply aP;(focus (apply bg;kernel_rfl;(focus ((repeat' first|tb_rel|(with_reducible exact fJ hSu)|((with_reducible apply qI);(focus exact Nat.le_of_succ_le ht2))|(exact(ej (a:=1) hSu (bz (by rfl)) (wT hSu (by rfl))).trans (congrArg (λz=>some (PV.str z)) hmid))|exact hPa _ (aj (aj (bf _ 2) hml) hx));done));lcg_sub)))
   cases ha:(cE (d5 u)).any (λp=>(rd n p).isNone)with
   |true=>
    rw[if_pos ha]at hrd
    rw[hrd]
    (apply cm;(focus ((repeat' first|tb_rel|(with_reducible apply jj;kernel_rfl)|exact oi hlen|(refine mu PV.str _ (λp=>(rd n p).isNone) (Eq.refl true) ?_ ?_)|(exact hR _ (aj (iq (hpb _ (by assumption)) 2) hml))|exact BZ|exact oj);done));(focus (exact Nb ha;done));(focus (exact rfl)))
    (refine aD ?_ rfl;apply a6;(focus ((repeat' first|tb_rel);done)))
    rfl
   |false=>
    rw[if_neg (by rw[ha];simp)]at hrd
    rw[hrd]
    (apply br;(focus ((repeat' first|tb_rel|(with_reducible apply jj;kernel_rfl)|exact oi hlen|(refine mu PV.str _ (λp=>(rd n p).isNone) (Eq.refl true) ?_ ?_)|(exact hR _ (aj (iq (hpb _ (by assumption)) 2) hml))|exact BZ|exact oj);done));(focus (exact Nc ha;done));(focus (exact aS)))
    (refine aD ?_ rfl;apply a6;(focus ((repeat' first|tb_rel);done)))
    rfl
  |false=>
   rw[if_neg (by rw[ht];simp)]at hrd
   (apply br;(focus ((repeat' first|tb_rel|exact qH|exact BX);done));(focus (exact ht;done));(focus (exact aS)))
   have h1:=hM u (aj (aj (bV _ _) hdl) hx)
   cases e:fe u with
   |none=>
    rw[e]at hrd h1
    have hrd:rd (n+1) t=none:=hrd
    rw[hrd]
    (apply aP;(focus (apply bg;kernel_rfl;(focus ((repeat' first|tb_rel|exact h1);done));lcg_sub)))
    (refine aD ?_ rfl;apply a6;(focus ((repeat' first|tb_rel|(with_reducible apply lb)|exact cX|exact rfl);done)))
    rfl
   |some z=>
    obtain⟨b,s⟩:=z
    rw[e]at hrd h1
    have hrd:rd (n+1) t=some (.nam b s ds):=hrd
    rw[hrd]
    (apply aP;(focus (apply bg;kernel_rfl;(focus ((repeat' first|tb_rel|exact h1);done));lcg_sub)))
    (refine aD ?_ rfl;apply a6;(focus ((repeat' first|tb_rel|(with_reducible apply lc)|exact cX|exact rfl);done)))
    rfl
end
end
section
theorem Nf(d:List Nat):gP d 0=NumText.digitsVal d:=rfl
theorem j4{d:List Nat}(h:aR d=true):d≠[]/\ d.head?≠some 48/\ d.all bc=true:=by
 unfold aR at h
 simp only[aI,lz,bne_iff_ne,ne_eq]at h
 exact⟨λq=>by rw[q]at h;simp at h,h.1.2,h.2⟩
theorem j5{c:Nat}(h:bc c=true):48<=c/\ c<=57:=by
 unfold bc at h
 simpa only[aI,decide_eq_true_eq] using h
theorem u3{d:List Nat}(h:d.all bc=true):aM d=(gP d 0:Nat):=pH d 0 λc hc=>(j5 (ba.mp h c hc)).1
theorem u4{d:List Nat}(h:aR d=true):ey (aM d)=d:=by
 refine bM (j4 h) λh1 h2 h3=> ?_
 rw[u3 h3]
 show(PySem.Str.ofString (toString ((gP d 0:Nat):Int))).cps.toList=d
 rw[PySem.W.KIN.signs_num,Nf]
 obtain⟨n,hn⟩:∃n,d.length=n+1:=⟨d.length-1,by have:=DN.mpr h1;exact D5 ‹_›⟩
 rw[NumText.toDigits_digitsVal n d hn (λc hc=>j5 (ba.mp h3 c hc)) (.inr (by
  cases d with
  |nil=>exact absurd rfl h1
  |cons c r=>
   have h8:=j5 (ba.mp h3 c (.head _))
   refine⟨c,r,rfl,?_⟩
   have:c≠48:=λq=>h2 (by rw[q];rfl)
   exact Nat.lt_of_le_of_ne h8.1 (cF this)))]
 rw[o4]
 have:∀c∈d,(Char.toNat∘Char.ofNat) c=c:=λc hc=>by
  have:=j5 (ba.mp h3 c hc)
  have hv:c.isValidChar:= .inl (bU this.2 (by decide))
  show(Char.ofNat c).toNat=c
  unfold Char.ofNat
  rw[dif_pos hv];rfl
 conv=>rhs;rw[<-List.map_id d]
 exact PO this
theorem u5{d:List Nat}(h:aR d=true)(hl:d.length<=90):small (aM d)=true:=by
 have h3:=(j4 h).2.2
 have h4:=uR d 0 0 h3 (by decide)
 rw[eV]at h4
 have h2:10^d.length<=10^100:=PM (by decide) (aL ‹_› (by rfl))
 rw[u3 h3]
 exact decide_eq_true (dz (di (di h4 h2) (by decide+kernel)))
noncomputable def cg:aF->List Nat
 |none=>[91,93]
 |some d=>[91]++d++[93]
noncomputable def a9(ds:List aF):List Nat:=(ds.map cg).flatten
noncomputable def bO:bh->List Nat
 | .none=>[]
 | .one a=>a
 | .two a b=>a++[120]++b
mutual
noncomputable def sh:Ty->List Nat
 | .bas b s ds=>b++bO s++a9 ds
 | .tup cs ds=>[40]++aG [44] (oo cs)++[41]++a9 ds
noncomputable def oo:List Ty->List (List Nat)
 |[]=>[]
 |T::r=>sh T::oo r
end
theorem qJ:∀cs,oo cs=cs.map sh
 |[]=>rfl
 |T::r=>by show sh T::oo r=_;rw[qJ r];rfl
noncomputable def dg:aF->Bool
 |none=>true
 |some d=>aR d
noncomputable def d6:bh->Bool
 | .none=>true
 | .one a=>aR a
 | .two a b=>aR a&&aR b
mutual
noncomputable def wf:Ty->Bool
 | .bas b s ds=> !b.isEmpty&&b.all aK&&d6 s&&ds.all dg
 | .tup cs ds=> !cs.isEmpty&&qK cs&&ds.all dg
noncomputable def qK:List Ty->Bool
 |[]=>true
 |T::r=>wf T&&qK r
end
theorem B0:∀cs,qK cs=cs.all wf
 |[]=>rfl
 |T::r=>by show(wf T&&qK r)=_;rw[B0 r];rfl
theorem Ng:∀d,2<=(cg d).length
 |none=>bP _
 |some d=>by simp[cg]
theorem lg:∀ds:List aF,2*ds.length<=(a9 ds).length/\ ∀d∈ds,(cg d).length<=(a9 ds).length
 |[]=>⟨dR _,λd h=>nomatch h⟩
 |d::r=>by
  refine xA (lg r) λh1 h2=> ?_
  have:=Ng d
  have e:(a9 (d::r)).length=(cg d).length+(a9 r).length:=by simp[a9]
  refine⟨aj (bG (ir (2*r.length) 2)) (aj (rA this h1) (bG e.symm)),λx hx=> ?_⟩
  refine cr (bS.mp hx) (λq=> ?_) (λhx=> ?_)
  ·rw[q];exact iX e
  ·exact aj (h2 x hx) (pb e)
theorem B1:∀ws:List (List Nat),aG [] ws=ws.flatten
 |[]=>rfl
 |[x]=>by simp[aG]
 |x::y::r=>by
  show x++[]++aG [] (y::r)=_
  rw[B1 (y::r)];simp
theorem B2:∀ws:List (List Nat),cV (ws.map PV.str)=some ws
 |[]=>rfl
 |w::r=>by
  show(cV (r.map .str)).map (w:: ·)=_
  rw[B2 r];rfl
theorem B3:∀bs:List Bool,i4 (bs.map PV.bool)=some bs
 |[]=>rfl
 |b::r=>by
  show(i4 (r.map .bool)).map (b:: ·)=_
  rw[B3 r];rfl
section
variable{C:Calls}
theorem qL{s:List Nat}{ws:List (List Nat)}(h:s.length+(aG s ws).length<=1000):cn (aa "join") s [.list (ws.map .str)]=some (.str (aG s ws)):=by
 rw[AQ]
 show((cV (ws.map .str)).bind λws=>if s.length+(aG s ws).length<=aX then some (PV.str (aG s ws))else none)=_
 rw[B2]
 exact if_pos (by have:=dJ;exact aL ‹_› (by rfl))
theorem Nh{xs:List PV}(h:xs.length<=1000):da (aa "list") [.tuple xs]=some (.list xs):=by
 rw[Ln]
 exact if_pos (by have:=dJ;exact aL ‹_› (by rfl))
noncomputable def jp:aF->List PV
 |none=>[]
 |some d=>[.int (aM d)]
theorem u6(d:aF):aV d= .tuple (jp d):=by cases d<;>rfl
theorem qM{d:aF}(h:dg d=true)(hl:(cg d).length<=90):da (aa "repr") [.list (jp d)]=some (.str (cg d)):=by
 rw[Ll]
 cases d with
 |none=>show some (PV.str (S "[]"))=_;rw[show S "[]" =[91,93] by decide+kernel];rfl
 |some d=>
  show(if small (aM d)=true then some (PV.str (S "[" ++ey (aM d)++S "]"))else none)=_
  rw[if_pos (u5 h (by simp[cg]at hl;exact aL ‹_› (by rfl))),u4 h,show S "[" =[91] by decide+kernel,show S "]" =[93] by decide+kernel];rfl
theorem u7{d:List Nat}(h:aR d=true)(hl:d.length<=90):da (aa "str") [.int (aM d)]=some (.str d):=by
 rw[AP]
 show(if small (aM d)=true then some (PV.str (ey (aM d)))else none)=_
 rw[if_pos (u5 h hl),u4 h]
theorem qN{d:aF}:da (aa "list") [aV d]=some (.list (jp d)):=by
 rw[u6];exact Nh (by cases d<;>simp[jp])
noncomputable abbrev nA:Str:=aa "arrlist"
noncomputable abbrev Rh(b:List Nat)(s:bh)(ds:List aF):PV:= .inst .bas [(aa "arrlist",bN ds),(aa "base", .str b),(aa "sub",cJ s)]
noncomputable abbrev Ri(a:PV)(ds:List aF):PV:= .inst .tup [(aa "arrlist",bN ds),(aa "components",a)]
theorem Rj{ds:List aF}(h:ds≠[]):dO (.tuple (ds.map aV)) (aa "tuple")=some true:=by kernel_rfl
theorem lh:dO .none (aa "tuple")=some false:=by kernel_rfl
theorem mv:dO .none (aa "int")=some false:=by kernel_rfl
theorem ii{i:Int}:dO (.int i) (aa "int")=some true:=by kernel_rfl
theorem B4{i:Int}:dO (.int i) (aa "tuple")=some false:=by kernel_rfl
theorem iP{xs:List PV}:dO (.tuple xs) (aa "tuple")=some true:=by kernel_rfl
theorem mw{xs:List PV}:dO (.tuple xs) (aa "int")=some false:=by kernel_rfl
noncomputable def bD:Ty->aY
 | .bas .. => .bas
 | .tup .. => .tup
noncomputable def gz:Ty->List (Str×PV)
 | .bas b s ds=>[(aa "arrlist",bN ds),(aa "base", .str b),(aa "sub",cJ s)]
 | .tup cs ds=>[(aa "arrlist",bN ds),(aa "components", .tuple (ie cs))]
noncomputable abbrev aH(T:Ty):PV:= .inst (bD T) (gz T)
theorem u8(T:Ty):d0 T=aH T:=by cases T<;>rfl
theorem u9(cs:List Ty):ie cs=cs.map aH:=by
 rw[uM]
 exact PO λT ø=>u8 T
theorem j6{s:List Nat}(h:s.length<=1000):e6 (.str s)= .ok (.str s):=if_pos (by show s.length<=60000;exact aL ‹_› (by rfl))
theorem u'(s:List Nat):∀ws:List (List Nat),(∀w∈ws,w.length<=(aG s ws).length)/\ s.length*ws.length<=(aG s ws).length+s.length
 |[]=>⟨λw h=>(nomatch h),by simp⟩
 |[x]=>⟨λw h=>by rw[dw]at h;subst h;exact bP _,by simp⟩
 |x::y::r=>by
  refine xA (u' s (y::r)) λh1 h2=> ?_
  have e:(aG s (x::y::r)).length=x.length+s.length+(aG s (y::r)).length:=by
   show(x++s++aG s (y::r)).length=_
   rw[cC,cC]
  refine⟨λw hw=> ?_,?_⟩
  ·refine cr (bS.mp hw) (λq=> ?_) (λhw=> ?_)
   ·rw[q];exact aj (bf _ _) (iX e)
   ·exact aj (h1 w hw) (pb e)
  ·rw[e,gE,Nat.mul_succ];exact iq (aj h2 (aj (bG (ir _ _)) (iq (bV s.length x.length) _))) _
theorem qO{ds:List aF}(h:(a9 ds).length<=900):cn (aa "join") [] [.list (ds.map λd=> .str (cg d))]=some (.str (a9 ds)):=by
 have e:(ds.map λd=>PV.str (cg d))=(ds.map cg).map .str:=by rw[o4];rfl
 have e2:aG [] (ds.map cg)=a9 ds:=B1 _
 rw[e,qL (by rw[e2];simpa using aj h (by decide)),e2]
theorem B5{cs:List Ty}(h:(aG [44] (cs.map sh)).length<=900):cn (aa "join") [44] [.list (cs.map λT=> .str (sh T))]=some (.str (aG [44] (cs.map sh))):=by
 have e:(cs.map λT=>PV.str (sh T))=(cs.map sh).map .str:=by rw[o4];rfl
 rw[e,qL (by simp;exact mV ‹_› (by rfl))]
theorem vc(T:Ty):((gz T).lookup (aa "to_type_str")).isNone=true:=by cases T<;>kernel_rfl
theorem Ni{cs:List Ty}{ds:List aF}(hl:(sh (.tup cs ds)).length<=90):(aG [44] (cs.map sh)).length<=88/\ (a9 ds).length<=88/\ cs.length<=89/\ ds.length<=44/\ (∀T∈cs,(sh T).length+2<=(sh (.tup cs ds)).length)/\ ∀d∈ds,(cg d).length<=88:=by
 have e:sh (.tup cs ds)=[40]++aG [44] (cs.map sh)++[41]++a9 ds:=by rw[<-qJ];rfl
 have el:(sh (.tup cs ds)).length=(aG [44] (cs.map sh)).length+2+(a9 ds).length:=by rw[e];simp;exact gX _ _ 2
 refine xA (u' [44] (cs.map sh)) λh1 h2=> ?_
 refine xA (lg ds) λh3 h4=> ?_
 rw[cu]at h2
 simp only[gE,mJ,eV,Nat.one_mul]at h2
 refine⟨w6 el hl,sB el hl,aj h2 (er (w6 el hl)),PP (aj h3 (sB el hl)) (gB 1),λT hT=> ?_,λd hd=> ?_⟩
 ·exact aj (iq (h1 (sh T) (lD hT)) 2) (iX el)
 ·exact aj (h4 d hd) (sB el hl)
theorem Nj{cs:List Ty}{ds:List aF}(hC:∀T∈cs,C.meth (bD T) (aa "to_type_str") [aH T]= .ok (.str (sh T))) (hw:ds.all dg=true) (hl:(sh (.tup cs ds)).length<=90):aO C true (an (ag 13) 1) [d0 (.tup cs ds)]= .ok (.str (sh (.tup cs ds))):=by
 refine DT (Ni hl) λg1 g2 g3 g4 g5 g6=> ?_
 have e:sh (.tup cs ds)=[[40],aG [44] (cs.map sh),[41],a9 ds].flatten:=by
  rw[show sh (.tup cs ds)=[40]++aG [44] (oo cs)++[41]++a9 ds from rfl,qJ];simp
 have hi:bQ (.tuple (ie cs))=some (cs.map aH):=by rw[u9];exact ig (by rw[cu];exact aL ‹_› (by rfl))
 refine du (names:=[aa "self"]) (by kernel_rfl) rfl ?_
 show aw _ _ [(aa "self", .inst .tup [(aa "arrlist",bN ds),(aa "components", .tuple (ie cs))])]=_
 (conv=>lhs;arg 2;whnf)
 rw[e]
 by_cases h0:ds=[]
 ·have ha:bN ds= .none:=by unfold bN;rw[if_pos h0]
  rw[ha]
  (apply aP;(focus (apply bg;kernel_rfl;(focus ((repeat' first|tb_rel|tb_start);done));lcg_sub)))
  apply br
  focus (repeat' first|tb_rel|exact lh)
  focus rfl
  focus
   (apply aP;(focus (apply bg;kernel_rfl;(focus ((repeat' first|tb_rel);done));lcg_sub)))
   exact aS
  (refine aD ?_ rfl;apply a6;(focus ((repeat' first|tb_rel|tb_start|exact hi|(refine gO aH cs (λT=> .str (sh T)) (by kernel_rfl) ?_)|exact vc _|(exact hC _ (by assumption))|(with_reducible exact B5 (by lia))|(with_reducible exact j6 (by lia))|(with_reducible exact j6 (by decide))|exact rfl);done)))
  rw[h0];rfl
 ·have ha:bN ds= .tuple (ds.map aV):=by unfold bN;rw[if_neg h0]
  rw[ha]
  (apply aP;(focus (apply bg;kernel_rfl;(focus ((repeat' first|tb_rel|tb_start);done));lcg_sub)))
  apply jY
  focus (repeat' first|tb_rel|exact iP)
  focus rfl
  focus
   (apply aP;(focus (apply bg;kernel_rfl;(focus ((repeat' first|tb_rel|(with_reducible exact ig (by rw[cu];exact lJ ‹_›))|(refine gO aV ds (λd=> .str (cg d)) (by kernel_rfl) ?_)|(with_reducible exact qN)|(exact qM (ba.mp hw _ (by assumption)) (aj (g6 _ (by assumption)) (by decide)))|(with_reducible exact qO (by lia)));done));lcg_sub)))
   exact aS
  (refine aD ?_ rfl;apply a6;(focus ((repeat' first|tb_rel|tb_start|exact hi|(refine gO aH cs (λT=> .str (sh T)) (by kernel_rfl) ?_)|exact vc _|(exact hC _ (by assumption))|(with_reducible exact B5 (by lia))|(with_reducible exact j6 (by lia))|(with_reducible exact j6 (by decide))|exact rfl);done)))
  rfl
end
end
section
noncomputable def bt:Ty->List aF
 | .bas _ _ ds=>ds
 | .tup _ ds=>ds
noncomputable def eJ(ds:List aF):Bool:=ds.any λd=>d.isNone
theorem li{ds:List aF}(h:ds=[]):bN ds= .none:=if_pos h
theorem iQ{ds:List aF}(h:ds≠[]):bN ds= .tuple (ds.map aV):=if_neg h
section
variable{C:Calls}
theorem gR{x y:List Nat}(h:x.length+y.length<=1000):bJ .Add (.str x) (.str y)=some (.str (x++y)):=if_pos (show x.length+y.length<=aX by have:=dJ;exact aL ‹_› (by rfl))
theorem Nk{b:List Nat}{s:bh}{ds:List aF}(hl:(sh (.bas b s ds)).length<=90):b.length+(bO s).length+(a9 ds).length<=90/\ ds.length<=45/\ ∀d∈ds,(cg d).length<=90:=by
 have e:(sh (.bas b s ds)).length=b.length+(bO s).length+(a9 ds).length:=by
  show(b++bO s++a9 ds).length=_
  rw[cC,cC]
 refine xA (lg ds) λh3 h4=> ?_
 exact⟨e▸hl,PP (aj h3 (aj (pb e) hl)) (gB 1),λd hd=>aj (h4 d hd) (aj (pb e) hl)⟩
theorem Nl{a b:List Nat}(h:a.length+b.length<=900):cn (aa "join") [120] [.list ([a,b].map .str)]=some (.str (a++[120]++b)):=by
 have:=qL (s:=[120]) (ws:=[a,b]) (by simp[aG];lia)
 exact this
set_option tactic.hygienic true in
theorem Nm{b:List Nat}{s:bh}{ds:List aF}(hs:d6 s=true)(hw:ds.all dg=true)(hl:(sh (.bas b s ds)).length<=90):aO C true (an (ag 14) 1) [d0 (.bas b s ds)]= .ok (.str (sh (.bas b s ds))):=by
 refine bM (Nk hl) λg1 g4 g6=> ?_
 refine du (names:=[aa "self"]) (by kernel_rfl) rfl ?_
 show aw _ _ [(aa "self", .inst .bas [(aa "arrlist",bN ds),(aa "base", .str b),(aa "sub",cJ s)])]=_
 (conv=>lhs;arg 2;whnf)
 apply aP
 focus
  apply iK
  focus kernel_rfl
  focus (repeat' first|tb_rel|tb_start)
  lcg_sub
  lcg_sub
 cases s with
 |none=>
  apply br
  focus (repeat' first|tb_rel|exact mv)
  focus rfl
  focus
   apply br
   focus (repeat' first|tb_rel|exact lh)
   focus rfl
   focus
    (apply aP;(focus (apply bg;kernel_rfl;(focus ((repeat' first|tb_rel);done));lcg_sub)))
    exact aS
   exact aS
  by_cases h0:ds=[]
  ·rw[li h0]
   apply br
   focus (repeat' first|tb_rel|exact lh)
   focus rfl
   focus
    (apply aP;(focus (apply bg;kernel_rfl;(focus ((repeat' first|tb_rel);done));lcg_sub)))
    exact aS
   (refine aD ?_ rfl;apply a6;(focus ((repeat' first|tb_rel|tb_start|(with_reducible exact gR (by simp[bO]at g1 ⊢;lia)));done)))
   rw[h0];rfl
  ·rw[iQ h0]
   apply jY
   focus (repeat' first|tb_rel|exact iP)
   focus rfl
   focus
    (apply aP;(focus (apply bg;kernel_rfl;(focus ((repeat' first|tb_rel|(with_reducible exact ig (by rw[cu];lia))|(refine gO aV ds (λd=> .str (cg d)) (by kernel_rfl) ?_)|(with_reducible exact qN)|(exact qM (ba.mp hw _ (by assumption)) (aj (g6 _ (by assumption)) (by decide)))|(with_reducible exact qO (by lia)));done));lcg_sub)))
    exact aS
   (refine aD ?_ rfl;apply a6;(focus ((repeat' first|tb_rel|tb_start|(with_reducible exact gR (by simp[bO]at g1 ⊢;lia)));done)))
   rfl
 |one a=>
  have ha:aR a=true:=hs
  have hal:a.length<=90:=by simp[bO]at g1;exact D4 ‹_› (by rfl)
  apply jY
  focus (repeat' first|tb_rel|exact ii)
  focus rfl
  focus
   (apply aP;(focus (apply bg;kernel_rfl;(focus ((repeat' first|tb_rel|(exact u7 ha hal));done));lcg_sub)))
   exact aS
  by_cases h0:ds=[]
  ·rw[li h0]
   apply br
   focus (repeat' first|tb_rel|exact lh)
   focus rfl
   focus
    (apply aP;(focus (apply bg;kernel_rfl;(focus ((repeat' first|tb_rel);done));lcg_sub)))
    exact aS
   (refine aD ?_ rfl;apply a6;(focus ((repeat' first|tb_rel|tb_start|(with_reducible exact gR (by simp[bO]at g1 ⊢;lia)));done)))
   rw[h0];rfl
  ·rw[iQ h0]
   apply jY
   focus (repeat' first|tb_rel|exact iP)
   focus rfl
   focus
    (apply aP;(focus (apply bg;kernel_rfl;(focus ((repeat' first|tb_rel|(with_reducible exact ig (by rw[cu];lia))|(refine gO aV ds (λd=> .str (cg d)) (by kernel_rfl) ?_)|(with_reducible exact qN)|(exact qM (ba.mp hw _ (by assumption)) (aj (g6 _ (by assumption)) (by decide)))|(with_reducible exact qO (by lia)));done));lcg_sub)))
    exact aS
   (refine aD ?_ rfl;apply a6;(focus ((repeat' first|tb_rel|tb_start|(with_reducible exact gR (by simp[bO]at g1 ⊢;lia)));done)))
   rfl
 |two a c=>
  have ha:aR a=true/\ aR c=true:=by simpa[d6] using hs
  have hal:a.length+c.length<=90:=by simp[bO]at g1;lia
  have hi:bQ (.tuple [.int (aM a), .int (aM c)])=some ([a,c].map λd=> .int (aM d)):=ig (by simp)
  apply br
  focus (repeat' first|tb_rel|exact mw)
  focus rfl
  focus
   apply jY
   focus (repeat' first|tb_rel|exact iP)
   focus rfl
   focus
    (apply aP;(focus (apply bg;kernel_rfl;(focus ((repeat' first|tb_rel|exact hi|(refine gO (λd=> .int (aM d)) [a,c] (λd=> .str d) (by kernel_rfl) ?_)|(refine u7 (by rename_i hm;simp only[bS,eX,or_false]at hm;rcases hm with rfl|rfl;exact ha.1;exact ha.2) (by rename_i hm;simp only[bS,eX,or_false]at hm;rcases hm with rfl|rfl<;>lia))|(exact Nl (aL ‹_› (by rfl))));done));lcg_sub)))
    exact aS
   exact aS
  by_cases h0:ds=[]
  ·rw[li h0]
   apply br
   focus (repeat' first|tb_rel|exact lh)
   focus rfl
   focus
    (apply aP;(focus (apply bg;kernel_rfl;(focus ((repeat' first|tb_rel);done));lcg_sub)))
    exact aS
   (refine aD ?_ rfl;apply a6;(focus ((repeat' first|tb_rel|tb_start|(with_reducible exact gR (by simp[bO]at g1 ⊢;lia)));done)))
   rw[h0];rfl
  ·rw[iQ h0]
   apply jY
   focus (repeat' first|tb_rel|exact iP)
   focus rfl
   focus
    (apply aP;(focus (apply bg;kernel_rfl;(focus ((repeat' first|tb_rel|(with_reducible exact ig (by rw[cu];lia))|(refine gO aV ds (λd=> .str (cg d)) (by kernel_rfl) ?_)|(with_reducible exact qN)|(exact qM (ba.mp hw _ (by assumption)) (aj (g6 _ (by assumption)) (by decide)))|(with_reducible exact qO (by lia)));done));lcg_sub)))
    exact aS
   (refine aD ?_ rfl;apply a6;(focus ((repeat' first|tb_rel|tb_start|(with_reducible exact gR (by simp[bO]at g1 ⊢;lia)));done)))
   rfl
theorem Nn(T:Ty):aO C false (an (ag 12) 6) [aH T]= .ok (.bool (!(bt T).isEmpty)):=by
 refine du (names:=[aa "self"]) (by kernel_rfl) rfl ?_
 show aw _ _ [(aa "self", .inst (bD T) (gz T))]=_
 (conv=>lhs;arg 2;whnf)
 have hf:(gz T).lookup (aa "arrlist")=some (bN (bt T)):=by cases T<;>exact mn
 (refine aD ?_ rfl;apply a6;(focus ((repeat' first|tb_rel|exact hf|exact iM);done)))
 by_cases h0:bt T=[]
 ·rw[li h0,h0];rfl
 ·rw[iQ h0]
  cases e:bt T with
  |nil=>exact absurd e h0
  |cons a r=>rfl
theorem No{xs:List PV}(h:xs.length<=1000):da (aa "len") [.tuple xs]=some (.int (xs.length:Nat)):=by
 have:=dJ
 rw[qg]
 exact if_pos (aL ‹_› (by rfl))
theorem Np{d:aF}:da (aa "len") [aV d]=some (.int (((jp d).length:Nat):Int)):=by
 rw[u6];exact No (by cases d<;>simp[jp])
theorem B6{α:Type}{l:List α}{f:α->Bool}:i4 (l.map λa=> .bool (f a))=some (l.map f):=by
 have:(l.map λa=>PV.bool (f a))=(l.map f).map .bool:=by rw[o4];rfl
 rw[this,B3]
theorem Nq(T:Ty)(hl:(bt T).length<=90)(hA:C.prop (bD T) (aa "is_array") (aH T)= .ok (.bool (!(bt T).isEmpty))):aO C true (an (ag 12) 8) [aH T]= .ok (.bool (eJ (bt T))):=by
 refine du (names:=[aa "self"]) (by kernel_rfl) rfl ?_
 show aw _ _ [(aa "self", .inst (bD T) (gz T))]=_
 (conv=>lhs;arg 2;whnf)
 have hf:(gz T).lookup (aa "arrlist")=some (bN (bt T)):=by cases T<;>exact mn
 by_cases h0:bt T=[]
 ·rw[h0]at hA ⊢
  refine aD (jX (jk (v:= .bool (false&&false)) (jV (mi ?_ λq=>nomatch q)) rfl)) rfl
  (repeat' first|tb_rel|exact hA)
 ·have ha:(!(bt T).isEmpty)=true:=by
   cases e:bt T with
   |nil=>exact absurd e h0
   |cons a r=>rfl
  rw[ha]at hA
  rw[iQ h0]at hf
  (refine aD ?_ rfl;apply a6;(focus ((repeat' first|tb_rel|exact hA|exact hf|(with_reducible exact ig (by rw[cu];exact lJ ‹_›))|(refine gO aV (bt T) (λd=> .bool ((jp d).length==0)) (by kernel_rfl) ?_)|(with_reducible exact Np)|exact uV|exact B6);done)))
  have:(((bt T).map λd=>(jp d).length==0).any _root_.id)=eJ (bt T):=by
   unfold eJ
   rw[wH]
   congr 1
   funext d
   cases d<;>rfl
  rw[this];rfl
end
end
section
theorem j7{r:List Nat}{c:Nat}(h:r.take 1=[c]):r=c::r.drop 1:=by
 cases r with
 |nil=>exact sC h
 |cons a r=>cases h;rfl
theorem Nr{r:List Nat}{a b:Nat}(h:r.take 2=[a,b]):r=a::b::r.drop 2:=by
 match r,h with
 |[],h=>exact sC h
 |[x],h=>cases h
 |x::y::r,h=>cases h;rfl
theorem vd{r d r':List Nat}(h:cA r=some (d,r')):r=d++r'/\ aR d=true:=by
 refine⟨(nZ h).1,?_⟩
 unfold cA at h
 simp only at h
 split at h
 ·exact am h
 ·rename_i hn
  cases aq h
  unfold aR
  rw[aI,aI]
  refine⟨⟨?_,?_⟩,mS⟩
  ·cases e:r.takeWhile bc with
   |nil=>exact absurd (.inl e) hn
   |cons a b=>rfl
  ·rw[bne_iff_ne];exact λq=>hn (.inr q)
theorem Nt{d:aF}{ds:List aF}:a9 (d::ds)=cg d++a9 ds:=rfl
theorem Nu(a b:List aF):a9 (a++b)=a9 a++a9 b:=by unfold a9;rw[wF,List.flatten_append]
theorem qP:∀n r,r=a9 (arr n r).1++(arr n r).2/\ (arr n r).1.all dg=true
 |0,r=>⟨rfl,rfl⟩
 |n+1,r=>by
  unfold arr
  by_cases h1:r.take 1=[91]
  ·rw[if_pos h1]
   by_cases h2:r.take 2=[91,93]
   ·rw[if_pos h2]
    refine xA (qP n (r.drop 2)) λe1 e2=> ?_
    refine⟨?_,e2⟩
    show r=[91,93]++a9 (arr n (r.drop 2)).1++(arr n (r.drop 2)).2
    rw[bY,<-e1]
    exact Nr h2
   ·rw[if_neg h2]
    cases e:cA (r.drop 1)with
    |none=>exact⟨rfl,rfl⟩
    |some q=>
     obtain⟨d,r'⟩:=q
     refine xA (vd e) λg1 g2=> ?_
     show r=a9 (if r'.take 1=[93]then _ else _:List aF×List Nat).1++(if r'.take 1=[93]then _ else _:List aF×List Nat).2/\ (if r'.take 1=[93]then _ else _:List aF×List Nat).1.all dg=true
     by_cases h3:r'.take 1=[93]
     ·rw[if_pos h3]
      refine xA (qP n (r'.drop 1)) λe1 e2=> ?_
      refine⟨?_,by show(aR d&&_)=true;rw[g2,e2];rfl⟩
      show r=[91]++d++[93]++a9 (arr n (r'.drop 1)).1++(arr n (r'.drop 1)).2
      rw[bY,<-e1]
      have:=j7 h3
      rw[(j7 h1),g1,this];simp
     ·rw[if_neg h3];exact⟨rfl,rfl⟩
  ·rw[if_neg h1];exact⟨rfl,rfl⟩
theorem Nv(r:List Nat):r=bO (b0 r).1++(b0 r).2/\ d6 (b0 r).1=true:=by
 unfold b0
 cases e:cA r with
 |none=>exact⟨rfl,rfl⟩
 |some q=>
  obtain⟨a,r1⟩:=q
  refine xA (vd e) λg1 g2=> ?_
  show r=bO (if r1.take 1=[120]then _ else _:bh×List Nat).1++(if r1.take 1=[120]then _ else _:bh×List Nat).2/\ d6 (if r1.take 1=[120]then _ else _:bh×List Nat).1=true
  by_cases h:r1.take 1=[120]
  ·rw[if_pos h]
   cases e2:cA (r1.drop 1)with
   |none=>exact⟨g1,g2⟩
   |some q=>
    obtain⟨b,r2⟩:=q
    refine xA (vd e2) λk1 k2=> ?_
    refine⟨?_,by show(aR a&&aR b)=true;rw[g2,k2];rfl⟩
    show r=a++[120]++b++r2
    rw[g1,j7 h,k1];simp
  ·rw[if_neg h];exact⟨g1,g2⟩
theorem Rk(s x y:List Nat)(r:List (List Nat)):aG s (x::y::r)=x++s++aG s (y::r):=rfl
theorem Rl(s x:List Nat):aG s [x]=x:=rfl
theorem j8{s x:List Nat}:∀{r:List (List Nat)},r≠[]->aG s (x::r)=x++s++aG s r
 |[],h=>absurd rfl h
 |y::r,_=>rfl
theorem B7{f:List Nat->Option (Ty×List Nat)}(hf:∀r T r',f r=some (T,r')->r=sh T++r'/\ wf T=true):∀m r Ts r',cU f m r=some (Ts,r')->r=aG [44] (Ts.map sh)++r'/\ Ts.all wf=true/\ Ts≠[]
 |0,r,Ts,r',h=>by exact am h
 |m+1,r,Ts,r',h=>by
  unfold cU at h
  cases e:f r with
  |none=>rw[e]at h;exact am h
  |some q=>
   obtain⟨T,r1⟩:=q
   refine xA (hf _ _ _ e) λg1 g2=> ?_
   rw[e]at h
   have h:(if r1.take 1=[44]then(match cU f m (r1.drop 1)with|some (Ts,r2)=>some (T::Ts,r2)|none=>none)else some ([T],r1):Option (List Ty×List Nat))=some (Ts,r'):=h
   by_cases h1:r1.take 1=[44]
   ·rw[if_pos h1]at h
    cases e2:cU f m (r1.drop 1)with
    |none=>rw[e2]at h;exact am h
    |some q=>
     obtain⟨Us,r2⟩:=q
     rw[e2]at h
     cases aq h
     refine bM (B7 hf m _ _ _ e2) λk1 k2 k3=> ?_
     refine⟨?_,by show(wf T&&Us.all wf)=true;rw[g2,k2];rfl,by simp⟩
     rw[fm,j8 (by simpa using k3),g1,j7 h1,k1]
     simp
   ·rw[if_neg h1]at h
    cases aq h
    exact⟨g1,by simp[g2],by simp⟩
theorem gS{b:List Nat}{s:bh}{ds:List aF}:wf (.bas b s ds)=(!b.isEmpty&&b.all aK&&d6 s&&ds.all dg):=by simp only[wf]
theorem gT{cs:List Ty}{ds:List aF}:wf (.tup cs ds)=(!cs.isEmpty&&cs.all wf&&ds.all dg):=by simp only[wf,B0]
theorem ij{b:List Nat}{s:bh}{ds:List aF}:sh (.bas b s ds)=b++bO s++a9 ds:=by simp only[sh]
theorem gU{cs:List Ty}{ds:List aF}:sh (.tup cs ds)=[40]++aG [44] (cs.map sh)++[41]++a9 ds:=by simp only[sh,qJ]
theorem qQ{α:Type}{l:List α}(h:l≠[]):(!l.isEmpty)=true:=by cases l with
 |nil=>exact absurd rfl h
 |cons a r=>rfl
theorem B8:∀n r T r',d4 n r=some (T,r')->r=sh T++r'/\ wf T=true
 |0,r,T,r',h=>by exact am h
 |n+1,r,T,r',h=>by
  unfold d4 at h
  by_cases h1:r.take 1=[40]
  ·rw[if_pos h1]at h
   unfold gN at h
   cases e:cU (d4 n) 100 (r.drop 1)with
   |none=>rw[e]at h;exact am h
   |some q=>
    obtain⟨Ts,r1⟩:=q
    refine bM (B7 (B8 n) _ _ _ _ e) λk1 k2 k3=> ?_
    rw[e]at h
    have h:(if r1.take 1=[41]then some (.tup Ts (arr 100 (r1.drop 1)).1,(arr 100 (r1.drop 1)).2)else none:Option (Ty×List Nat))=some (T,r'):=h
    by_cases h2:r1.take 1=[41]
    ·rw[if_pos h2]at h
     cases aq h
     refine xA (qP 100 (r1.drop 1)) λe1 e2=> ?_
     refine⟨?_,?_⟩
     ·rw[gU,bY,<-e1,j7 h1,k1,bY,]
      conv=>lhs;rw[j7 h2]
      simp
     ·rw[gT,e2,k2,qQ k3];rfl
    ·rw[if_neg h2]at h;exact am h
  ·rw[if_neg h1]at h
   by_cases h2:r.takeWhile aK=[]
   ·rw[if_pos h2]at h;exact am h
   ·rw[if_neg h2]at h
    cases aq h
    refine xA (qP 100 (b0 (r.dropWhile aK)).2) λe1 e2=> ?_
    refine xA (Nv (r.dropWhile aK)) λe3 e4=> ?_
    refine⟨?_,?_⟩
    ·rw[ij,bY,<-e1,bY,<-e3,mR]
    ·rw[gS,e2,e4,qQ h2,mS];rfl
theorem qR{x:List Nat}{T:Ty}(h:de x=some T):sh T=x/\ wf T=true:=by
 unfold de at h
 cases e:d4 64 x with
 |none=>rw[e]at h;exact am h
 |some q=>
  obtain⟨U,r⟩:=q
  rw[e]at h
  cases r with
  |cons a r=>exact am h
  |nil=>
   obtain rfl:=aq h
   refine xA (B8 _ _ _ _ e) λh1 h2=> ?_
   exact⟨by rw[h1,kj],h2⟩
theorem mx{f:Nat->Bool}:∀{a r:List Nat},(∀c∈a,f c=true)->(∀c,r.head? =some c->f c=false)->(a++r).takeWhile f=a/\ (a++r).dropWhile f=r
 |[],[],_,_=>⟨rfl,rfl⟩
 |[],c::r,_,h=>by
  have:=h c rfl
  constructor<;>simp[this]
 |c::a,r,h,h' =>by
  refine xA (mx (a:=a) (r:=r) (λx hx=>h x (.tail _ hx)) h') λh1 h2=> ?_
  have hc:=h c (.head _)
  constructor
  ·rw[mK,List.takeWhile_cons_of_pos hc,h1]
  ·rw[mK,List.dropWhile_cons_of_pos hc,h2]
noncomputable def em(f:Nat->Bool)(r:List Nat):Prop:=∀c,r.head? =some c->f c=false
theorem em.nil{f:Nat->Bool}:em f []:=λc h=>by cases h
theorem em.cons{f:Nat->Bool}{c:Nat}{r:List Nat}(h:f c=false):em f (c::r):=λd e=>by cases e;exact h
theorem j9{d:List Nat}(h:aR d=true):∃c r,d=c::r/\ c≠48/\ (∀x∈d,bc x=true):=by
 refine bM (j4 h) λh1 h2 h3=> ?_
 cases d with
 |nil=>exact absurd rfl h1
 |cons c r=>exact⟨c,r,rfl,λq=>h2 (by rw[q];rfl),ba.mp h3⟩
theorem qS{d r:List Nat}(h:aR d=true)(hr:em bc r):cA (d++r)=some (d,r):=by
 refine bM (j4 h) λh1 h2 h3=> ?_
 refine xA (mx (ba.mp h3) hr) λe1 e2=> ?_
 unfold cA
 simp only[e1,e2]
 rw[if_neg (by rintro (q|q);exact h1 q;exact h2 q)]
theorem Nw{r:List Nat}(hr:em bc r):cA r=none:=by
 refine xA (mx (a:=[]) (f:=bc) (λc h=>nomatch h) hr) λe1 e2=> ?_
 unfold cA
 rw[v7]at e1 e2
 simp only[e1]
 rw[if_pos (.inl trivial)]
theorem B9{r:List Nat}{f:Nat->Bool}{c:Nat}(h:em f r)(hc:f c=true):r.take 1≠[c]:=λq=>by
 have:=h c (by rw[j7 q];rfl)
 rw[hc]at this;exact kA this
theorem lj{d:List Nat}(h:∀x∈d,bc x=true):∀x∈d,x≠91/\ x≠93/\ x≠120/\ x≠40/\ x≠41/\ x≠44/\ aK x=false:=λx hx=>
 (by decide:∀x,x<58->bc x=true->x≠91/\ x≠93/\ x≠120/\ x≠40/\ x≠41/\ x≠44/\ aK x=false) x (rt (j5 (h x hx)).2) (h x hx)
theorem Nx{c:Nat}(h:aK c=true):(65<=c/\ c<=90) \/(97<=c/\ c<=122):=by
 unfold aK at h
 rw[gZ,aI,aI]at h
 simpa using h
theorem ve{c:Nat}(h:aK c=true):c≠91/\ c≠93/\ c≠40/\ c≠41/\ c≠44:=
 (by decide+kernel:∀c,c<123->aK c=true->c≠91/\ c≠93/\ c≠40/\ c≠41/\ c≠44) c (by rcases Nx h with q|q<;>exact bU q.2 (by decide)) h
theorem Ny{n:Nat}{r:List Nat}:arr (n+1) (91::93::r)=(none::(arr n r).1,(arr n r).2):=rfl
theorem Nz{n:Nat}{d r:List Nat}(h:aR d=true):arr (n+1) (91::(d++93::r))=(some d::(arr n r).1,(arr n r).2):=by
 refine iz (j9 h) λc t e1 e2 e3=> ?_
 have h2:(91::(d++93::r)).take 2≠[91,93]:=by
  have:=j5 (e3 c (by rw[e1];exact .head _))
  rw[e1]
  intro q
  have q:[91,c]=[91,93]:=q
  simp at q
  lia
 show(if(91::(d++93::r)).take 1=[91]then _ else _:List aF×List Nat)=_
 rw[if_pos (show(91::(d++93::r)).take 1=[91]from rfl),if_neg h2]
 have h3:cA ((91::(d++93::r)).drop 1)=some (d,93::r):=qS h (.cons (by decide+kernel))
 rw[h3]
 rfl
theorem qU:∀(ds:List aF) (n:Nat) (r:List Nat),ds.all dg=true->ds.length<=n->em (λc=>c==91) r->arr n (a9 ds++r)=(ds,r)
 |[],0,r,_,_,_=>rfl
 |[],n+1,r,_,_,h=>by
  show arr (n+1) r=_
  unfold arr
  rw[if_neg (B9 h (by decide))]
 |d::ds,0,r,_,h,_=>by simp at h
 |none::ds,n+1,r,hw,hl,h=>by
  show arr (n+1) (91::93::(a9 ds++r))=_
  rw[Ny,(qU ds n r (by simp only[g9,aI]at hw;exact hw.2) (by simpa using hl) h)]
 |some d::ds,n+1,r,hw,hl,h=>by
  have hw':aR d=true/\ ds.all dg=true:=by simp only[g9,aI]at hw;exact hw
  have e0:a9 (some d::ds)++r=91::(d++93::(a9 ds++r)):=by
   rw[Nt];unfold cg;simp
  rw[e0]
  rw[Nz hw'.1,(qU ds n r hw'.2 (by simpa using hl) h)]
theorem NA{s:bh}{R:List Nat}(hw:d6 s=true)(h:em (λc=>bc c||c==120) R):b0 (bO s++R)=(s,R):=by
 have hf:em bc R:=λc q=>by have:=h c q;rw[kx]at this;exact this.1
 have hx:R.take 1≠[120]:=B9 h (by decide)
 cases s with
 |none=>
  show b0 R=_
  unfold b0
  rw[Nw hf]
 |one a=>
  have hw:aR a=true:=hw
  show b0 (a++R)=_
  unfold b0
  rw[qS hw hf]
  exact if_neg hx
 |two a b=>
  have hw:aR a=true/\ aR b=true:=by simpa[d6] using hw
  show b0 (a++[120]++b++R)=_
  rw[bY,bY]
  unfold b0
  rw[qS (r:=[120]++(b++R)) hw.1 (.cons (by decide+kernel))]
  show(if([120]++(b++R)).take 1=[120]then(match cA (([120]++(b++R)).drop 1)with|some (b,r2)=>(bh.two a b,r2)|none=>(bh.one a,[120]++(b++R)))else _)=_
  have h0:([120]++(b++R)).take 1=[120]:=rfl
  rw[if_pos h0,show List.drop 1 ([120]++(b++R))=b++R from rfl,qS hw.2 hf]
noncomputable def Stop(r:List Nat):Prop:=em (λc=> !(c==44||c==41)) r
theorem Stop.not{r:List Nat}(h:Stop r){f:Nat->Bool}(h1:f 44=false)(h2:f 41=false):em f r:=λc e=>by
 have:=h c e
 rw[DO,gZ,beq_iff_eq,beq_iff_eq]at this
 rcases this with rfl|rfl
 ·exact h1
 ·exact h2
theorem B'{f:Nat->Bool}{a r:List Nat}(ha:em f a)(hr:em f r):em f (a++r):=by
 cases a with
 |nil=>exact hr
 |cons c a=>exact .cons (ha c rfl)
theorem NB{f:Nat->Bool}(h:f 91=false)(ds:List aF):em f (a9 ds):=by
 cases ds with
 |nil=>exact .nil
 |cons d ds=>cases d<;>exact .cons h
theorem Cb{s:bh}(hw:d6 s=true){f:Nat->Bool}(h:∀c,bc c=true->f c=false):em f (bO s):=by
 cases s with
 |none=>exact .nil
 |one a=>
  refine iz (j9 (show aR a=true from hw)) λc r e ø h3=> ?_
  rw[e];exact .cons (h _ (h3 c (by rw[e];exact .head _)))
 |two a b=>
  have hw:aR a=true/\ aR b=true:=by simpa[d6] using hw
  refine iz (j9 hw.1) λc r e ø h3=> ?_
  rw[e];exact .cons (h _ (h3 c (by rw[e];exact .head _)))
theorem NC{f:List Nat->Option (Ty×List Nat)}{cs:List Ty}:∀m r,(∀T∈cs,∀r,Stop r->f (sh T++r)=some (T,r))->cs≠[]->cs.length<=m->r.take 1=[41]->cU f m (aG [44] (cs.map sh)++r)=some (cs,r):=by
 induction cs with
 |nil=>exact λm r ø h=>absurd rfl h
 |cons T cs ih=>
  intro m r hf ø hm hr
  cases m with
  |zero=>simp at hm
  |succ m=>
   cases cs with
   |nil=>
    show cU f (m+1) (sh T++r)=_
    unfold cU
    rw[hf T (.head _) r (by rw[j7 hr];exact .cons (by decide))]
    show(if r.take 1=[44]then _ else _:Option (List Ty×List Nat))=_
    rw[if_neg (by rw[hr];decide)]
   |cons U cs=>
    have e:=ih m r (λT hT=>hf T (.tail _ hT)) (by simp) (by simpa using hm) hr
    rw[fm,j8 (by simp),bY,bY]
    unfold cU
    rw[hf T (.head _) ([44]++(aG [44] ((U::cs).map sh)++r)) (λc e=>by obtain rfl:=aq e;decide)]
    show(if([44]++(aG [44] ((U::cs).map sh)++r)).take 1=[44]then(match cU f m (([44]++(aG [44] ((U::cs).map sh)++r)).drop 1)with|some (Ts,r2)=>some (T::Ts,r2)|none=>none)else _:Option (List Ty×List Nat))=_
    have h0:([44]++(aG [44] ((U::cs).map sh)++r)).take 1=[44]:=rfl
    rw[if_pos h0,show List.drop 1 ([44]++(aG [44] ((U::cs).map sh)++r))=aG [44] ((U::cs).map sh)++r from rfl,e]
theorem vf{cs:List Ty}{ds:List aF}:(sh (.tup cs ds)).length=2+(aG [44] (cs.map sh)).length+(a9 ds).length:=by
 rw[gU];simp;lia
theorem j'{cs:List Ty}{ds:List aF}:(∀T∈cs,(sh T).length+2<=(sh (.tup cs ds)).length)/\ cs.length<=(sh (.tup cs ds)).length/\ 2*ds.length<=(sh (.tup cs ds)).length:=by
 refine xA (u' [44] (cs.map sh)) λh1 h2=> ?_
 refine xA (lg ds) λh3 ø=> ?_
 rw[cu]at h2
 simp only[gE,mJ,eV,Nat.one_mul]at h2
 rw[vf]
 refine⟨λT hT=> ?_,by lia,lJ ‹_›⟩
 have:=h1 (sh T) (lD hT)
 lia
theorem qV{b:List Nat}{s:bh}{ds:List aF}:(sh (.bas b s ds)).length=b.length+(bO s).length+(a9 ds).length/\ 2*ds.length<=(sh (.bas b s ds)).length:=by
 refine xA (lg ds) λh3 ø=> ?_
 rw[ij,cC,cC]
 exact⟨rfl,lJ ‹_›⟩
theorem Cd:∀n T r,wf T=true->(sh T).length<2*n->(sh T).length<=100->Stop r->d4 n (sh T++r)=some (T,r)
 |0,T,r,_,h,_,_=>by lia
 |n+1, .bas b s ds,r,hw,hl,h1,hr=>by
  rw[gS,aI,aI,aI]at hw
  obtain⟨zn1,w4⟩:=hw
  obtain⟨zn2,w3⟩:=zn1
  obtain⟨w1,w2⟩:=zn2
  refine xA (qV (b:=b) (s:=s) (ds:=ds)) λl1 l2=> ?_
  have hb:∀c∈b,aK c=true:=ba.mp w2
  have hR:∀f:Nat->Bool,f 91=false->f 44=false->f 41=false->em f (a9 ds++r):=λf f1 f2 f3=>B' (NB f1 ds) (hr.not f2 f3)
  refine xA (mx hb (B' (Cb w3 (f:=aK) (λc hc=>(lj (d:=[c]) (λx hx=>by rw[dw]at hx;rw[hx];exact hc) c (.head _)).2.2.2.2.2.2)) (hR aK rfl rfl rfl))) λe1 e2=> ?_
  rw[ij,bY,bY]
  cases b with
  |nil=>exact bZ w1
  |cons c b=>
   unfold d4
   rw[if_neg (by have:=ve (hb c (.head _));simp;lia),e1,e2,if_neg (by simp),NA w3 (hR _ rfl rfl rfl)]
   rw[qU ds 100 r w4 (by lia) (hr.not rfl rfl)]
 |n+1, .tup cs ds,r,hw,hl,h1,hr=>by
  rw[gT,aI,aI]at hw
  obtain⟨zn3,w4⟩:=hw
  obtain⟨w1,w2⟩:=zn3
  refine bM (j' (cs:=cs) (ds:=ds)) λp1 p2 p3=> ?_
  have e:sh (.tup cs ds)++r=40::(aG [44] (cs.map sh)++41::(a9 ds++r)):=by rw[gU];simp
  rw[e]
  show(if(40::(aG [44] (cs.map sh)++41::(a9 ds++r))).take 1=[40]then _ else _:Option (Ty×List Nat))=_
  rw[if_pos (show(40::(aG [44] (cs.map sh)++41::(a9 ds++r))).take 1=[40]from rfl)]
  unfold gN
  rw[show(40::(aG [44] (cs.map sh)++41::(a9 ds++r))).drop 1=aG [44] (cs.map sh)++41::(a9 ds++r)from rfl,
   NC 100 _ (λT hT r hr=>Cd n T r (ba.mp w2 T hT) (by have:=p1 T hT;exact sm ‹_› ‹_›) (by have:=p1 T hT;exact eY ‹_› ‹_› (by rfl)) hr) (by rintro rfl;exact bZ w1) (aj ‹_› ‹_›) rfl]
  show(if(41::(a9 ds++r)).take 1=[41]then some (Ty.tup cs (arr 100 (a9 ds++r)).1,(arr 100 (a9 ds++r)).2)else none)=_
  rw[if_pos (show(41::(a9 ds++r)).take 1=[41]from rfl),qU ds 100 r w4 (by lia) (hr.not rfl rfl)]
theorem qW{T:Ty}(hw:wf T=true)(hl:(sh T).length<=100):de (sh T)=some T:=by
 have:=Cd 64 T [] hw (fo ‹_› (by rfl)) hl .nil
 rw[kj]at this
 unfold de
 rw[this]
end
section
theorem qX{s:List Nat}:∀{f:List (List Nat)} {w:List Nat},f≠[]->aG s (f++[w])=aG s f++s++w
 |[],w,h=>absurd rfl h
 |[x],w,_=>by show x++s++aG s [w]=_;rfl
 |x::y::r,w,_=>by
  have:=qX (s:=s) (f:=y::r) (w:=w) (by simp)
  rw[mK,j8 (x:=x) (r:=y::r++[w]) (by simp),this,j8 (x:=x) (r:=y::r) (by simp)]
  simp only[bY]
theorem ND:∀(f:List (List Nat)) (w:List Nat) (c:Nat),aG [44] (f++[w++[c]])=aG [44] (f++[w])++[c]
 |[],w,c=>rfl
 |x::r,w,c=>by
  rw[qX (by simp),qX (by simp)];simp
theorem my(f:List (List Nat))(w:List Nat)(c:Nat):iH (f++[w]) c=f++[w++[c]]:=by
 unfold iH;simp
theorem Ce{α:Type}{f:List α}(h:f≠[]):∃g w,f=g++[w]:=⟨f.dropLast,f.getLast h,(PQ h).symm⟩
theorem NE{f:List (List Nat)}{d:Int}{c:Nat}(h:c=44/\ dF d c=0):cS (f,d) c=(f++[[]],dF d c):=by
 show((if c=44/\ dF d c=0 then f++[[]]else iH f c),dF d c)=_
 rw[if_pos h]
theorem NF{f:List (List Nat)}{d:Int}{c:Nat}(h:¬(c=44/\ dF d c=0)):cS (f,d) c=(iH f c,dF d c):=by
 show((if c=44/\ dF d c=0 then f++[[]]else iH f c),dF d c)=_
 rw[if_neg h]
theorem vg:∀(s:List Nat) (f:List (List Nat)) (d:Int),f≠[]->aG [44] (s.foldl cS (f,d)).1=aG [44] f++s
 |[],f,d,_=>by simp
 |c::s,f,d,h=>by
  rw[km]
  refine dB (Ce h) λg w zq2=> ?_;subst zq2
  by_cases hc:c=44/\ dF d c=0
  ·rw[NE hc,vg s _ _ (by simp),qX (by simp),hc.1];simp
  ·rw[NF hc,vg s _ _ (by rw[my];simp),my,ND];simp
theorem NG(s:List Nat):aG [44] (cE s)=s:=by
 unfold cE
 rw[vg s [[]] 0 (by simp)];rfl
theorem Cf:∀(s:List Nat) (p:List (List Nat)×Int),p.1≠[]->(s.foldl cS p).1≠[]
 |[],p,h=>h
 |c::s,p,h=>by
  rw[km]
  refine Cf s _ ?_
  unfold cS
  show(if c=44/\ dF p.2 c=0 then _ else _:List (List Nat))≠[]
  split
  ·simp
  ·unfold iH;simp
theorem NH(s:List Nat):cE s≠[]:=Cf s _ (by simp)
theorem vh:∀{s:List Nat} {g:List (List Nat)} {w:List Nat} {d:Int},(∀c∈s,c≠40/\ c≠41/\ c≠44)->s.foldl cS (g++[w],d)=(g++[w++s],d)
 |[],g,w,d,_=>by simp
 |c::s,g,w,d,h=>by
  refine bM (h c (.head _)) λh1 h2 h3=> ?_
  have e:cS (g++[w],d) c=(g++[w++[c]],d):=by
   unfold cS dF
   show((if c=44/\ _ then _ else _:List (List Nat)),(if c=40 then d+1 else if c=41 then d-1 else d))=_
   rw[if_neg (λq=>h3 q.1),if_neg h1,if_neg h2,my]
  rw[km,e,vh (λx hx=>h x (.tail _ hx))];simp
theorem NI{g:List (List Nat)}{w:List Nat}{d:Int}:cS (g++[w],d) 40=(g++[w++[40]],d+1):=by
 unfold cS dF
 show((if(40:Nat)=44/\ _ then _ else _:List (List Nat)),_)=_
 rw[if_neg (λq=>absurd q.1 (by decide)),my];rfl
theorem NJ{g:List (List Nat)}{w:List Nat}{d:Int}:cS (g++[w],d) 41=(g++[w++[41]],d-1):=by
 unfold cS dF
 show((if(41:Nat)=44/\ _ then _ else _:List (List Nat)),_)=_
 rw[if_neg (λq=>absurd q.1 (by decide)),my];rfl
theorem NK{g:List (List Nat)}{w:List Nat}{d:Int}(h:d≠0):cS (g++[w],d) 44=(g++[w++[44]],d):=by
 unfold cS dF
 show((if(44:Nat)=44/\ d=0 then _ else _:List (List Nat)),d)=_
 rw[if_neg (λq=>h q.2),my]
theorem NL{f:List (List Nat)}:cS (f,0) 44=(f++[[]],0):=by
 unfold cS dF
 show((if(44:Nat)=44/\ (0:Int)=0 then _ else _:List (List Nat)),(0:Int))=_
 rw[if_pos ⟨rfl,rfl⟩]
theorem NM{d:aF}(h:dg d=true):∀c∈cg d,c≠40/\ c≠41/\ c≠44:=by
 cases d with
 |none=>intro c hc;simp only[cg,bS,eX,or_false]at hc;rcases hc with rfl|rfl<;>decide
 |some d=>
  intro c hc
  refine iz (j9 (show aR d=true from h)) λa r ø ø h3=> ?_
  simp only[cg,g8,dw]at hc
  rcases hc with (rfl|hc)|rfl
  ·decide
  ·refine D2 (lj h3 c hc) λø ø ø q4 q5 q6 ø=> ?_
   exact⟨q4,q5,q6⟩
  ·decide
theorem Cg{ds:List aF}(h:ds.all dg=true):∀c∈a9 ds,c≠40/\ c≠41/\ c≠44:=λc hc=>by
 unfold a9 at hc
 rw[List.mem_flatten]at hc
 refine ay hc λl hl hc=> ?_
 rw[iw]at hl
 refine ay hl λd hd zq2=> ?_;subst zq2
 exact NM (ba.mp h d hd) c hc
theorem NN{s:bh}(h:d6 s=true):∀c∈bO s,bc c=true \/c=120:=by
 cases s with
 |none=>intro c hc;cases hc
 |one a=>intro c hc;exact .inl (ba.mp (j4 (show aR a=true from h)).2.2 c hc)
 |two a b=>
  have hw:aR a=true/\ aR b=true:=by simpa[d6] using h
  intro c hc
  simp only[bO,g8,dw]at hc
  rcases hc with (hc|hc)|hc
  ·exact .inl (ba.mp (j4 hw.1).2.2 c hc)
  ·exact .inr hc
  ·exact .inl (ba.mp (j4 hw.2).2.2 c hc)
theorem Ch{b:List Nat}{s:bh}(hb:b.all aK=true)(h:d6 s=true):∀c∈b++bO s,c≠91/\ c≠93/\ c≠40/\ c≠41/\ c≠44:=λc hc=>by
 rcases g8.mp hc with hc|hc
 ·exact ve (ba.mp hb c hc)
 ·rcases NN h c hc with hc|rfl
  ·have:=j5 hc;exact Ef ‹_›
  ·decide
mutual
theorem qY:∀(T:Ty) (g:List (List Nat)) (w:List Nat) (d:Int),wf T=true->0<=d->(sh T).foldl cS (g++[w],d)=(g++[w++sh T],d)
 | .bas b s ds,g,w,d,hw,hd=>by
  rw[gS,aI,aI,aI]at hw
  refine xA hw λzn1 w4=> ?_
  refine xA zn1 λzn2 w3=> ?_
  refine xA zn2 λw1 w2=> ?_
  refine vh λc hc=> ?_
  rw[ij]at hc
  refine cr (g8.mp hc) (λhc=> ?_) (λhc=> ?_)
  ·have:=Ch w2 w3 c hc;exact this.2.2
  ·exact Cg w4 c hc
 | .tup cs ds,g,w,d,hw,hd=>by
  rw[gT,aI,aI]at hw
  refine xA hw λzn3 w4=> ?_
  refine xA zn3 λw1 w2=> ?_
  have h40:([40]:List Nat).foldl cS (g++[w],d)=(g++[w++[40]],d+1):=NI
  have h41:∀v:List Nat,([41]:List Nat).foldl cS (g++[v],d+1)=(g++[v++[41]],d+1-1):=λv=>NJ
  rw[gU,lF,lF,lF,h40,Ci cs g (w++[40]) (d+1) w2 (by lia),h41,vh (Cg w4)]
  rw[show d+1-1=d by lia]
  simp
theorem Ci:∀(cs:List Ty) (g:List (List Nat)) (w:List Nat) (d:Int),cs.all wf=true->0<d->(aG [44] (cs.map sh)).foldl cS (g++[w],d)=(g++[w++aG [44] (cs.map sh)],d)
 |[],g,w,d,_,_=>by simp[aG]
 |[T],g,w,d,hw,hd=>by
  rw[g9,aI]at hw
  exact qY T g w d hw.1 (o8 ‹_› (by rfl))
 |T::U::cs,g,w,d,hw,hd=>by
  rw[g9,aI]at hw
  rw[fm,j8 (by simp),lF,lF,qY T g w d hw.1 (o8 ‹_› (by rfl)),km,Dl,NK (by omega),Ci (U::cs) g _ d hw.2 hd]
  simp
end
theorem Cj:∀(cs:List Ty) (T:Ty) (g:List (List Nat)),wf T=true->cs.all wf=true->(aG [44] ((T::cs).map sh)).foldl cS (g++[[]],0)=(g++(T::cs).map sh,0)
 |[],T,g,hT,_=>by
  show(sh T).foldl cS _=_
  rw[qY T g [] 0 hT (by lia)];rfl
 |U::cs,T,g,hT,hw=>by
  rw[g9,aI]at hw
  rw[fm,j8 (by simp),lF,lF,qY T g [] 0 hT (by lia),km,Dl,NL,Cj cs U _ hw.1 hw.2]
  simp
theorem NO{cs:List Ty}(hc:cs≠[])(hw:cs.all wf=true):cE (aG [44] (cs.map sh))=cs.map sh:=by
 cases cs with
 |nil=>exact absurd rfl hc
 |cons T cs=>
  rw[g9,aI]at hw
  unfold cE
  have:=Cj cs T [] hw.1 hw.2
  rw[v7,v7]at this
  rw[this]
theorem Ck{v i:List Nat}(hi:∀c∈i,c≠91):cB (v++91::(i++[93]))=v.length/\ cL (v++91::(i++[93]))=i/\ (v++91::(i++[93])).take v.length=v:=by
 have e:(v++91::(i++[93])).reverse=(93::i.reverse)++91::v.reverse:=by simp
 have h:=(mx (f:=λc=>c !=91) (a:=93::i.reverse) (r:=91::v.reverse) (λc hc=>by
  rcases bS.mp hc with rfl|hc
  ·rfl
  ·exact bne_iff_ne.mpr (hi c (List.mem_reverse.mp hc))) (em.cons rfl)).1
 have hl:cB (v++91::(i++[93]))=v.length:=by
  unfold cB
  rw[e,h]
  simp
 refine⟨hl,?_,rV⟩
 unfold cL
 rw[hl]
 have e2:v++91::(i++[93])=(v++91::i)++[93]:=by simp
 rw[e2,cC,show([93]:List Nat).length=1 from rfl,wI,rV]
 have e3:v++91::i=(v++[91])++i:=by simp
 rw[e3,show v.length+1=(v++[91]).length by simp,List.drop_left]
theorem NP{c:Nat}{t:List Nat}:ci [c] t=true↔c∈t:=by
 rw[nW];simp
theorem Cn{v i:List Nat}:ff (v++91::(i++[93]))=true:=by
 unfold ff
 rw[aI,NP]
 exact⟨lw.mpr ⟨v++91::i,by simp⟩,by simp⟩
theorem NQ{t:List Nat}(h:ff t=true):t=t.take (cB t)++91::(cL t++[93]):=by
 refine bM (uX h) λh1 h2 h3=> ?_
 have hb:=BW h
 unfold ff at h
 rw[aI]at h
 refine xE (lw.mp h.1) λs hs=> ?_
 have e1:t.take (t.length-1)=s:=by
  rw[<-hs,cC,show([93]:List Nat).length=1 from rfl,wI,rV]
 have e2:cL t=s.drop (cB t+1):=by unfold cL;rw[e1]
 have hsl:t.length=s.length+1:=by rw[<-hs];simp
 have e3:s[cB t]? =some 91:=by
  rw[<-hs,PL (by rw[hs];lia)]at h2
  rw[hs]at h2;exact h2
 have e4:t.take (cB t)=s.take (cB t):=by
  have:(s++[93]).take (cB t)=s.take (cB t):=List.take_append_of_le_length (by lia)
  rw[hs]at this;exact this
 rw[e4,e2]
 have e5:s.drop (cB t)=91::s.drop (cB t+1):=by
  refine xE (v4.mp e3) λhlt hg=> ?_
  rw[wm hlt,hg]
 rw[<-mK,<-e5,<-bY,kv]
 exact hs.symm
theorem Co:cg none=91::([]++[93]):=rfl
theorem Cp(d:List Nat):cg (some d)=91::(d++[93]):=by simp[cg]
theorem lk(es:List aF)(d:aF):a9 (es++[d])=a9 es++cg d:=by rw[Nu];simp[a9]
theorem vj:∀n t ds u ds',eQ n t ds=some (u,ds')->∃es,ds' =es++ds/\ t=u++a9 es/\ es.all dg=true
 |0,t,ds,u,ds',h=>by exact am h
 |n+1,t,ds,u,ds',h=>by
  unfold eQ at h
  by_cases h1:ff t=true
  ·rw[if_pos h1]at h
   have hs:=NQ h1
   by_cases h2:cL t=[]
   ·rw[if_pos h2]at h
    refine bA (vj n _ _ _ _ h) λes e1 e2 e3=> ?_
    refine⟨es++[none],by rw[e1];simp,?_,by rw[rW,e3];rfl⟩
    rw[lk,<-bY,<-e2,Co]
    rw[h2]at hs;exact hs
   ·rw[if_neg h2]at h
    by_cases h3:aR (cL t)=true
    ·rw[if_pos h3]at h
     refine bA (vj n _ _ _ _ h) λes e1 e2 e3=> ?_
     refine⟨es++[some (cL t)],by rw[e1];simp,?_,by rw[rW,e3];simp[dg,h3]⟩
     rw[lk,<-bY,<-e2,Cp]
     exact hs
    ·rw[if_neg h3]at h;exact am h
  ·rw[if_neg h1]at h
   cases aq h
   exact⟨[],rfl,by simp[a9],rfl⟩
theorem qZ:∀n (es:List aF) u ds,es.length<n->es.all dg=true->ff u=false->eQ n (u++a9 es) ds=some (u,es++ds)
 |0,es,u,ds,h,_,_=>by omega
 |n+1,es,u,ds,h,hw,hu=>by
  by_cases he:es=[]
  ·subst he
   unfold eQ
   rw[show u++a9 []=u by simp[a9],if_neg (by rw[hu];decide)];rfl
  ·refine dB (Ce he) λes' d zq2=> ?_;subst zq2
   rw[rW,aI]at hw
   have hl:es'.length<n:=by simp at h;omega
   rw[lk,<-bY]
   cases d with
   |none=>
    rw[Co]
    refine bM (Ck (v:=u++a9 es') (i:=[]) (λc hc=>nomatch hc)) λh1 h2 h3=> ?_
    unfold eQ
    rw[if_pos Cn,if_pos h2,h1,h3,qZ n es' u _ hl hw.1 hu];simp
   |some d=>
    have hd:aR d=true:=by have:=hw.2;simpa[dg] using this
    refine iz (j9 hd) λc r ec ø h5=> ?_
    rw[Cp]
    refine bM (Ck (v:=u++a9 es') (i:=d) (λc hc=>(lj h5 c hc).1)) λh1 h2 h3=> ?_
    unfold eQ
    rw[if_pos Cn,if_neg (by rw[h2,ec];simp),if_pos (by rw[h2];exact hd),h1,h2,h3,qZ n es' u _ hl hw.1 hu];simp
theorem Cq(c:Nat):∀s:List Nat,aG [c] (bK c s)=s
 |[]=>rfl
 |d::r=>by
  have ih:=Cq c r
  unfold bK
  by_cases hd:d=c
  ·rw[if_pos hd]
   cases e:bK c r with
   |nil=>rw[e]at ih;rw[<-ih,hd];exact absurd e (by
     intro q
     cases r with
     |nil=>exact m8 q
     |cons a r=>
      unfold bK at q
      split at q
      ·exact m8 q
      ·split at q<;>exact m8 q)
   |cons w ws=>
    rw[j8 (by simp),<-e,ih,hd];rfl
  ·rw[if_neg hd]
   cases e:bK c r with
   |nil=>rw[e]at ih;rw[<-ih];rfl
   |cons w ws=>
    rw[e]at ih
    cases ws with
    |nil=>rw[<-ih];rfl
    |cons x xs=>rw[<-ih];rfl
theorem vk{c:Nat}:∀{s:List Nat},(∀x∈s,x≠c)->bK c s=[s]
 |[],_=>rfl
 |d::r,h=>by
  unfold bK
  rw[if_neg (h d (.head _)),vk λx hx=>h x (.tail _ hx)]
theorem Cr{c:Nat}:∀{s t:List Nat},(∀x∈s,x≠c)->bK c (s++c::t)=s::bK c t
 |[],t,_=>by
  show bK c (c::t)=_
  conv=>lhs;unfold bK
  rw[if_pos rfl]
 |d::r,t,h=>by
  show bK c (d::(r++c::t))=_
  conv=>lhs;unfold bK
  rw[if_neg (h d (.head _)),Cr λx hx=>h x (.tail _ hx)]
theorem NR{t b:List Nat}{s:bh}(h:fe t=some (b,s)):t=b++bO s/\ b≠[]/\ b.all aK=true/\ d6 s=true:=by
 unfold fe at h
 have hj:=mR (p:=aK) (l:=t)
 have hs:=Cq 120 (t.dropWhile aK)
 by_cases h1:t.takeWhile aK=[]
 ·rw[if_pos h1]at h;exact am h
 ·rw[if_neg h1]at h
  by_cases h2:t.dropWhile aK=[]
  ·rw[if_pos h2]at h
   cases aq h
   rw[h2]at hj
   exact⟨hj.symm,h1,mS,rfl⟩
  ·rw[if_neg h2]at h
   refine eZ h λz hz h=> ?_
   cases h
   rcases uS hz with ⟨a,e,h3,rfl⟩|⟨a,b',e,h3,h4,rfl⟩
   ·rw[e]at hs
    exact⟨by rw[show bO (.one a)=a from rfl,show a=t.dropWhile aK from hs];exact hj.symm,h1,mS,h3⟩
   ·rw[e]at hs
    exact⟨by rw[show bO (.two a b')=a++[120]++b' from rfl,show a++[120]++b' =t.dropWhile aK from hs];exact hj.symm,h1,mS,by show(aR a&&aR b')=true;rw[h3,h4];rfl⟩
theorem NS{b:List Nat}{s:bh}(h1:b≠[])(h2:b.all aK=true)(h3:d6 s=true):fe (b++bO s)=some (b,s):=by
 refine xA (mx (ba.mp h2) (Cb h3 (f:=aK) (λc hc=>(lj (d:=[c]) (λx hx=>by rw[dw]at hx;rw[hx];exact hc) c (.head _)).2.2.2.2.2.2))) λe1 e2=> ?_
 unfold fe
 rw[e1,e2,if_neg h1]
 cases s with
 |none=>exact if_pos rfl
 |one a=>
  refine iz (j9 (show aR a=true from h3)) λc r ec ø h5=> ?_
  have e:bK 120 (bO (.one a))=[a]:=vk λx hx=>(lj h5 x hx).2.2.1
  rw[if_neg (by show a≠[];rw[ec];simp),e,show iO [a]=some (.one a)from if_pos h3];rfl
 |two a b' =>
  have hw:aR a=true/\ aR b' =true:=by simpa[d6] using h3
  refine iz (j9 hw.1) λc r ec ø h5=> ?_
  refine iz (j9 hw.2) λc' r' ec' ø h6=> ?_
  have e:bK 120 (bO (.two a b'))=[a,b']:=by
   rw[show bO (.two a b')=a++120::b' by simp[bO],Cr λx hx=>(lj h5 x hx).2.2.1,vk λx hx=>(lj h6 x hx).2.2.1]
  rw[if_neg (by show a++[120]++b'≠[];simp),e,show iO [a,b']=some (.two a b')from if_pos h3];rfl
noncomputable def dv:Ty->Rd
 | .bas b s ds=> .nam b s ds
 | .tup cs ds=> .tup (cs.map sh) ds
theorem NT{u:List Nat}(h:fM u=true):u=40::(d5 u++[41]):=by
 unfold fM at h
 rw[aI]at h
 refine xE (lu.mp h.1) λs hs=> ?_
 refine xE (lw.mp h.2) λp hp=> ?_
 cases p with
 |nil=>rw[<-hp]at hs;cases hs
 |cons a p=>
  have ha:a=40:=by rw[<-hp]at hs;cases hs;rfl
  subst ha
  unfold d5
  have:u.take (u.length-1)=40::p:=by
   rw[<-hp,cC,show([41]:List Nat).length=1 from rfl,wI,rV]
  rw[this,Db,gD]
  exact hp.symm
theorem NU(m:List Nat):fM (40::(m++[41]))=true/\ d5 (40::(m++[41]))=m:=by
 constructor
 ·unfold fM
  rw[aI]
  exact⟨lu.mpr ⟨m++[41],rfl⟩,lw.mpr ⟨40::m,rfl⟩⟩
 ·unfold d5
  rw[show 40::(m++[41])=(40::m)++[41]from rfl,cC,show([41]:List Nat).length=1 from rfl,wI,rV];rfl
theorem Cs:∀n t r,rd n t=some r->∃T,wf T=true/\ sh T=t/\ r=dv T
 |0,t,r,h=>by exact am h
 |n+1,t,r,h=>by
  unfold rd at h
  cases e:eQ 100 t []with
  |none=>rw[e]at h;exact am h
  |some q=>
   obtain⟨u,ds⟩:=q
   rw[e]at h
   refine bA (vj _ _ _ _ _ e) λes e1 e2 e3=> ?_
   rw[kj]at e1
   subst e1
   have h:(if fM u=true then(if(cE (d5 u)).any (λp=>(rd n p).isNone)=true then none else some (Rd.tup (cE (d5 u)) ds))else match fe u with
    |none=>none
    |some (b,s)=>some (.nam b s ds))=some r:=h
   by_cases h1:fM u=true
   ·rw[if_pos h1]at h
    by_cases h2:(cE (d5 u)).any (λp=>(rd n p).isNone)=true
    ·rw[if_pos h2]at h;exact am h
    ·rw[if_neg h2]at h
     obtain rfl:=aq h
     have hall:∀p∈cE (d5 u),∃T,wf T=true/\ sh T=p:=λp hp=>by
      have h3:(rd n p).isNone=false:=by
       rw[mO,wx]at h2
       exact v6.mpr (h2 p hp)
      cases e4:rd n p with
      |none=>rw[e4]at h3;exact kA h3
      |some r' =>
       refine bA (Cs n p r' e4) λT t1 t2 ø=> ?_
       exact⟨T,t1,t2⟩
     have hcs:∀ps:List (List Nat),(∀p∈ps,∃T,wf T=true/\ sh T=p)->∃cs:List Ty,cs.all wf=true/\ cs.map sh=ps:=by
      intro ps
      induction ps with
      |nil=>exact λø=>⟨[],rfl,rfl⟩
      |cons p ps ih=>
       intro hp
       refine ay (hp p (.head _)) λT t1 t2=> ?_
       refine ay (ih λq hq=>hp q (.tail _ hq)) λcs c1 c2=> ?_
       exact⟨T::cs,by rw[g9,t1,c1];rfl,by rw[fm,t2,c2]⟩
     refine ay (hcs _ hall) λcs c1 c2=> ?_
     have hne:cs≠[]:=by rintro rfl;exact NH _ c2.symm
     refine⟨.tup cs ds,by rw[gT,c1,e3,qQ hne];rfl,?_,by rw[dv,c2]⟩
     rw[gU,c2,NG,e2]
     conv=>rhs;rw[(NT h1)]
     simp
   ·rw[if_neg h1]at h
    cases e4:fe u with
    |none=>rw[e4]at h;exact am h
    |some q=>
     obtain⟨b,s⟩:=q
     rw[e4]at h
     obtain rfl:=aq h
     refine o5 (NR e4) λn1 n2 n3 n4=> ?_
     exact⟨.bas b s ds,by rw[gS,n3,n4,e3,qQ n2];rfl,by rw[ij,<-n1,<-e2],rfl⟩
theorem Ct:∀n T,wf T=true->(sh T).length<2*n->(sh T).length<=100->rd n (sh T)=some (dv T)
 |0,T,_,h,_=>by lia
 |n+1, .bas b s ds,hw,hl,hh=>by
  rw[gS,aI,aI,aI]at hw
  obtain⟨zn4,w4⟩:=hw
  obtain⟨zn5,w3⟩:=zn4
  obtain⟨w1,w2⟩:=zn5
  refine xA (qV (b:=b) (s:=s) (ds:=ds)) λl1 l2=> ?_
  have hb:b≠[]:=by rintro rfl;exact bZ w1
  have hn:=Ch w2 w3
  have h1:ff (b++bO s)=false:=by
   unfold ff
   rw[lG]
   right
   cases e:ci [91] (b++bO s)with
   |false=>rfl
   |true=>exact absurd rfl (hn 91 (BV e)).1
  have h2:fM (b++bO s)=false:=by
   unfold fM
   rw[lG]
   left
   cases e:[40].isPrefixOf (b++bO s)with
   |false=>rfl
   |true=>
    refine xE (lu.mp e) λr hr=> ?_
    exact absurd rfl (hn 40 (by rw[<-hr];simp)).2.2.1
  rw[ij]
  unfold rd
  rw[qZ 100 ds _ [] (by lia) w4 h1]
  show(if fM (b++bO s)=true then _ else match fe (b++bO s)with
    |none=>none
    |some (b,s)=>some (Rd.nam b s (ds++[])))=_
  rw[if_neg (by rw[h2];decide),NS hb w2 w3,kj];rfl
 |n+1, .tup cs ds,hw,hl,hh=>by
  rw[gT,aI,aI]at hw
  obtain⟨zn6,w4⟩:=hw
  obtain⟨w1,w2⟩:=zn6
  refine bM (j' (cs:=cs) (ds:=ds)) λp1 p2 p3=> ?_
  have hc:cs≠[]:=by rintro rfl;exact bZ w1
  have hu:ff (40::(aG [44] (cs.map sh)++[41]))=false:=by
   unfold ff
   rw[lG]
   left
   cases e:[93].isSuffixOf (40::(aG [44] (cs.map sh)++[41]))with
   |false=>rfl
   |true=>
    refine xE (lw.mp e) λp hp=> ?_
    have h5:(p++[93]).getLast? =(40::(aG [44] (cs.map sh)++[41])).getLast? :=by rw[hp]
    rw[<-mK,PR,PR]at h5
    simp at h5
  refine xA (NU (aG [44] (cs.map sh))) λt1 t2=> ?_
  have e:sh (.tup cs ds)=40::(aG [44] (cs.map sh)++[41])++a9 ds:=by rw[gU];simp
  rw[e]
  unfold rd
  rw[qZ 100 ds _ [] (by lia) w4 hu]
  show(if fM (40::(aG [44] (cs.map sh)++[41]))=true then(if(cE (d5 (40::(aG [44] (cs.map sh)++[41])))).any (λp=>(rd n p).isNone)=true then none else some (Rd.tup (cE (d5 (40::(aG [44] (cs.map sh)++[41])))) (ds++[])))else _)=_
  rw[if_pos t1,t2,NO hc w2,kj,if_neg]
  ·rfl
  ·rw[mO,wx]
   intro p hp
   refine ay (iw.mp hp) λT hT zq2=> ?_;subst zq2
   have:=p1 T hT
   rw[Ct n T (ba.mp w2 T hT) (sm ‹_› ‹_›) (eY ‹_› ‹_› (by rfl))]
   simp
theorem NV{x:List Nat}(hx:x.length<=90):rd 64 x=(de x).map dv:=by
 cases e:de x with
 |some T=>
  refine xA (qR e) λh1 h2=> ?_
  subst h1
  exact Ct 64 T h2 (fo ‹_› (by rfl)) (aL ‹_› (by rfl))
 |none=>
  cases e2:rd 64 x with
  |none=>rfl
  |some r=>
   refine bA (Cs _ _ _ e2) λT t1 t2 ø=> ?_
   subst t2
   rw[qW t1 (aL ‹_› (by rfl))]at e
   exact lK e
end
section
noncomputable abbrev nm(x:String):List Nat:=ao (aa x)
noncomputable def iR:bh->Bool
 | .none=>true
 |_=>false
mutual
noncomputable def cY:Ty->Bool
 | .bas b s ds=>eJ ds||(b==nm "string")||(b==nm "bytes" &&iR s)
 | .tup cs ds=>eJ ds||q0 cs
noncomputable def q0:List Ty->Bool
 |[]=>false
 |T::r=>cY T||q0 r
end
theorem vm:∀cs,q0 cs=cs.any cY
 |[]=>rfl
 |T::r=>by show(cY T||q0 r)=_;rw[vm r];rfl
noncomputable def ot:bh->Bool
 | .none=>true
 | .one a=>decide (aM a<=32)
 | .two .. =>false
noncomputable def ka:bh->Bool
 | .one a=>decide (8<=aM a)&&decide (aM a<=256)&&(aM a%8==0)
 |_=>false
noncomputable def ik:bh->Bool
 | .two a c=>decide (8<=aM a)&&decide (aM a<=256)&&(aM a%8==0)&&decide (aM c<=80)
 |_=>false
noncomputable def vn:bh->Bool
 | .one _=>true
 |_=>false
noncomputable def cy(b:List Nat)(s:bh):Bool:=
 if b=nm "string" then iR s
 else if b=nm "bytes" then ot s
 else if b=nm "int" \/b=nm "uint" then ka s
 else if b=nm "fixed" \/b=nm "ufixed" then ik s
 else if b=nm "hash" then vn s
 else if b=nm "address" then iR s
 else true
mutual
noncomputable def cz:Ty->Bool
 | .bas b s _=>cy b s
 | .tup cs _=>q7 cs
noncomputable def q7:List Ty->Bool
 |[]=>true
 |T::r=>cz T&&q7 r
end
theorem vp:∀cs,q7 cs=cs.all cz
 |[]=>rfl
 |T::r=>by show(cz T&&q7 r)=_;rw[vp r];rfl
section
variable{C:Calls}{g:Bool}{sc:Scope}{ρ ρ':ak}{o:aB}{k:Nat}
theorem gj{ex:aC->ak->aB}{s:aC}(h:ex s ρ=o):aw ex [s] ρ=o:=by
 show(match ex s ρ with| .next ρ' =>aw ex [] ρ'|o=>o)=_
 rw[h]
 cases o<;>rfl
theorem NW{gen:Bool}{st:aC}{args:List PV}{names:List Str}(hn:au st=names)(hl:args.length=names.length)(h:aw (pX C gen 12 (ck st)) (aT st) (names.zip args)= .next ρ'):aO C gen st args= .ok .none:=by
 rw[mo hn hl h];rfl
theorem Rm{gen:Bool}{st:aC}{args:List PV}{names:List Str}{c:XC}(hn:au st=names)(hl:args.length=names.length)(h:aw (pX C gen 12 (ck st)) (aT st) (names.zip args)= .exc c ρ'):aO C gen st args= .exc c:=by
 rw[mo hn hl h];rfl
theorem vq{gen:Bool}{st:aC}{args:List PV}{names:List Str}{c:XC}(hn:au st=names)(hl:args.length=names.length)(h:aw (pX C gen 12 (ck st)) (aT st) (names.zip args)= .rais c ρ'):aO C gen st args= .exc c:=by
 rw[mo hn hl h];rfl
theorem NX{gen:Bool}{st:aC}{args:List PV}{names:List Str}{c:XC}(hn:au st=names)(hl:args.length=names.length)(h:aw (pX C gen 12 (ck st)) (aT st) (names.zip args)= .held c):aO C gen st args= .exc c:=by
 rw[mo hn hl h];rfl
theorem jq{a b:Int}:bn C .Lt (.int a) (.int b)= .ok (decide (a<b)):=rfl
theorem vr{a b:Int}:bn C .Gt (.int a) (.int b)= .ok (decide (a>b)):=rfl
theorem vv{a b:Int}:bn C .LtE (.int a) (.int b)= .ok (decide (a<=b)):=rfl
theorem vA{a b:Int}:bn C .Eq (.int a) (.int b)= .ok (a==b):=by
 show aE (if(true&&true)=true then some ((PV.int a).same (.int b))else none)=_
 rfl
theorem ou{a b:Int}:bn C .NotEq (.int a) (.int b)= .ok (!(a==b)):=by
 show aE (if(true&&true)=true then some (!(PV.int a).same (.int b))else none)=_
 rfl
theorem ll{a:Int}:bJ .Mod (.int a) (.int 8)=some (.int (a%8)):=by
 show(if 0<(8:Int)/\ (8:Int)<=1000 then some (PV.int (a%8))else none)=_
 rw[if_pos (by decide)]
theorem NY{c:Nat}(h:aK c=true):c<=122:=by
 unfold aK at h
 rw[gZ,aI,aI]at h
 have:(65<=c/\ c<=90) \/(97<=c/\ c<=122):=by simpa using h
 omega
theorem NZ{b:List Nat}(h:b.all aK=true):(PV.str b).flat 4=true:=by
 refine ba.mpr λc hc=> ?_
 have:=NY (ba.mp h c hc)
 exact decide_eq_true (fo ‹_› (by rfl))
theorem q8{b x y:List Nat}(hb:b.all aK=true)(hx:(PV.str x).flat 4=true)(hy:(PV.str y).flat 4=true):bn C .In (.str b) (.tuple [.str x, .str y])= .ok (x==b||y==b):=by
 show aE (if((PV.str b).flat 4&&([PV.str x, .str y].all (PV.flat 4)))=true then some ([PV.str x, .str y].any λy=>y.same (.str b))else none)=_
 rw[NZ hb,g9,g9,hx,hy]
 show Res.ok (((⟨x.toArray⟩:Str)==⟨b.toArray⟩)||(((⟨y.toArray⟩:Str)==⟨b.toArray⟩)||false))=_
 rw[xv,xv,Bool.or_false]
theorem N9(fs:List (Str×PV))(m:List Nat):aO C false (an (ag 12) 5) [.inst .bas fs, .str m]= .exc .abi:=by
 refine vq (names:=[aa "self",aa "error_msg"]) (ρ':=[(aa "self", .inst .bas fs),(aa "error_msg", .str m)]) (by kernel_rfl) rfl ?_
 show aw _ _ [(aa "self", .inst .bas fs),(aa "error_msg", .str m)]=_
 (conv=>lhs;arg 2;whnf)
 apply gj
 apply k9
 focus kernel_rfl
 focus (repeat' first|tb_rel)
 focus kernel_rfl
end
end
section
theorem Cu:∀(s:List Nat) (a:Nat),a<=gP s a
 |[],a=>bP _
 |c::r,a=>by
  show a<=gP r (a*10+(c-48))
  exact aj (by lia) (Cu r _)
theorem Oa{d:List Nat}(h:aR d=true):1<=aM d:=by
 refine bM (j4 h) λh1 h2 h3=> ?_
 rw[u3 h3]
 cases d with
 |nil=>exact absurd rfl h1
 |cons c r=>
  rw[g9,aI]at h3
  have hr:=j5 h3.1
  have hc:c≠48:=λq=>h2 (by rw[q];rfl)
  have:=Cu r (0*10+(c-48))
  show(1:Int)<=((gP r (0*10+(c-48)):Nat):Int)
  lia
theorem eR{d:List Nat}(h:aR d=true)(hl:d.length<=90):e6 (.int (aM d))= .ok (.str d):=by
 show(if(small (aM d)&&decide ((ey (aM d)).length<=f6))=true then Res.ok (PV.str (ey (aM d)))else .stuck)=_
 rw[u4 h,u5 h hl,if_pos]
 rw[Da]
 exact decide_eq_true (by unfold f6;exact aL ‹_› (by rfl))
section
variable{C:Calls}
noncomputable abbrev Rv(C:Calls)(b:List Nat)(s:bh)(ds:List aF)(ok:Bool):Prop:=aO C false (an (ag 14) 4) [d0 (.bas b s ds)]=if ok=true then .ok .none else .exc .abi
noncomputable abbrev Ob(b:List Nat)(s:bh)(ds:List aF):ak:=[(aa "self", .inst .bas [(aa "arrlist",bN ds),(aa "base", .str b),(aa "sub",cJ s)])]
noncomputable def fg(o:aB)(ok:Bool):Prop:=jP o=if ok=true then .ok .none else .exc .abi
section
variable{g:Bool}{k:Nat}{sc:Scope}{ρ ρ':ak}{ok:Bool}{ex:aC->ak->aB}
theorem kb:fg (aw ex [] ρ) true:=rfl
theorem iS{o:aB}(h:o= .exc .abi ρ'):fg o false:=by rw[h];rfl
theorem mz{s r}(h:ex s ρ= .next ρ')(hr:fg (aw ex r ρ') ok):fg (aw ex (s::r) ρ) ok:=by rw[aP h rfl];exact hr
theorem gA{t b e p c}(ht:(pE C g 24).tst sc t ρ= .ok c)(hc:c=false)(h:fg (aw (pX C g k sc) e ρ) ok):fg (aw (pX C g (k+1) sc) [.If t b e p] ρ) ok:=by rw[gj (jW ht hc rfl)];exact h
theorem fO{t b e p c}(ht:(pE C g 24).tst sc t ρ= .ok c)(hc:c=true)(h:fg (aw (pX C g k sc) b ρ) ok):fg (aw (pX C g (k+1) sc) [.If t b e p] ρ) ok:=by rw[gj (k8 ht hc rfl)];exact h
theorem eS{t b p r c}(ht:(pE C g 24).tst sc t ρ= .ok c)(hc:c=false)(h:fg (aw (pX C g (k+1) sc) r ρ) ok):fg (aw (pX C g (k+1) sc) (.If t b [] p::r) ρ) ok:=mz (jW ht hc aS) h
theorem kc{t b p r c}(ht:(pE C g 24).tst sc t ρ= .ok c)(hc:c=true)(h:aw (pX C g k sc) b ρ= .exc .abi ρ'):fg (aw (pX C g (k+1) sc) (.If t b [] p::r) ρ) false:=iS (aD (k8 ht hc h) rfl)
end
theorem Oc{b:List Nat}{s:bh}{ds:List aF}{ok:Bool}(h:fg (aw (pX C false 12 (ck (an (ag 14) 4))) (aT (an (ag 14) 4)) (Ob b s ds)) ok):Rv C b s ds ok:=(mo (names:=[aa "self"]) (by kernel_rfl) rfl rfl).trans h
noncomputable abbrev Od(C:Calls):Prop:=∀(fs:List (Str×PV)) (m:List Nat),C.meth .bas (aa "invalidate") [.inst .bas fs, .str m]= .exc .abi
theorem Oe{b:List Nat}{s:bh}{ds:List aF}(hb:b.all aK=true)(hs:d6 s=true)(hl:(bO s).length<=90)(hI:Od C):Rv C b s ds (cy b s):=by
 apply Oc
 (conv=>arg 1;arg 2;whnf)
 (apply mz;(focus (apply iK;kernel_rfl;(focus ((repeat' first|tb_rel|tb_start);done));lcg_sub;lcg_sub)))
 by_cases h1:b=nm "string"
 ·rw[show cy b s=iR s by unfold cy;rw[if_pos h1]]
  (apply fO;(focus ((repeat' first|tb_rel|exact bj);done));(focus (exact beq_iff_eq.mpr h1;done)))
  cases s with
  |none=>
   (apply gA;(focus ((repeat' first|tb_rel|exact iM);done));(focus (rfl;done)))
   exact kb
  |one a=>
   (apply fO;(focus ((repeat' first|tb_rel|exact iM);done));(focus (rfl;done)))
   apply iS
   (apply aD;(focus (apply eh;(focus ((repeat' first|tb_rel|exact eR (by assumption) (by assumption)|exact rfl|exact hI _ _);done))));exact rfl)
  |two a c=>
   (apply fO;(focus ((repeat' first|tb_rel|exact iM);done));(focus (rfl;done)))
   apply iS
   (apply aD;(focus (apply eh;(focus ((repeat' first|tb_rel|exact eR (by assumption) (by assumption)|exact rfl|exact hI _ _);done))));exact rfl)
 (apply gA;(focus ((repeat' first|tb_rel|exact bj);done));(focus (exact beq_eq_false_iff_ne.mpr h1;done)))
 by_cases h2:b=nm "bytes"
 ·rw[show cy b s=ot s by unfold cy;rw[if_neg h1,if_pos h2]]
  (apply fO;(focus ((repeat' first|tb_rel|exact bj);done));(focus (exact beq_iff_eq.mpr h2;done)))
  cases s with
  |none=>
   (apply eS;(focus ((repeat' first|tb_rel|exact cX|exact mv);done));(focus (rfl;done)))
   refine gA (c:=false&&false) (gh (kZ ?_ λq=>nomatch q)) rfl kb
   (repeat' first|tb_rel|exact mv)
  |one a=>
   by_cases h:aM a<=32
   ·rw[show ot (.one a)=true from decide_eq_true h]
    (apply eS;(focus ((repeat' first|tb_rel|exact cX|exact ii);done));(focus (rfl;done)))
    (apply gA;(focus ((repeat' first|tb_rel|exact ii|exact vr);done));(focus (simp;omega;done)))
    exact kb
   ·rw[show ot (.one a)=false from decide_eq_false h]
    (apply eS;(focus ((repeat' first|tb_rel|exact cX|exact ii);done));(focus (rfl;done)))
    (apply fO;(focus ((repeat' first|tb_rel|exact ii|exact vr);done));(focus (simp;omega;done)))
    apply iS
    (apply aD;(focus (apply eh;(focus ((repeat' first|tb_rel|exact eR (by assumption) (by assumption)|exact rfl|exact hI _ _);done))));exact rfl)
  |two a c=>
   (apply kc;(focus ((repeat' first|tb_rel|exact cX|exact mw);done));(focus (rfl;done)))
   (apply aD;(focus (apply eh;(focus ((repeat' first|tb_rel|exact eR (by assumption) (by assumption)|exact rfl|exact hI _ _);done))));exact rfl)
 (apply gA;(focus ((repeat' first|tb_rel|exact bj);done));(focus (exact beq_eq_false_iff_ne.mpr h2;done)))
 by_cases h3:b=nm "int" \/b=nm "uint"
 ·have h3':(nm "int" ==b||nm "uint" ==b)=true:=by
   rw[gZ,beq_iff_eq,beq_iff_eq]
   exact h3.imp Eq.symm Eq.symm
  rw[show cy b s=ka s by unfold cy;rw[if_neg h1,if_neg h2,if_pos h3]]
  (apply fO;(focus ((repeat' first|tb_rel|exact q8 hb (by decide+kernel) (by decide+kernel));done));(focus (exact h3';done)))
  cases s with
  |none=>
   (apply kc;(focus ((repeat' first|tb_rel|exact mv);done));(focus (rfl;done)))
   (apply aD;(focus (apply eh;(focus ((repeat' first|tb_rel|exact eR (by assumption) (by assumption)|exact rfl|exact hI _ _);done))));exact rfl)
  |one a=>
   by_cases q1:8<=aM a/\ aM a<=256
   ·by_cases q2:aM a%8=0
    ·rw[show ka (.one a)=true by simp[ka,q1,q2]]
     (apply eS;(focus ((repeat' first|tb_rel|exact ii);done));(focus (rfl;done)))
     (apply eS;(focus ((repeat' first|tb_rel|exact jq);done));(focus (simp;omega;done)))
     (apply gA;(focus ((repeat' first|tb_rel|exact ll|exact ou);done));(focus (simp[q2];done)))
     exact kb
    ·rw[show ka (.one a)=false by simp[ka,q2]]
     (apply eS;(focus ((repeat' first|tb_rel|exact ii);done));(focus (rfl;done)))
     (apply eS;(focus ((repeat' first|tb_rel|exact jq);done));(focus (simp;omega;done)))
     (apply fO;(focus ((repeat' first|tb_rel|exact ll|exact ou);done));(focus (simp[q2];done)))
     apply iS
     (apply aD;(focus (apply eh;(focus ((repeat' first|tb_rel|exact eR (by assumption) (by assumption)|exact rfl|exact hI _ _);done))));exact rfl)
   ·rw[show ka (.one a)=false by
     show(decide (8<=aM a)&&decide (aM a<=256)&&(aM a%8==0))=false
     rw[lG];left;rw[lG,decide_eq_false_iff_not,decide_eq_false_iff_not];omega]
    (apply eS;(focus ((repeat' first|tb_rel|exact ii);done));(focus (rfl;done)))
    (apply kc;(focus ((repeat' first|tb_rel|exact jq);done));(focus (simp;omega;done)))
    (apply aD;(focus (apply eh;(focus ((repeat' first|tb_rel|exact eR (by assumption) (by assumption)|exact rfl|exact hI _ _);done))));exact rfl)
  |two a c=>
   (apply kc;(focus ((repeat' first|tb_rel|exact mw);done));(focus (rfl;done)))
   (apply aD;(focus (apply eh;(focus ((repeat' first|tb_rel|exact eR (by assumption) (by assumption)|exact rfl|exact hI _ _);done))));exact rfl)
 have h3':(nm "int" ==b||nm "uint" ==b)=false:=by
  rw[kx,beq_eq_false_iff_ne,beq_eq_false_iff_ne]
  exact⟨λq=>h3 (.inl q.symm),λq=>h3 (.inr q.symm)⟩
 (apply gA;(focus ((repeat' first|tb_rel|exact q8 hb (by decide+kernel) (by decide+kernel));done));(focus (exact h3';done)))
 by_cases h4:b=nm "fixed" \/b=nm "ufixed"
 ·have h4':(nm "fixed" ==b||nm "ufixed" ==b)=true:=by
   rw[gZ,beq_iff_eq,beq_iff_eq]
   exact h4.imp Eq.symm Eq.symm
  rw[show cy b s=ik s by unfold cy;rw[if_neg h1,if_neg h2,if_neg h3,if_pos h4]]
  (apply fO;(focus ((repeat' first|tb_rel|exact q8 hb (by decide+kernel) (by decide+kernel));done));(focus (exact h4';done)))
  cases s with
  |none=>
   (apply kc;(focus ((repeat' first|tb_rel|exact lh);done));(focus (rfl;done)))
   (apply aD;(focus (apply eh;(focus ((repeat' first|tb_rel|exact eR (by assumption) (by assumption)|exact rfl|exact hI _ _);done))));exact rfl)
  |one a=>
   (apply kc;(focus ((repeat' first|tb_rel|exact B4);done));(focus (rfl;done)))
   (apply aD;(focus (apply eh;(focus ((repeat' first|tb_rel|exact eR (by assumption) (by assumption)|exact rfl|exact hI _ _);done))));exact rfl)
  |two a c=>
   have hac:aR a=true/\ aR c=true:=by simpa[d6] using hs
   have hcn:=hac.2
   have hcl:c.length<=90:=by simp[bO]at hl;omega
   have hc1:1<=aM c:=Oa hac.2
   by_cases q1:8<=aM a/\ aM a<=256
   ·by_cases q2:aM a%8=0
    ·by_cases q3:aM c<=80
     ·rw[show ik (.two a c)=true by simp[ik,q1,q2,q3]]
      show fg (aw _ _ [(aa "self", .inst .bas [(aa "arrlist",bN ds),(aa "base", .str b),(aa "sub", .tuple [.int (aM a), .int (aM c)])]),(aa "base", .str b),(aa "sub", .tuple [.int (aM a), .int (aM c)])]) _
      (apply eS;(focus ((repeat' first|tb_rel|exact iP);done));(focus (rfl;done)))
      (apply mz;(focus (apply iK;kernel_rfl;(focus ((repeat' first|tb_rel);done));lcg_sub;lcg_sub)))
      (apply eS;(focus ((repeat' first|tb_rel|exact jq);done));(focus (simp;omega;done)))
      (apply eS;(focus ((repeat' first|tb_rel|exact ll|exact ou);done));(focus (simp[q2];done)))
      (apply gA;(focus ((repeat' first|tb_rel|exact jq);done));(focus (simp;omega;done)))
      exact kb
     ·rw[show ik (.two a c)=false by simp[ik,q3]]
      show fg (aw _ _ [(aa "self", .inst .bas [(aa "arrlist",bN ds),(aa "base", .str b),(aa "sub", .tuple [.int (aM a), .int (aM c)])]),(aa "base", .str b),(aa "sub", .tuple [.int (aM a), .int (aM c)])]) _
      (apply eS;(focus ((repeat' first|tb_rel|exact iP);done));(focus (rfl;done)))
      (apply mz;(focus (apply iK;kernel_rfl;(focus ((repeat' first|tb_rel);done));lcg_sub;lcg_sub)))
      (apply eS;(focus ((repeat' first|tb_rel|exact jq);done));(focus (simp;omega;done)))
      (apply eS;(focus ((repeat' first|tb_rel|exact ll|exact ou);done));(focus (simp[q2];done)))
      (apply fO;(focus ((repeat' first|tb_rel|exact jq);done));(focus (simp;omega;done)))
      apply iS
      (apply aD;(focus (apply eh;(focus ((repeat' first|tb_rel|exact eR (by assumption) (by assumption)|exact rfl|exact hI _ _);done))));exact rfl)
    ·rw[show ik (.two a c)=false by simp[ik,q2]]
     show fg (aw _ _ [(aa "self", .inst .bas [(aa "arrlist",bN ds),(aa "base", .str b),(aa "sub", .tuple [.int (aM a), .int (aM c)])]),(aa "base", .str b),(aa "sub", .tuple [.int (aM a), .int (aM c)])]) _
     (apply eS;(focus ((repeat' first|tb_rel|exact iP);done));(focus (rfl;done)))
     (apply mz;(focus (apply iK;kernel_rfl;(focus ((repeat' first|tb_rel);done));lcg_sub;lcg_sub)))
     (apply eS;(focus ((repeat' first|tb_rel|exact jq);done));(focus (simp;omega;done)))
     (apply kc;(focus ((repeat' first|tb_rel|exact ll|exact ou);done));(focus (simp[q2];done)))
     (apply aD;(focus (apply eh;(focus ((repeat' first|tb_rel|exact eR (by assumption) (by assumption)|exact rfl|exact hI _ _);done))));exact rfl)
   ·rw[show ik (.two a c)=false by
     show(decide (8<=aM a)&&decide (aM a<=256)&&(aM a%8==0)&&decide (aM c<=80))=false
     rw[lG];left;rw[lG];left;rw[lG,decide_eq_false_iff_not,decide_eq_false_iff_not];omega]
    show fg (aw _ _ [(aa "self", .inst .bas [(aa "arrlist",bN ds),(aa "base", .str b),(aa "sub", .tuple [.int (aM a), .int (aM c)])]),(aa "base", .str b),(aa "sub", .tuple [.int (aM a), .int (aM c)])]) _
    (apply eS;(focus ((repeat' first|tb_rel|exact iP);done));(focus (rfl;done)))
    (apply mz;(focus (apply iK;kernel_rfl;(focus ((repeat' first|tb_rel);done));lcg_sub;lcg_sub)))
    (apply kc;(focus ((repeat' first|tb_rel|exact jq);done));(focus (simp;omega;done)))
    (apply aD;(focus (apply eh;(focus ((repeat' first|tb_rel|exact eR (by assumption) (by assumption)|exact rfl|exact hI _ _);done))));exact rfl)
 have h4':(nm "fixed" ==b||nm "ufixed" ==b)=false:=by
  rw[kx,beq_eq_false_iff_ne,beq_eq_false_iff_ne]
  exact⟨λq=>h4 (.inl q.symm),λq=>h4 (.inr q.symm)⟩
 (apply gA;(focus ((repeat' first|tb_rel|exact q8 hb (by decide+kernel) (by decide+kernel));done));(focus (exact h4';done)))
 by_cases h5:b=nm "hash"
 ·rw[show cy b s=vn s by unfold cy;rw[if_neg h1,if_neg h2,if_neg h3,if_neg h4,if_pos h5]]
  (apply fO;(focus ((repeat' first|tb_rel|exact bj);done));(focus (exact beq_iff_eq.mpr h5;done)))
  cases s with
  |none=>
   (apply fO;(focus ((repeat' first|tb_rel|exact mv);done));(focus (rfl;done)))
   apply iS
   (apply aD;(focus (apply eh;(focus ((repeat' first|tb_rel|exact eR (by assumption) (by assumption)|exact rfl|exact hI _ _);done))));exact rfl)
  |one a=>
   (apply gA;(focus ((repeat' first|tb_rel|exact ii);done));(focus (rfl;done)))
   exact kb
  |two a c=>
   (apply fO;(focus ((repeat' first|tb_rel|exact mw);done));(focus (rfl;done)))
   apply iS
   (apply aD;(focus (apply eh;(focus ((repeat' first|tb_rel|exact eR (by assumption) (by assumption)|exact rfl|exact hI _ _);done))));exact rfl)
 (apply gA;(focus ((repeat' first|tb_rel|exact bj);done));(focus (exact beq_eq_false_iff_ne.mpr h5;done)))
 by_cases h6:b=nm "address"
 ·rw[show cy b s=iR s by unfold cy;rw[if_neg h1,if_neg h2,if_neg h3,if_neg h4,if_neg h5,if_pos h6]]
  (apply fO;(focus ((repeat' first|tb_rel|exact bj);done));(focus (exact beq_iff_eq.mpr h6;done)))
  cases s with
  |none=>
   (apply gA;(focus ((repeat' first|tb_rel|exact iM);done));(focus (rfl;done)))
   exact kb
  |one a=>
   (apply fO;(focus ((repeat' first|tb_rel|exact iM);done));(focus (rfl;done)))
   apply iS
   (apply aD;(focus (apply eh;(focus ((repeat' first|tb_rel|exact eR (by assumption) (by assumption)|exact rfl|exact hI _ _);done))));exact rfl)
  |two a c=>
   (apply fO;(focus ((repeat' first|tb_rel|exact iM);done));(focus (rfl;done)))
   apply iS
   (apply aD;(focus (apply eh;(focus ((repeat' first|tb_rel|exact eR (by assumption) (by assumption)|exact rfl|exact hI _ _);done))));exact rfl)
 ·rw[show cy b s=true by unfold cy;rw[if_neg h1,if_neg h2,if_neg h3,if_neg h4,if_neg h5,if_neg h6]]
  (apply gA;(focus ((repeat' first|tb_rel|exact bj);done));(focus (exact beq_eq_false_iff_ne.mpr h6;done)))
  exact kb
end
end
section
noncomputable def fP:Ty->Ty
 | .bas b s ds=> .bas b s ds.dropLast
 | .tup cs ds=> .tup cs ds.dropLast
noncomputable def vB:aC->List aC
 | .For _ _ b _ _=>b
 |_=>[]
noncomputable def Of:bh->Bool
 | .one _=>true
 |_=>false
noncomputable def Og:bh->Bool
 | .two .. =>true
 |_=>false
section
variable{C:Calls}
noncomputable abbrev kd(b:List Nat)(s:bh)(ds:List aF):PV:= .inst .bas [(aa "arrlist",bN ds),(aa "base", .str b),(aa "sub",cJ s)]
noncomputable abbrev tupI(cs:List Ty)(ds:List aF):PV:= .inst .tup [(aa "arrlist",bN ds),(aa "components", .tuple (cs.map aH))]
theorem mA(cs:List Ty)(ds:List aF):aH (.tup cs ds)=tupI cs ds:=by
 show PV.inst .tup [(aa "arrlist",bN ds),(aa "components", .tuple (ie cs))]=_
 rw[u9]
theorem q9{s:bh}:bn C .Is (cJ s) .none= .ok (iR s):=by cases s<;>rfl
theorem Cv{s:bh}:dO (cJ s) (aa "int")=some (Of s):=by cases s<;>kernel_rfl
theorem Rn{s:bh}:dO (cJ s) (aa "tuple")=some (Og s):=by cases s<;>kernel_rfl
theorem Oh{b:List Nat}{s:bh}{ds:List aF}(hH:C.prop .bas (aa "_has_dynamic_arrlist") (kd b s ds)= .ok (.bool (eJ ds))):aO C false (an (ag 14) 3) [kd b s ds]= .ok (.bool (cY (.bas b s ds))):=by
 have e:cY (.bas b s ds)=(eJ ds||(b==nm "string")||(b==nm "bytes" &&iR s)):=by simp only[cY]
 refine du (names:=[aa "self"]) (by kernel_rfl) rfl ?_
 show aw _ _ [(aa "self",kd b s ds)]=_
 (conv=>lhs;arg 2;whnf)
 cases h:eJ ds with
 |true=>
  rw[h]at e hH
  (apply cm;(focus ((repeat' first|tb_rel|exact hH);done));(focus (rfl;done));(focus (exact rfl)))
  (refine aD ?_ rfl;apply a6;(focus ((repeat' first|tb_rel);done)))
  rw[e];rfl
 |false=>
  rw[h]at e hH
  (apply br;(focus ((repeat' first|tb_rel|exact hH);done));(focus (rfl;done));(focus (exact aS)))
  by_cases h1:b=nm "string"
  ·(apply cm;(focus ((repeat' first|tb_rel|exact bj|tb_start);done));(focus (exact beq_iff_eq.mpr h1;done));(focus (exact rfl)))
   (refine aD ?_ rfl;apply a6;(focus ((repeat' first|tb_rel);done)))
   rw[e,h1,beq_self_eq_true];rfl
  ·(apply br;(focus ((repeat' first|tb_rel|exact bj|tb_start);done));(focus (exact beq_eq_false_iff_ne.mpr h1;done));(focus (exact aS)))
   have h1':=beq_eq_false_iff_ne.mpr h1
   by_cases h2:(b==nm "bytes" &&iR s)=true
   ·(apply cm;(focus ((repeat' first|tb_rel|exact bj|tb_start|exact q9);done));(focus (exact h2;done));(focus (exact rfl)))
    (refine aD ?_ rfl;apply a6;(focus ((repeat' first|tb_rel);done)))
    rw[e,h1',h2];rfl
   ·rw[mO]at h2
    (apply br;(focus ((repeat' first|tb_rel|exact bj|tb_start|exact q9);done));(focus (exact h2;done));(focus (exact aS)))
    (refine aD ?_ rfl;apply a6;(focus ((repeat' first|tb_rel);done)))
    rw[e,h1',h2];rfl
theorem Oi{cs:List Ty}{ds:List aF}(hc:cs.length<=90)(hH:C.prop .tup (aa "_has_dynamic_arrlist") (tupI cs ds)= .ok (.bool (eJ ds))) (hC:∀T∈cs,C.prop (bD T) (aa "is_dynamic") (aH T)= .ok (.bool (cY T))):aO C true (an (ag 13) 4) [tupI cs ds]= .ok (.bool (cY (.tup cs ds))):=by
 have e:cY (.tup cs ds)=(eJ ds||cs.any cY):=by simp only[cY,vm]
 refine du (names:=[aa "self"]) (by kernel_rfl) rfl ?_
 show aw _ _ [(aa "self",tupI cs ds)]=_
 (conv=>lhs;arg 2;whnf)
 cases h:eJ ds with
 |true=>
  rw[h]at e hH
  (apply cm;(focus ((repeat' first|tb_rel|exact hH);done));(focus (rfl;done));(focus (exact rfl)))
  (refine aD ?_ rfl;apply a6;(focus ((repeat' first|tb_rel);done)))
  rw[e];rfl
 |false=>
  rw[h]at e hH
  (apply br;(focus ((repeat' first|tb_rel|exact hH);done));(focus (rfl;done));(focus (exact aS)))
  (refine aD ?_ rfl;apply a6;(focus ((repeat' first|tb_rel|tb_start|(with_reducible exact ig (by rw[cu];exact lJ ‹_›))|(refine gO aH cs (λT=> .bool (cY T)) (by kernel_rfl) ?_)|(exact hC _ (by assumption))|exact B6);done)))
  rw[e,wH];rfl
theorem Cw{body:ak->aB}{x:Str}{ρ0:ak}(hx:∀v w,aQ x v (ρ0++[(x,w)])=ρ0++[(x,v)]):∀(cs:List Ty) (w:PV),(∀T∈cs,body (ρ0++[(x,aH T)])=if cz T=true then .next (ρ0++[(x,aH T)])else .exc .abi (ρ0++[(x,aH T)]))->∃ρ',db body x (cs.map aH) (ρ0++[(x,w)])=if cs.all cz=true then .next ρ' else .held .abi
 |[],w,_=>⟨_,rfl⟩
 |T::cs,w,h=>by
  have h1:=h T (.head _)
  refine xE (Cw hx cs (aH T) λU hU=>h U (.tail _ hU)) λρ' h2=> ?_
  cases e:cz T with
  |true=>
   rw[e]at h1
   refine⟨ρ',?_⟩
   rw[g9,e,Da,fm]
   exact BA (hx _ _) h1 h2
  |false=>
   rw[e]at h1
   refine⟨[],?_⟩
   rw[g9,e,Bool.false_and,fm]
   exact MD (hx _ _) h1
theorem Oj{cs:List Ty}{ds:List aF}(hne:cs≠[])(hc:cs.length<=90)(hC:∀T∈cs,C.meth (bD T) (aa "validate") [aH T]=if cz T=true then .ok .none else .exc .abi):aO C false (an (ag 13) 3) [tupI cs ds]=if cz (.tup cs ds)=true then .ok .none else .exc .abi:=by
 have e:cz (.tup cs ds)=cs.all cz:=by simp only[cz,vp]
 have key:∃ρ',aw (pX C false 12 (ck (an (ag 13) 3))) (aT (an (ag 13) 3)) [(aa "self",tupI cs ds)]=if cs.all cz=true then .next ρ' else .held .abi:=by
  cases cs with
  |nil=>exact absurd rfl hne
  |cons T cs=>
   have hb:∀U∈T::cs,∀body,body=vB ((aT (an (ag 13) 3)).headD default)->aw (pX C false 11 (ck (an (ag 13) 3))) body ([(aa "self",tupI (T::cs) ds)]++[(aa "c",aH U)])=if cz U=true then .next ([(aa "self",tupI (T::cs) ds)]++[(aa "c",aH U)])else .exc .abi ([(aa "self",tupI (T::cs) ds)]++[(aa "c",aH U)]):=by
    intro U hU body hbd
    subst hbd
    show aw _ _ [(aa "self",tupI (T::cs) ds),(aa "c",aH U)]=_
    (conv=>lhs;arg 2;whnf)
    have hm:=hC U hU
    cases hv:cz U with
    |true=>
     rw[hv]at hm
     have hm:C.meth (bD U) (aa "validate") [aH U]= .ok .none:=hm
     apply gj
     apply Br
     (repeat' first|tb_rel|exact hm|(cases U<;>kernel_rfl))
    |false=>
     rw[hv]at hm
     have hm:C.meth (bD U) (aa "validate") [aH U]= .exc .abi:=hm
     apply gj
     apply eh
     (repeat' first|tb_rel|exact hm|(cases U<;>kernel_rfl))
   refine xE (Cw (body:=aw (pX C false 11 (ck (an (ag 13) 3))) (vB ((aT (an (ag 13) 3)).headD default))) (x:=aa "c") (ρ0:=[(aa "self",tupI (T::cs) ds)]) (λv w=>qw (by kernel_rfl) qv) (T::cs) .none (λU hU=>hb U hU _ rfl)) λρ' hf=> ?_
   refine⟨ρ',?_⟩
   have hstep:db (aw (pX C false 11 (ck (an (ag 13) 3))) (vB ((aT (an (ag 13) 3)).headD default))) (aa "c") ((T::cs).map aH) [(aa "self",tupI (T::cs) ds)]=if(T::cs).all cz=true then .next ρ' else .held .abi:=by
    rw[<-hf]
    show db _ _ (aH T::cs.map aH) _=db _ _ (aH T::cs.map aH) _
    unfold db
    rw[show aQ (aa "c") (aH T) ([(aa "self",tupI (T::cs) ds)]++[(aa "c",PV.none)])=aQ (aa "c") (aH T) [(aa "self",tupI (T::cs) ds)]from(qw (by kernel_rfl) qv).trans (qw (by kernel_rfl) ME).symm]
   (conv=>lhs;arg 2;whnf)
   apply gj
   apply Bu
   focus kernel_rfl
   focus (repeat' first|tb_rel|tb_start)
   focus (exact ig (by rw[cu];exact aL ‹_› (by rfl)))
   exact hstep
 refine xE key λρ' key=> ?_
 rw[e]
 cases h:cs.all cz with
 |true=>rw[h]at key;exact NW (names:=[aa "self"]) (by kernel_rfl) rfl key
 |false=>rw[h]at key;exact NX (names:=[aa "self"]) (by kernel_rfl) rfl key
end
end
section
theorem vC{α:Type}{l:List α}(h:l≠[]):(!l.isEmpty)=true:=by cases l with
 |nil=>exact absurd rfl h
 |cons a r=>rfl
section
variable{C:Calls}
theorem Cx{ds:List aF}(h0:ds≠[])(h:ds.length<=900):gJ (.tuple (ds.map aV)) .none (.int (-1))=some (.tuple (ds.dropLast.map aV)):=by
 have:=dJ
 show(if(!(ds.map aV).isEmpty&&decide ((ds.map aV).length<=aX))=true then some (PV.tuple (ds.map aV).dropLast)else none)=_
 rw[if_pos,Dq,Dq,List.map_take,cu]
 rw[aI]
 refine⟨by cases ds with|nil=>exact absurd rfl h0|cons a r=>rfl,decide_eq_true (by rw[cu];exact aL ‹_› (by rfl))⟩
theorem Cy{ev:ai->ak->Res PV}{ρ:ak}{e e':ai}{ds:List aF}(hl:ds.length<=900)(h:ev e ρ= .ok (.tuple (ds.map aV)))(h':ev e' ρ= .ok .none):fw ev .Or [e,e'] ρ= .ok (bN ds):=by
 by_cases h0:ds=[]
 ·subst h0
  have h:ev e ρ= .ok (.tuple []):=h
  rw[li rfl]
  show(ev e ρ).bind _=_
  rw[h,eM,show ee (.tuple [])=some false from qE (xs:=[]) (by decide)]
  exact h'
 ·rw[iQ h0]
  show(ev e ρ).bind _=_
  rw[h]
  show(aE (ee (.tuple (ds.map aV)))).bind _=_
  rw[qE (by rw[cu];exact aL ‹_› (by rfl))]
  cases ds with
  |nil=>exact absurd rfl h0
  |cons a r=>rfl
theorem Ol{b:List Nat}{s:bh}{ds:List aF}(hd:ds.length<=90)(hl:(sh (.bas b s ds)).length<=900)(hA:C.prop .bas (aa "is_array") (kd b s ds)= .ok (.bool (!ds.isEmpty))) (hS:C.meth .bas (aa "to_type_str") [kd b s ds]= .ok (.str (sh (.bas b s ds))))
  (hM:∀x y z,C.fn (aa "BasicType") [x,y,z]= .ok (.inst .bas [(aa "arrlist",z),(aa "base",x),(aa "sub",y)])):aO C false (an (ag 14) 2) [kd b s ds]=if ds=[]then .exc .value else .ok (kd b s ds.dropLast):=by
 by_cases h0:ds=[]
 ·rw[if_pos h0]
  rw[h0]at hA hS hl ⊢
  apply vq (names:=[aa "self"]) (by kernel_rfl) rfl
  show aw _ _ [(aa "self",kd b s [])]=_
  (conv=>lhs;arg 2;whnf)
  (apply cm;(focus ((repeat' first|tb_rel|exact hA);done));(focus (rfl;done));(focus (exact rfl)))
  apply gj
  apply k9
  focus kernel_rfl
  focus (repeat' first|tb_rel|exact hS|(with_reducible exact j6 (by omega))|(with_reducible exact j6 (by decide))|exact rfl)
  focus kernel_rfl
 ·rw[if_neg h0]
  have hA':(!ds.isEmpty)=true:=vC h0
  rw[hA']at hA
  refine du (names:=[aa "self"]) (by kernel_rfl) rfl ?_
  show aw _ _ [(aa "self", .inst .bas [(aa "arrlist",bN ds),(aa "base", .str b),(aa "sub",cJ s)])]=_
  (conv=>lhs;arg 2;whnf)
  (apply br;(focus ((repeat' first|tb_rel|exact hA);done));(focus (rfl;done));(focus (exact aS)))
  have hv:bN ds= .tuple (ds.map aV):=iQ h0
  rw[hv]
  (refine aD ?_ rfl;apply a6;(focus ((repeat' first|(refine Cy (ds:=ds.dropLast) (by rw[Dr];omega) ?_ ?_)|exact Cx h0 (by omega)|exact hM _ _ _|tb_start|tb_rel);done)))
  rfl
theorem Om{cs:List Ty}{ds:List aF}(hd:ds.length<=90)(hl:(sh (.tup cs ds)).length<=900)(hA:C.prop .tup (aa "is_array") (tupI cs ds)= .ok (.bool (!ds.isEmpty))) (hS:C.meth .tup (aa "to_type_str") [tupI cs ds]= .ok (.str (sh (.tup cs ds))))
  (hM:∀x z,C.fn (aa "TupleType") [x,z]= .ok (.inst .tup [(aa "arrlist",z),(aa "components",x)])):aO C false (an (ag 13) 2) [tupI cs ds]=if ds=[]then .exc .value else .ok (tupI cs ds.dropLast):=by
 by_cases h0:ds=[]
 ·rw[if_pos h0]
  rw[h0]at hA hS hl ⊢
  apply vq (names:=[aa "self"]) (by kernel_rfl) rfl
  show aw _ _ [(aa "self",tupI cs [])]=_
  (conv=>lhs;arg 2;whnf)
  (apply cm;(focus ((repeat' first|tb_rel|exact hA);done));(focus (rfl;done));(focus (exact rfl)))
  apply gj
  apply k9
  focus kernel_rfl
  focus (repeat' first|tb_rel|exact hS|(with_reducible exact j6 (lJ ‹_›))|(with_reducible exact j6 (by decide))|exact rfl)
  focus kernel_rfl
 ·rw[if_neg h0]
  have hA':(!ds.isEmpty)=true:=vC h0
  rw[hA']at hA
  refine du (names:=[aa "self"]) (by kernel_rfl) rfl ?_
  show aw _ _ [(aa "self", .inst .tup [(aa "arrlist",bN ds),(aa "components", .tuple (cs.map aH))])]=_
  (conv=>lhs;arg 2;whnf)
  (apply br;(focus ((repeat' first|tb_rel|exact hA);done));(focus (rfl;done));(focus (exact aS)))
  have hv:bN ds= .tuple (ds.map aV):=iQ h0
  rw[hv]
  (refine aD ?_ rfl;apply a6;(focus ((repeat' first|(refine Cy (ds:=ds.dropLast) (by rw[Dr];omega) ?_ ?_)|exact Cx h0 (aL ‹_› (by rfl))|exact hM _ _|tb_start|tb_rel);done)))
  rfl
theorem On{r:Res PV}{ρ:ak}{a:PV}(h:r= .ok a):aW r ρ (λv=> .ret v)= .ret a:=by rw[h];rfl
theorem Oo{T U:Ty}(h1:C.meth (bD T) (aa "to_type_str") [aH T]= .ok (.str (sh T))) (h2:C.meth (bD U) (aa "to_type_str") [aH U]= .ok (.str (sh U))) (hd:bD T≠bD U->sh T≠sh U):jf C [aH T,aH U]= .ok (.bool (sh T==sh U)):=by
 have hr:aw (nQ (pE C false 24) (ck jS)) (aT jS) [(aa "self",aH T),(aa "other",aH U)]= .ret (.bool (sh T==sh U)):=by
  have l1:List.lookup (aa "self") ([(aa "self",aH T),(aa "other",aH U)]:ak)=some (aH T):=by tb_start
  have l2:List.lookup (aa "other") ([(aa "self",aH T),(aa "other",aH U)]:ak)=some (aH U):=by tb_start
  rw[show aT jS=[nN] by kernel_rfl]
  refine aD ?_ rfl
  unfold nQ
  rw[if_pos ⟨rfl,by kernel_rfl⟩,l1,l2]
  show(if bD T=bD U then aW ((pE C false 24).ev (ck jS) lX [(aa "self",aH T),(aa "other",aH U)]) _ λv=> .ret v else .ret (.bool false))=aB.ret _
  by_cases hc:bD T=bD U
  ·rw[if_pos hc]
   refine On ?_
   (conv=>lhs;arg 3;whnf)
   (repeat' first|tb_rel|exact h1|exact h2|exact vc _|exact bj)
  ·rw[if_neg hc,beq_eq_false_iff_ne.mpr (hd hc)]
 unfold jf
 rw[if_pos (by kernel_rfl)]
 show pY (jP (aw _ _ [(aa "self",aH T),(aa "other",aH U)]))=_
 rw[hr];rfl
end
end
section
theorem vD{α β:Type}(m:α->β)(f:α->Bool):∀l:List α,(!((l.filter f).map m).isEmpty)=l.any f
 |[]=>rfl
 |a::r=>by
  rw[rL,wc]
  cases f a with
  |true=>rfl
  |false=>exact vD m f r
theorem Op{α β:Type}(m:α->β)(f:α->Bool)(l:List α):((l.filter λa=> !f a).map m).isEmpty=l.all f:=by
 have:=vD m (λa=> !f a) l
 rw[List.all_eq_not_any_not,<-this,Bool.not_not]
section
variable{C:Calls}
noncomputable abbrev ow(b:List Nat)(s:bh)(ds:List aF):PV:= .list [.list [.str (nm "name"), .str b,cJ s], .list (ds.map aV)]
noncomputable abbrev oy(cs:List Ty)(ds:List aF):PV:= .list [.list [.str (nm "tuple"), .list (cs.map λT=> .str (sh T))], .list (ds.map aV)]
theorem Cz(b:List Nat)(s:bh)(ds:List aF):ek (some (dv (.bas b s ds)))=ow b s ds:=rfl
theorem vE(cs:List Ty)(ds:List aF):ek (some (dv (.tup cs ds)))=oy cs ds:=by
 show PV.list [.list [.str (nm "tuple"), .list ((cs.map sh).map .str)], .list (ds.map aV)]=_
 rw[o4];rfl
theorem Oq(d:aF):(aV d).flat 4=true:=by cases d<;>rfl
theorem Os(ds:List aF):(ds.map aV).all (PV.flat 4)=true:=by
 rw[ba]
 intro v hv
 refine ay (iw.mp hv) λd ø zq2=> ?_;subst zq2
 exact Oq d
theorem rc{ds:List aF}:bn C .In (.tuple []) (.list (ds.map aV))= .ok (eJ ds):=by
 show aE (if((PV.tuple []).flat 4&&(ds.map aV).all (PV.flat 4))=true then some ((ds.map aV).any λy=>y.same (.tuple []))else none)=_
 rw[Os,if_pos (by rfl),wH]
 show Res.ok _=_
 unfold eJ
 congr 1
 congr 1
 funext d
 cases d<;>rfl
theorem Ot{xs:List PV}:bn C .Eq (.list xs) (.list [])= .ok xs.isEmpty:=rfl
theorem vF:(nm "tuple" ==nm "tuple")=true:=by decide+kernel
theorem vG:(nm "name" ==nm "tuple")=false:=by decide+kernel
theorem Ou{b:List Nat}{s:bh}{ds:List aF}:aO C false (ag 25) [ow b s ds]= .ok (.bool (cY (.bas b s ds))):=by
 have e:cY (.bas b s ds)=(eJ ds||((b==nm "string")||(b==nm "bytes" &&iR s))):=by simp only[cY,Bool.or_assoc]
 refine du (names:=[aa "found"]) (by kernel_rfl) rfl ?_
 show aw _ _ [(aa "found",ow b s ds)]=_
 (conv=>lhs;arg 2;whnf)
 cases h:eJ ds with
 |true=>
  rw[h]at e
  (apply cm;(focus ((repeat' first|tb_rel|exact gQ|exact rc);done));(focus (exact h;done));(focus (exact rfl)))
  (refine aD ?_ rfl;apply a6;(focus ((repeat' first|tb_rel);done)))
  rw[e];rfl
 |false=>
  rw[h]at e
  (apply br;(focus ((repeat' first|tb_rel|exact gQ|exact rc);done));(focus (exact h;done));(focus (exact aS)))
  (apply br;(focus ((repeat' first|tb_rel|exact gi|exact bj);done));(focus (exact vG;done));(focus (exact aS)))
  (refine aD ?_ rfl;apply a6;(focus ((repeat' first|tb_rel|exact gi|exact gQ|exact uW|exact bj|exact q9);done)))
  rw[e];rfl
theorem Ov{cs:List Ty}{ds:List aF}(hc:cs.length<=90)(hR:∀T∈cs,C.fn (aa "_law_read") [.str (sh T)]= .ok (ek (some (dv T)))) (hV:∀T∈cs,C.fn (aa "_law_varies") [ek (some (dv T))]= .ok (.bool (cY T))):aO C false (ag 25) [oy cs ds]= .ok (.bool (cY (.tup cs ds))):=by
 have e:cY (.tup cs ds)=(eJ ds||cs.any cY):=by simp only[cY,vm]
 refine du (names:=[aa "found"]) (by kernel_rfl) rfl ?_
 show aw _ _ [(aa "found",oy cs ds)]=_
 (conv=>lhs;arg 2;whnf)
 cases h:eJ ds with
 |true=>
  rw[h]at e
  (apply cm;(focus ((repeat' first|tb_rel|exact gQ|exact rc);done));(focus (exact h;done));(focus (exact rfl)))
  (refine aD ?_ rfl;apply a6;(focus ((repeat' first|tb_rel);done)))
  rw[e];rfl
 |false=>
  rw[h]at e
  (apply br;(focus ((repeat' first|tb_rel|exact gQ|exact rc);done));(focus (exact h;done));(focus (exact aS)))
  (apply cm;(focus ((repeat' first|tb_rel|exact gi|exact bj);done));(focus (exact vF;done));(focus (exact rfl)))
  (refine aD ?_ rfl;apply a6;(focus ((repeat' first|tb_rel|(apply jj;kernel_rfl)|exact gi|exact gQ|exact oi (by rw[cu];lia)|(refine mu (λT=> .str (sh T)) cs cY (by kernel_rfl) ?_ ?_)|exact hR _ (by assumption)|exact hV _ (by assumption)|exact BC|exact oj);done)))
  rw[e,vD];rfl
theorem Ow{cs:List Ty}{ds:List aF}(hc:cs.length<=90)(hR:∀T∈cs,C.fn (aa "_law_read") [.str (sh T)]= .ok (ek (some (dv T)))) (hV:∀T∈cs,C.fn (aa "_law_valid") [ek (some (dv T))]= .ok (.bool (cz T))):aO C false (ag 26) [oy cs ds]= .ok (.bool (cz (.tup cs ds))):=by
 have e:cz (.tup cs ds)=cs.all cz:=by simp only[cz,vp]
 refine du (names:=[aa "found"]) (by kernel_rfl) rfl ?_
 show aw _ _ [(aa "found",oy cs ds)]=_
 (conv=>lhs;arg 2;whnf)
 (apply cm;(focus ((repeat' first|tb_rel|exact gi|exact bj);done));(focus (exact vF;done));(focus (exact rfl)))
 (refine aD ?_ rfl;apply a6;(focus ((repeat' first|tb_rel|(apply jj;kernel_rfl)|exact gi|exact gQ|exact oi (by rw[cu];lia)|(refine mu (λT=> .str (sh T)) cs (λT=> !cz T) (by kernel_rfl) ?_ ?_)|exact hR _ (by assumption)|exact hV _ (by assumption)|exact BC|exact Ot);done)))
 rw[e,Op]
theorem Ox{b:List Nat}{s:bh}{ds:List aF}(hs:d6 s=true):aO C false (ag 26) [ow b s ds]= .ok (.bool (cy b s)):=by
 refine du (names:=[aa "found"]) (by kernel_rfl) rfl ?_
 show aw _ _ [(aa "found",ow b s ds)]=_
 (conv=>lhs;arg 2;whnf)
 (apply br;(focus ((repeat' first|tb_rel|exact gi|exact bj);done));(focus (exact vG;done));(focus (exact aS)))
 (apply aP;(focus (apply iK;kernel_rfl;(focus ((repeat' first|tb_rel|exact gi|exact gQ|exact uW);done));lcg_sub;lcg_sub)))
 by_cases h1:b=nm "string" \/b=nm "address"
 ·have h1':(b==nm "string" ||b==nm "address")=true:=by rw[gZ,beq_iff_eq,beq_iff_eq];exact h1
  have e:cy b s=iR s:=by
   rcases h1 with rfl|rfl
   ·unfold cy;rw[if_pos rfl]
   ·unfold cy;rw[if_neg (by decide+kernel),if_neg (by decide+kernel),if_neg (by decide+kernel),if_neg (by decide+kernel),if_neg (by decide+kernel),if_pos rfl]
  (apply cm;(focus ((repeat' first|tb_rel|exact bj);done));(focus (exact h1';done));(focus (exact rfl)))
  (refine aD ?_ rfl;apply a6;(focus ((repeat' first|tb_rel|exact q9);done)))
  rw[e]
 have h1':(b==nm "string" ||b==nm "address")=false:=by rw[kx,beq_eq_false_iff_ne,beq_eq_false_iff_ne];exact not_or.mp h1
 obtain⟨n1,n6⟩:=not_or.mp h1
 (apply br;(focus ((repeat' first|tb_rel|exact bj);done));(focus (exact h1';done));(focus (exact aS)))
 by_cases h2:b=nm "bytes"
 ·have e:cy b s=ot s:=by unfold cy;rw[if_neg n1,if_pos h2]
  (apply cm;(focus ((repeat' first|tb_rel|exact bj);done));(focus (exact beq_iff_eq.mpr h2;done));(focus (exact rfl)))
  rw[e]
  cases s with
  |none=>
   refine aD (jX (jk (v:= .bool (true||false)) (jV (Bl ?_ λq=>nomatch q)) rfl)) rfl
   (repeat' first|tb_rel|exact cX)
  |one a=>
   (refine aD ?_ rfl;apply a6;(focus ((repeat' first|tb_rel|exact cX|exact ii|exact vv);done)))
   rfl
  |two a c=>
   refine aD (jX (jk (v:= .bool (false||(false&&false))) (jV (Bl ?_ λq=>Ms (jV (mi ?_ λq=>nomatch q)))) rfl)) rfl
   ·(repeat' first|tb_rel|exact cX)
   ·(repeat' first|tb_rel|exact mw)
 (apply br;(focus ((repeat' first|tb_rel|exact bj);done));(focus (exact beq_eq_false_iff_ne.mpr h2;done));(focus (exact aS)))
 by_cases h3:b=nm "int" \/b=nm "uint"
 ·have h3':(b==nm "int" ||b==nm "uint")=true:=by rw[gZ,beq_iff_eq,beq_iff_eq];exact h3
  have e:cy b s=ka s:=by unfold cy;rw[if_neg n1,if_neg h2,if_pos h3]
  (apply cm;(focus ((repeat' first|tb_rel|exact bj);done));(focus (exact h3';done));(focus (exact rfl)))
  rw[e]
  cases s with
  |none=>
   refine aD (jX (jk (v:= .bool (false&&false)) (jV (mi ?_ λq=>nomatch q)) rfl)) rfl
   (repeat' first|tb_rel|exact mv)
  |one a=>
   (refine aD ?_ rfl;apply a6;(focus ((repeat' first|tb_rel|exact ii|exact vv|exact ll|exact vA);done)))
   rfl
  |two a c=>
   refine aD (jX (jk (v:= .bool (false&&false)) (jV (mi ?_ λq=>nomatch q)) rfl)) rfl
   (repeat' first|tb_rel|exact mw)
 have h3':(b==nm "int" ||b==nm "uint")=false:=by rw[kx,beq_eq_false_iff_ne,beq_eq_false_iff_ne];exact not_or.mp h3
 (apply br;(focus ((repeat' first|tb_rel|exact bj);done));(focus (exact h3';done));(focus (exact aS)))
 by_cases h4:b=nm "fixed" \/b=nm "ufixed"
 ·have h4':(b==nm "fixed" ||b==nm "ufixed")=true:=by rw[gZ,beq_iff_eq,beq_iff_eq];exact h4
  have e:cy b s=ik s:=by unfold cy;rw[if_neg n1,if_neg h2,if_neg h3,if_pos h4]
  (apply cm;(focus ((repeat' first|tb_rel|exact bj);done));(focus (exact h4';done));(focus (exact rfl)))
  rw[e]
  cases s with
  |none=>
   refine aD (jX (jk (v:= .bool (false&&false)) (jV (mi ?_ λq=>nomatch q)) rfl)) rfl
   (repeat' first|tb_rel|exact lh)
  |one a=>
   refine aD (jX (jk (v:= .bool (false&&false)) (jV (mi ?_ λq=>nomatch q)) rfl)) rfl
   (repeat' first|tb_rel|exact B4)
  |two a c=>
   (refine aD ?_ rfl;apply a6;(focus ((repeat' first|tb_rel|exact iP|exact n5|exact gy|exact vv|exact ll|exact vA);done)))
   congr 1
   simp[ik,Bool.and_assoc]
 have h4':(b==nm "fixed" ||b==nm "ufixed")=false:=by rw[kx,beq_eq_false_iff_ne,beq_eq_false_iff_ne];exact not_or.mp h4
 (apply br;(focus ((repeat' first|tb_rel|exact bj);done));(focus (exact h4';done));(focus (exact aS)))
 by_cases h5:b=nm "hash"
 ·have e:cy b s=vn s:=by unfold cy;rw[if_neg n1,if_neg h2,if_neg h3,if_neg h4,if_pos h5]
  (refine aD ?_ rfl;apply a6;(focus ((repeat' first|tb_rel|exact fK|exact Cv);done)))
  rw[e,h5]
  rw[show(nm "hash" !=ao (aa "hash"))=false by decide+kernel]
  cases s<;>rfl
 ·have e:cy b s=true:=by unfold cy;rw[if_neg n1,if_neg h2,if_neg h3,if_neg h4,if_neg h5,if_neg n6]
  (refine aD ?_ rfl;apply a6;(focus ((repeat' first|tb_rel|exact fK|exact Cv);done)))
  rw[e,show(b !=ao (aa "hash"))=true from bne_iff_ne.mpr h5];rfl
end
end
section
noncomputable def lm(x:List Nat):PV:=match de x with
 |some T=>aH T
 |none=> .str (if ci [40,41] x=true then nm "empty" else nm "text")
noncomputable def mB(x:List Nat):Res PV:=match de x with
 |some T=> .ok (aH T)
 |none=>if ci [40,41] x=true then .exc .value else .exc .parse
section
variable{C:Calls}
theorem Oy{x:List Nat}(hP:C.fn (aa "parse") [.str x]=mB x):aO C false (ag 27) [.str x]= .ok (lm x):=by
 refine du (names:=[aa "text"]) (by kernel_rfl) rfl ?_
 show aw _ _ [(aa "text", .str x)]=_
 (conv=>lhs;arg 2;whnf)
 unfold lm
 unfold mB at hP
 apply gj
 cases e:de x with
 |some T=>
  rw[e]at hP
  have hP:C.fn (aa "parse") [.str x]= .ok (aH T):=hP
  apply My
  (refine aD ?_ rfl;apply a6;(focus ((repeat' first|tb_rel|exact hP);done)))
  rfl
 |none=>
  rw[e]at hP
  by_cases h:ci [40,41] x=true
  ·have hP:C.fn (aa "parse") [.str x]= .exc .value:=by rw[hP];exact if_pos h
   refine qt (c:= .value) (ρ':=[(aa "text", .str x)]) ?_ ?_
   ·apply gj
    apply Bv
    (repeat' first|tb_rel|exact hP)
   ·skip
    rw[if_pos h]
    kernel_rfl
  ·have hP:C.fn (aa "parse") [.str x]= .exc .parse:=by rw[hP];exact if_neg h
   refine qt (c:= .parse) (ρ':=[(aa "text", .str x)]) ?_ ?_
   ·apply gj
    apply Bv
    (repeat' first|tb_rel|exact hP)
   ·skip
    rw[if_neg h]
    kernel_rfl
theorem Oz{x:List Nat}(hn:de x=none)(hR:C.fn (aa "_law_read") [.str x]= .ok .none) (hT:C.fn (aa "_law_told") [.str x]= .ok (lm x)):aO C false (ag 28) [.str x]= .ok (.bool true):=by
 have ht:lm x= .str (if ci [40,41] x=true then nm "empty" else nm "text"):=by unfold lm;rw[hn]
 rw[ht]at hT
 refine du (names:=[aa "text"]) (by kernel_rfl) rfl ?_
 show aw _ _ [(aa "text", .str x)]=_
 (conv=>lhs;arg 2;whnf)
 (apply aP;(focus (apply bg;kernel_rfl;(focus ((repeat' first|tb_rel|exact hR);done));lcg_sub)))
 (apply aP;(focus (apply bg;kernel_rfl;(focus ((repeat' first|tb_rel|exact hT);done));lcg_sub)))
 (apply cm;(focus ((repeat' first|tb_rel|exact cX|exact BM);done));(focus (rfl;done));(focus (exact rfl)))
 by_cases h:ci [40,41] x=true
 ·rw[if_pos h]
  (refine aD ?_ rfl;apply a6;(focus ((repeat' first|tb_rel|exact cX|exact bj|exact j3|(apply lb)|exact h);done)))
  rw[show(nm "empty" ==ao (aa "empty"))=true by decide+kernel];rfl
 ·rw[if_neg h]
  rw[mO]at h
  (refine aD ?_ rfl;apply a6;(focus ((repeat' first|tb_rel|exact cX|exact bj|exact j3|(apply lc)|exact h);done)))
  rw[show(nm "text" ==ao (aa "text"))=true by decide+kernel];rfl
end
end
section
noncomputable def il:Ty->Ty
 | .bas b s ds=> .bas b s (ds++[some [51]])
 | .tup cs ds=> .tup cs (ds++[some [51]])
noncomputable def oz:Ty->PV
 | .bas b s _=> .list [.str (nm "name"), .str b,cJ s]
 | .tup cs _=> .list [.str (nm "tuple"), .list (cs.map λT=> .str (sh T))]
theorem OA(T:Ty):ek (some (dv T))= .list [oz T, .list ((bt T).map aV)]:=by
 cases T with
 |bas b s ds=>rfl
 |tup cs ds=>exact vE cs ds
theorem CA{s w:List Nat}{c:Nat}(hc:c∈w):∀{ws:List (List Nat)},w∈ws->c∈aG s ws
 |[],h=>nomatch h
 |[x],h=>by rw[dw]at h;subst h;exact hc
 |x::y::r,h=>by
  rw[j8 (by simp)]
  rcases bS.mp h with rfl|h
  ·exact wJ _ (wJ _ hc)
  ·exact PT _ (CA hc h)
theorem OB{cs:List Ty}{ds:List aF}{U:Ty}{c:Nat}(hU:U∈cs)(hc:c∈sh U):c∈sh (.tup cs ds):=by
 rw[gU]
 exact wJ _ (wJ _ (PT _ (CA hc (lD hU))))
noncomputable def io:aF->List (List Nat)
 |none=>[]
 |some d=>[d]
theorem OC(d:aF):jp d=(io d).map λa=> .int (aM a):=by cases d<;>rfl
theorem OD(d:aF):[91]++aG [] (io d)++[93]=cg d:=by cases d<;>simp[io,aG,cg]
structure CB(C:Calls)(T:Ty):Prop where
 rd:C.fn (aa "_law_read") [.str (sh T)]= .ok (ek (some (dv T)))
 told:C.fn (aa "_law_told") [.str (sh T)]= .ok (aH T)
 str:C.meth (bD T) (aa "to_type_str") [aH T]= .ok (.str (sh T))
 arr:C.prop (bD T) (aa "is_array") (aH T)= .ok (.bool (!(bt T).isEmpty))
 dyn:C.prop (bD T) (aa "is_dynamic") (aH T)= .ok (.bool (cY T))
 lv:C.fn (aa "_law_varies") [ek (some (dv T))]= .ok (.bool (cY T))
 ps:C.fn (aa "parse") [.str (sh T)]= .ok (aH T)
 ps3:C.fn (aa "parse") [.str (sh T++nm "[3]")]= .ok (aH (il T))
 eq1:C.meth (bD T) (aa "__eq__") [aH T,aH T]= .ok (.bool true)
 eq3:C.meth (bD T) (aa "__eq__") [aH T,aH (il T)]= .ok (.bool false)
 val:C.meth (bD T) (aa "validate") [aH T]=if cz T=true then .ok .none else .exc .abi
 lval:C.fn (aa "_law_valid") [ek (some (dv T))]= .ok (.bool (cz T))
 item:C.prop (bD T) (aa "item_type") (aH T)=if bt T=[]then .exc .value else .ok (aH (fP T))
 istr:bt T≠[]->C.meth (bD (fP T)) (aa "to_type_str") [aH (fP T)]= .ok (.str (sh (fP T)))
 part:∀cs ds,T= .tup cs ds->∀U∈cs,C.meth (bD U) (aa "to_type_str") [aH U]= .ok (.str (sh U))
 wfD:(bt T).all dg=true
 len:(sh T).length<=80
 dlen:(bt T).length<=80/\ ∀d∈bt T,(cg d).length<=80
 clen:∀cs ds,T= .tup cs ds->cs.length<=80
 sign:∀c∈sh T,c<1114112
section
variable{C:Calls}
theorem OE{xs:List PV}(h:xs.length<=1000):da (aa "tuple") [.list xs]=some (.tuple xs):=by
 have:=dJ
 rw[Lm]
 exact if_pos (aL ‹_› (by rfl))
theorem CC{xs:List PV}:bn C .NotEq (.tuple xs) (.tuple [])= .ok (!xs.isEmpty):=rfl
theorem re{a b:Bool}:bn C .NotEq (.bool a) (.bool b)= .ok (a !=b):=rfl
theorem OF(d:aF):(aV d).flat 3=true:=by cases d<;>rfl
theorem OG{ds:List aF}:bn C .NotEq (bN ds) (bN ds)= .ok false:=by
 by_cases h0:ds=[]
 ·rw[li h0]
  show aE (if(true&&true)=true then some (!PV.none.same PV.none)else none)=_
  rfl
 ·rw[iQ h0]
  have hf:(PV.tuple (ds.map aV)).flat 4=true:=by
   show(ds.map aV).all (PV.flat 3)=true
   rw[ba]
   intro v hv
   refine ay (iw.mp hv) λd ø zq2=> ?_;subst zq2
   exact OF d
  have hs:=tG hf
  have:bn C .NotEq (PV.tuple (ds.map aV)) (PV.tuple (ds.map aV))=aE ((if(PV.flat 4 (.tuple (ds.map aV))&&PV.flat 4 (.tuple (ds.map aV)))=true then some ((PV.tuple (ds.map aV)).same (.tuple (ds.map aV)))else none).map (!·)):=by
   cases ds with
   |nil=>exact absurd rfl h0
   |cons a r=>rfl
  rw[this,hf,hs];rfl
theorem OH{ws:List (List Nat)}(h:∀w∈ws,∀c∈w,c<1114112):bn C .NotEq (.list (ws.map .str)) (.list (ws.map .str))= .ok false:=by
 cases ws with
 |nil=>rfl
 |cons w r=>
  have hf:(PV.list ((w::r).map .str)).flat 4=true:=by
   show((w::r).map PV.str).all (PV.flat 3)=true
   rw[ba]
   intro v hv
   refine ay (iw.mp hv) λd hd zq2=> ?_;subst zq2
   exact ba.mpr λc hc=>decide_eq_true (h d hd c hc)
  have hs:=tG hf
  have:bn C .NotEq (PV.list ((w::r).map .str)) (PV.list ((w::r).map .str))=aE ((if(PV.flat 4 (.list ((w::r).map .str))&&PV.flat 4 (.list ((w::r).map .str)))=true then some ((PV.list ((w::r).map .str)).same (.list ((w::r).map .str)))else none).map (!·)):=rfl
  rw[this,hf,hs];rfl
theorem OI{s:bh}:bn C .NotEq (cJ s) (cJ s)= .ok false:=by
 have hf:(cJ s).flat 4=true:=by cases s<;>rfl
 have hs:=tG hf
 have:bn C .NotEq (cJ s) (cJ s)=aE ((if((cJ s).flat 4&&(cJ s).flat 4)=true then some ((cJ s).same (cJ s))else none).map (!·)):=by cases s<;>rfl
 rw[this,hf,hs];rfl
theorem vH{T U:Ty}{b:Bool}(h:C.meth (bD T) (aa "__eq__") [aH T,aH U]= .ok (.bool b)):bn C .Eq (aH T) (aH U)= .ok b:=by
 show(C.meth (bD T) (aa "__eq__") [aH T,aH U]).bind _=_
 rw[h];rfl
theorem OJ{ds:List aF}{d:aF}(h:ds.getLast? =some d):fu (.tuple (ds.map aV)) (.int (-1))=some (aV d):=by
 show i3 (ds.map aV) (-1)=_
 unfold i3
 rw[if_neg (by omega),if_pos rfl,List.getLast?_map,h];rfl
theorem OK(T:Ty):(gz T).lookup (aa "arrlist")=some (bN (bt T)):=by cases T<;>exact mn
theorem OL(T:Ty):dO (aH T) (aa "str")=some false:=by cases T<;>kernel_rfl
theorem vI(T:Ty):((gz T).lookup (aa "to_type_str")).isNone=true:=by cases T<;>kernel_rfl
theorem CD(T:Ty):((gz T).lookup (aa "validate")).isNone=true:=by cases T<;>kernel_rfl
theorem OM{b:Bool}{ds:List aF}{n:Nat}{g:Bool}{sc:Scope}{ρ:ak}{t e o:ai}{p:ax}(ht:(pE C g n).tst sc t ρ= .ok b)(hb:b= !ds.isEmpty)(h1:(pE C g n).ev sc e ρ= .ok (.tuple (ds.map aV)))(h2:(pE C g n).ev sc o ρ= .ok .none):(pE C g (n+1)).ev sc (.IfExp t e o p) ρ= .ok (bN ds):=by
 by_cases h0:ds=[]
 ·rw[li h0]
  exact lc ht (by rw[hb,h0];rfl) h2
 ·rw[iQ h0]
  exact lb ht (by rw[hb];exact vC h0) h1
theorem ON{o:ai}{m:Str}{ap q:ax}{n:Nat}{g:Bool}{sc:Scope}{ρ:ak}{args:List ai}{c:XC}(hg:(fy o&&ap.endLine==q.line&&bv args&&decide (args.length<29))=true)(ho:(pE C g n).ev sc o ρ= .exc c):(pE C g (n+1)).ev sc (.Call (.Attribute o m ap) args [] q) ρ= .exc c:=by
 show(if(!(fy o&&ap.endLine==q.line&&bv args&&decide (args.length<29)))=true then Res.stuck else((pE C g n).ev sc o ρ).bind _)=_
 rw[if_neg (by rw[hg];decide),ho];rfl
end
end
section
section
variable{C:Calls}
theorem CE{T:Ty}{d:aF}(h:(bt T).getLast? =some d):sh (fP T)++cg d=sh T:=by
 have e:bt T=(bt T).dropLast++[d]:=by
  have hne:bt T≠[]:=by intro q;rw[q]at h;exact am h
  rw[List.getLast?_eq_some_getLast hne]at h
  obtain rfl:=aq h
  exact(PQ hne).symm
 cases T with
 |bas b s ds=>
  have e:ds=ds.dropLast++[d]:=e
  rw[show fP (.bas b s ds)= .bas b s ds.dropLast from rfl,ij,ij,bY,<-lk,<-e]
 |tup cs ds=>
  have e:ds=ds.dropLast++[d]:=e
  rw[show fP (.tup cs ds)= .tup cs ds.dropLast from rfl,gU,gU,bY,<-lk,<-e]
theorem CF{T:Ty}:(sh (fP T)).length<=(sh T).length:=by
 cases h:(bt T).getLast? with
 |some d=>rw[<-CE h,cC];lia
 |none=>
  have hd:bt T=[]:=PU.mp h
  cases T with
  |bas b s ds=>have hd:ds=[]:=hd;subst hd;exact bP _
  |tup cs ds=>have hd:ds=[]:=hd;subst hd;exact bP _
theorem OO{T:Ty}(H:CB C T):aO C false (ag 28) [.str (sh T)]= .ok (.bool true):=by
 have hrd:=H.rd
 have hlv:=H.lv
 have hlval:=H.lval
 rw[OA]at hrd hlv hlval
 have hdl:=H.dlen.1
 have hlen:=H.len
 have hcat:bJ .Add (.str (sh T)) (.str (nm "[3]"))=some (.str (sh T++nm "[3]")):=gR (by rw[show(nm "[3]").length=3 by decide+kernel];exact d9 ‹_› (by rfl))
 refine du (names:=[aa "text"]) (by kernel_rfl) rfl ?_
 show aw _ _ [(aa "text", .str (sh T))]=_
 (conv=>lhs;arg 2;whnf)
 (apply aP;(focus (apply bg;kernel_rfl;(focus ((repeat' first|tb_rel|exact hrd);done));lcg_sub)))
 (apply aP;(focus (apply bg;kernel_rfl;(focus ((repeat' first|tb_rel|exact H.told);done));lcg_sub)))
 (apply br;(focus ((repeat' first|tb_rel|exact cX|exact OL T);done));(focus (rfl;done));(focus (exact aS)))
 (apply aP;(focus (apply bg;kernel_rfl;(focus ((repeat' first|tb_rel|exact gQ|exact OE (by rw[cu];exact aL ‹_› (by rfl)));done));lcg_sub)))
 apply br (c:=(sh T !=sh T)||(((!(bt T).isEmpty) != !((bt T).map aV).isEmpty)||false))
 focus
  apply gh
  apply iJ
  ·(repeat' first|tb_rel|exact vI T|exact H.str|exact fK)
  ·intro ø
   apply iJ
   ·(repeat' first|tb_rel|exact H.arr|exact CC|exact re)
   ·intro ø
    apply Bq
    apply nU
    apply Mr
    ·kernel_rfl
    ·(repeat' first|tb_rel|exact OK T)
    ·refine OM (b:= !((bt T).map aV).isEmpty) ?_ (by rw[DQ]) ?_ ?_
     ·(repeat' first|tb_rel|exact CC)
     ·(repeat' first|tb_rel)
     ·(repeat' first|tb_rel)
    ·exact OG
 focus (rw[DQ];simp)
 focus exact aS
 (apply br;(focus ((repeat' first|tb_rel|exact H.dyn|exact hlv|exact re|exact hcat|exact H.ps|exact vH H.eq1|exact rfl|exact H.ps3|exact vH H.eq3);done));(focus (simp;done));(focus (exact aS)))
 have hval:=H.val
 apply aP (ρ':=[(aa "text", .str (sh T)),(aa "due", .list [oz T, .list ((bt T).map aV)]),(aa "told",aH T),(aa "dims", .tuple ((bt T).map aV)),(aa "valid", .bool (cz T))])
 focus
  cases hv:cz T with
  |true=>
   rw[hv]at hval
   have hval:C.meth (bD T) (aa "validate") [aH T]= .ok .none:=hval
   apply Bx
   apply aP
   ·apply Br
    (repeat' first|tb_rel|exact CD T|exact hval)
   ·(apply aP;(focus (apply bg;kernel_rfl;(focus ((repeat' first|tb_rel);done));lcg_sub)))
    exact aS
  |false=>
   rw[hv]at hval
   have hval:C.meth (bD T) (aa "validate") [aH T]= .exc .abi:=hval
   refine qt (c:= .abi) (ρ':=[(aa "text", .str (sh T)),(aa "due", .list [oz T, .list ((bt T).map aV)]),(aa "told",aH T),(aa "dims", .tuple ((bt T).map aV))]) ?_ ?_
   ·apply aD
    ·apply eh
     (repeat' first|tb_rel|exact CD T|exact hval)
    ·rfl
   ·kernel_rfl
 (apply br;(focus ((repeat' first|tb_rel|exact hlval|exact re);done));(focus (simp;done));(focus (exact aS)))
 apply aP (ρ':=[(aa "text", .str (sh T)),(aa "due", .list [oz T, .list ((bt T).map aV)]),(aa "told",aH T),(aa "dims", .tuple ((bt T).map aV)),(aa "valid", .bool (cz T))])
 focus
  cases T with
  |tup cs ds=>
   have hcl:=H.clen cs ds rfl
   have htx:bn C .NotEq (.list (cs.map λT=> .str (sh T))) (.list (cs.map λT=> .str (sh T)))= .ok false:=by
    have:=OH (C:=C) (ws:=cs.map sh) (λw hw c hc=>by
     refine ay (iw.mp hw) λU hU zq2=> ?_;subst zq2
     exact H.sign c (OB hU hc))
    rw[o4]at this;exact this
   have htc:∀{v},(gz (.tup cs ds)).lookup (aa "components")=some v↔v=PV.tuple (cs.map aH):=by
    intro v
    rw[show(gz (.tup cs ds)).lookup (aa "components")=some (PV.tuple (ie cs))from qu (by kernel_rfl) mn,u9]
    constructor
    ·intro h;obtain rfl:=aq h;rfl
    ·intro h;rw[h]
   apply k8
   focus (repeat' first|tb_rel|exact gi|exact bj)
   focus exact vF
   apply gj
   apply jW
   focus (repeat' first|tb_rel|(show dO (aH (.tup cs ds)) (aa "TupleType")=some true;kernel_rfl)|(apply jj;kernel_rfl)|exact htc.mpr rfl|exact ig (by rw[cu];exact aL ‹_› (by rfl))|(refine gO aH cs (λT=> .str (sh T)) (by kernel_rfl) ?_)|exact vI _|(exact(H.part cs ds rfl) _ (by assumption))|exact gi|exact gQ|exact htx)
   focus rfl
   exact aS
  |bas b s ds=>
   have hb1:(gz (.bas b s ds)).lookup (aa "base")=some (.str b):=qu (by kernel_rfl) mn
   have hb2:(gz (.bas b s ds)).lookup (aa "sub")=some (cJ s):=qu (by kernel_rfl) (qu (by kernel_rfl) mn)
   apply jW
   focus (repeat' first|tb_rel|exact gi|exact bj)
   focus exact vG
   apply gj
   apply jW
   focus (repeat' first|tb_rel|(show dO (aH (.bas b s ds)) (aa "BasicType")=some true;kernel_rfl)|exact hb1|exact hb2|exact gi|exact gQ|exact uW|exact fK|exact OI)
   focus simp
   exact aS
 cases hl:(bt T).getLast? with
 |none=>
  have hd:bt T=[]:=PU.mp hl
  have hitem:=H.item
  rw[if_pos hd]at hitem
  rw[hd]
  refine aD (qt (c:= .value) (ρ':=[(aa "text", .str (sh T)),(aa "due", .list [oz T, .list []]),(aa "told",aH T),(aa "dims", .tuple []),(aa "valid", .bool (cz T))]) ?_ (o:= .ret (.bool true)) ?_) rfl
  ·apply gj
   apply Mv
   ·kernel_rfl
   ·apply ON
    ·kernel_rfl
    ·(repeat' first|tb_rel|exact hitem)
  ·kernel_rfl
 |some d=>
  have hne:bt T≠[]:=by intro q;rw[q]at hl;exact am hl
  have hitem:=H.item
  rw[if_neg hne]at hitem
  have hw:dg d=true:=ba.mp H.wfD d (DH hl)
  have hdd:=H.dlen.2 d (DH hl)
  have hdl2:=CF (T:=T)
  have htxt:=CE hl
  rw[<-OD d]at htxt hdd
  rw[cC,cC]at hdd
  have hdts:∀a∈io d,aR a=true/\ a.length<=90:=by
   cases d with
   |none=>exact λa ha=>nomatch ha
   |some a=>
    intro a' ha
    have ha:a'∈[a]:=ha
    rw[dw]at ha;subst ha
    exact⟨hw,by simp[io,aG]at hdd;exact si ‹_› (by rfl)⟩
  have hi:bQ (aV d)=some ((io d).map λa=> .int (aM a)):=by
   rw[u6,OC];exact ig (by cases d<;>simp[io])
  have hj:cn (aa "join") [] [.list ((io d).map .str)]=some (.str (aG [] (io d))):=qL (by simp at hdd ⊢;exact si ‹_› (by rfl))
  have hja:∀x y:List Nat,x.length+y.length<=1000->bJ .Add (.str x) (.str y)=some (.str (x++y)):=λx y h=>gR h
  apply aP
  focus
   apply Bx
   apply aP
   focus
    apply bg
    focus kernel_rfl
    focus (repeat' first|tb_rel|exact hitem|exact vI _|exact H.istr hne)
    focus lcg_sub
   exact aS
  apply br
  focus (repeat' first|tb_rel|exact BJ)
  focus (rw[DQ];exact v6.mpr λq=>hne (gY.mp q))
  focus exact aS
  (refine aD ?_ rfl;apply a6;(focus ((repeat' first|tb_rel|exact OJ hl|(apply jj;kernel_rfl)|exact hi|(refine gO (λa=> .int (aM a)) (io d) .str (by kernel_rfl) ?_)|(exact u7 (hdts _ (by assumption)).1 (hdts _ (by assumption)).2)|exact hj|(exact gR (by simp at hdd ⊢;lia))|exact bj);done)))
  rw[show sh (fP T)++[91]++aG [] (io d)++[93]=sh T by rw[<-htxt];simp,beq_self_eq_true]
end
end
section
theorem gV(j:Nat):bi (j+1)=⟨ia,jg (bi j),jT (bi j),lZ⟩:=by rw[bi]
theorem CG{c:aY}{j:Nat}{args:List PV}:(bi (j+1)).meth c (aa "to_type_str") args=(match c with| .tup=>aO (bi j) true (an (ag 13) 1) args| .bas=>aO (bi j) true (an (ag 14) 1) args):=by
 rw[gV]
 dsimp only
 unfold jg
 rw[if_pos rfl]
 all_goals (cases c<;>rfl)
theorem CH{c:aY}{j:Nat}{args:List PV}:(bi (j+1)).meth c (aa "validate") args=(match c with| .tup=>aO (bi j) false (an (ag 13) 3) args| .bas=>aO (bi j) false (an (ag 14) 4) args):=by
 rw[gV]
 dsimp only
 unfold jg
 rw[if_neg (by decide+kernel),if_pos rfl]
 all_goals (cases c<;>rfl)
theorem OP{c:aY}{j:Nat}{args:List PV}:(bi (j+1)).meth c (aa "invalidate") args=aO (bi j) false (an (ag 12) 5) args:=by
 rw[gV]
 dsimp only
 unfold jg
 rw[if_neg (by decide+kernel),if_neg (by decide+kernel),if_pos rfl]
theorem OQ{c:aY}{j:Nat}{args:List PV}:(bi (j+1)).meth c (aa "__eq__") args=jf (bi j) args:=by
 rw[gV]
 dsimp only
 unfold jg
 rw[if_neg (by decide+kernel),if_neg (by decide+kernel),if_neg (by decide+kernel),if_pos rfl]
theorem OR{c:aY}{j:Nat}{v:PV}:(bi (j+1)).prop c (aa "is_array") v=aO (bi j) false (an (ag 12) 6) [v]:=by
 rw[gV]
 dsimp only
 unfold jT
 rw[if_pos rfl]
theorem OS{c:aY}{j:Nat}{v:PV}:(bi (j+1)).prop c (aa "_has_dynamic_arrlist") v=aO (bi j) true (an (ag 12) 8) [v]:=by
 rw[gV]
 dsimp only
 unfold jT
 rw[if_neg (by decide+kernel),if_pos rfl]
theorem CI{c:aY}{j:Nat}{v:PV}:(bi (j+1)).prop c (aa "item_type") v=(match c with| .tup=>aO (bi j) false (an (ag 13) 2) [v]| .bas=>aO (bi j) false (an (ag 14) 2) [v]):=by
 rw[gV]
 dsimp only
 unfold jT
 rw[if_neg (by decide+kernel),if_neg (by decide+kernel),if_pos rfl]
 all_goals (cases c<;>rfl)
theorem CJ{c:aY}{j:Nat}{v:PV}:(bi (j+1)).prop c (aa "is_dynamic") v=(match c with| .tup=>aO (bi j) true (an (ag 13) 4) [v]| .bas=>aO (bi j) false (an (ag 14) 3) [v]):=by
 rw[gV]
 dsimp only
 unfold jT
 rw[if_neg (by decide+kernel),if_neg (by decide+kernel),if_neg (by decide+kernel),if_pos rfl]
 all_goals (cases c<;>rfl)
structure cZ(T:Ty)(L:Nat):Prop where
 wf:wf T=true
 len:(sh T).length<=L
theorem cZ.mono{T:Ty}{L M:Nat}(h:cZ T L)(hl:L<=M):cZ T M:=⟨h.wf,aj h.len hl⟩
theorem cZ.part{cs:List Ty}{ds:List aF}{L:Nat}(h:cZ (.tup cs ds) L):2<=L/\ ∀T∈cs,cZ T (L-2):=by
 have hl:=h.len
 have hw:=h.wf
 rw[gT,aI,aI]at hw
 have h2:=vf (cs:=cs) (ds:=ds)
 refine bM (j' (cs:=cs) (ds:=ds)) λp1 ø ø=> ?_
 exact⟨by lia,λT hT=>⟨ba.mp hw.1.2 T hT,by have:=p1 T hT;lia⟩⟩
theorem cZ.bas{b:List Nat}{s:bh}{ds:List aF}{L:Nat}(h:cZ (.bas b s ds) L):1<=L/\ b.all aK=true/\ d6 s=true/\ ds.all dg=true/\ (bO s).length<=L:=by
 have hl:=h.len
 have hw:=h.wf
 rw[gS,aI,aI,aI]at hw
 obtain⟨zn1,w4⟩:=hw
 obtain⟨zn2,w3⟩:=zn1
 obtain⟨w1,w2⟩:=zn2
 refine xA (qV (b:=b) (s:=s) (ds:=ds)) λe ø=> ?_
 have:1<=b.length:=by cases b with|nil=>cases w1|cons a r=>simp
 exact⟨by lia,w2,w3,w4,by lia⟩
theorem cZ.dims{T:Ty}{L:Nat}(h:cZ T L):(bt T).all dg=true/\ 2*(bt T).length<=L/\ ∀d∈bt T,(cg d).length<=L:=by
 have hl:=h.len
 have hw:=h.wf
 cases T with
 |bas b s ds=>
  rw[gS,aI]at hw
  refine xA (qV (b:=b) (s:=s) (ds:=ds)) λe ø=> ?_
  refine xA (lg ds) λh3 h4=> ?_
  exact⟨hw.2,show 2*ds.length<=L by lia,λd hd=>by have:=h4 d hd;lia⟩
 |tup cs ds=>
  rw[gT,aI]at hw
  have h2:=vf (cs:=cs) (ds:=ds)
  refine xA (lg ds) λh3 h4=> ?_
  exact⟨hw.2,show 2*ds.length<=L by lia,λd hd=>by have:=h4 d hd;lia⟩
theorem lp:∀(j:Nat) (T:Ty) (L:Nat),cZ T L->L<=90->L<2*j->(bi j).meth (bD T) (aa "to_type_str") [aH T]= .ok (.str (sh T))
 |0,T,L,_,_,h=>by omega
 |j+1, .bas b s ds,L,hF,hL,h=>by
  refine ky hF.bas λø h1 h2 h3 ø=> ?_
  rw[CG]
  exact Nm h2 h3 (aj hF.len hL)
 |j+1, .tup cs ds,L,hF,hL,h=>by
  refine xA hF.part λh2 hp=> ?_
  rw[CG]
  have:=Nj (C:=bi j) (cs:=cs) (ds:=ds) (λT hT=>lp j T (L-2) (hp T hT) (aj (cM _ _) ‹_›) (sk ‹_› ‹_›)) hF.dims.1 (aj hF.len hL)
  rw[u8]at this
  exact this
theorem vJ{j:Nat}{T:Ty}(hj:1<=j):(bi j).prop (bD T) (aa "is_array") (aH T)= .ok (.bool (!(bt T).isEmpty)):=by
 cases j with
 |zero=>lia
 |succ j=>rw[OR];exact Nn T
theorem CK{j:Nat}{T:Ty}(hj:2<=j)(hl:(bt T).length<=90):(bi j).prop (bD T) (aa "_has_dynamic_arrlist") (aH T)= .ok (.bool (eJ (bt T))):=by
 cases j with
 |zero=>lia
 |succ j=>rw[OS];exact Nq T hl (vJ (by lia))
theorem CL:∀(j:Nat) (T:Ty) (L:Nat),cZ T L->L<=90->L+4<2*j->(bi j).prop (bD T) (aa "is_dynamic") (aH T)= .ok (.bool (cY T))
 |0,T,L,_,_,h=>by lia
 |j+1, .bas b s ds,L,hF,hL,h=>by
  rw[CJ]
  exact Oh (CK (T:= .bas b s ds) (by lia) (by have:=hF.dims.2.1;lia))
 |j+1, .tup cs ds,L,hF,hL,h=>by
  refine xA hF.part λh2 hp=> ?_
  refine bM (j' (cs:=cs) (ds:=ds)) λø p2 ø=> ?_
  have hH:=CK (j:=j) (T:= .tup cs ds) (by lia) (by have:=hF.dims.2.1;lia)
  rw[CJ,mA]
  rw[mA]at hH
  exact Oi (by have:=hF.len;lia) hH λT hT=>CL j T (L-2) (hp T hT) (aj (cM _ _) ‹_›) (by lia)
theorem CM:∀(j:Nat) (T:Ty) (L:Nat),cZ T L->L<=90->L+4<2*j->(bi j).meth (bD T) (aa "validate") [aH T]=if cz T=true then .ok .none else .exc .abi
 |0,T,L,_,_,h=>by lia
 |j+1, .bas b s ds,L,hF,hL,h=>by
  refine ky hF.bas λø h1 h2 h3 h4=> ?_
  rw[CH]
  refine Oe h1 h2 (aj ‹_› ‹_›) (λfs m=> ?_)
  cases j with
  |zero=>lia
  |succ j=>rw[OP];exact N9 fs m
 |j+1, .tup cs ds,L,hF,hL,h=>by
  refine xA hF.part λh2 hp=> ?_
  refine bM (j' (cs:=cs) (ds:=ds)) λø p2 ø=> ?_
  have hw:=hF.wf
  rw[gT,aI,aI]at hw
  rw[CH,mA]
  exact Oj (by rintro rfl;cases hw.1.1) (by have:=hF.len;lia) λT hT=>CM j T (L-2) (hp T hT) (aj (cM _ _) ‹_›) (by lia)
theorem OT{j:Nat}(hj:1<=j)(x y z:PV):(bi j).fn (aa "BasicType") [x,y,z]= .ok (.inst .bas [(aa "arrlist",z),(aa "base",x),(aa "sub",y)]):=by
 cases j with
 |zero=>omega
 |succ j=>rw[gV];kernel_rfl
theorem OU{j:Nat}(hj:1<=j)(x z:PV):(bi j).fn (aa "TupleType") [x,z]= .ok (.inst .tup [(aa "arrlist",z),(aa "components",x)]):=by
 cases j with
 |zero=>omega
 |succ j=>rw[gV];kernel_rfl
theorem OV{j:Nat}{T:Ty}{L:Nat}(hF:cZ T L)(hL:L<=90)(h:L+4<2*j):(bi j).prop (bD T) (aa "item_type") (aH T)=if bt T=[]then .exc .value else .ok (aH (fP T)):=by
 cases j with
 |zero=>lia
 |succ j=>
  have hs:=lp j T L hF hL (by lia)
  have ha:=vJ (j:=j) (T:=T) (by lia)
  have hl:=hF.len
  have hd:=hF.dims.2.1
  cases T with
  |bas b s ds=>
   rw[CI]
   exact Ol (show ds.length<=90 by have:2*ds.length<=L:=hd;lia) (bX ‹_› ‹_› (by rfl)) ha hs (OT (by lia))
  |tup cs ds=>
   rw[mA]at hs ha
   rw[CI,mA,show fP (.tup cs ds)= .tup cs ds.dropLast from rfl,mA]
   exact Om (show ds.length<=90 by have:2*ds.length<=L:=hd;lia) (bX ‹_› ‹_› (by rfl)) ha hs (OU (by lia))
theorem OW{T U:Ty}(hT:wf T=true)(hU:wf U=true)(h:bD T≠bD U):sh T≠sh U:=by
 have key:∀(b:List Nat) (s:bh) (ds:List aF) (cs:List Ty) (es:List aF),wf (.bas b s ds)=true->sh (.bas b s ds)≠sh (.tup cs es):=by
  intro b s ds cs es hw q
  rw[gS,aI,aI,aI]at hw
  rw[ij,gU]at q
  cases b with
  |nil=>cases hw.1.1.1
  |cons c r=>
   have q:c::(r++bO s++a9 ds)=40::(aG [44] (cs.map sh)++[41]++a9 es):=by simpa using q
   exact(ve (ba.mp hw.1.1.2 c (.head _))).2.2.1 (List.cons.inj q).1
 cases T with
 |bas b s ds=>
  cases U with
  |bas=>exact absurd rfl h
  |tup cs es=>exact key _ _ _ _ _ hT
 |tup cs es=>
  cases U with
  |bas b s ds=>exact(key _ _ _ _ _ hU).symm
  |tup=>exact absurd rfl h
theorem mD{j:Nat}{T U:Ty}{L:Nat}(hT:cZ T L)(hU:cZ U L)(hL:L<=90)(h:L+4<2*j):(bi j).meth (bD T) (aa "__eq__") [aH T,aH U]= .ok (.bool (sh T==sh U)):=by
 cases j with
 |zero=>lia
 |succ j=>
  rw[OQ]
  exact Oo (lp j T L hT hL (by lia)) (lp j U L hU hL (by lia)) (OW hT.wf hU.wf)
end
section
noncomputable abbrev FC(k:Nat):Calls:=fE 40 k
theorem mE(J k:Nat):fE J (k+1)=⟨jh (fE J k),(bi J).meth,(bi J).prop,(bi J).glob⟩:=by rw[fE]
theorem rf(J:Nat):fE J 0=bi J:=by rw[fE]
theorem lq(k:Nat):(FC k).meth=(bi 40).meth:=by
 cases k with
 |zero=>rw[show FC 0=bi 40 from rf 40]
 |succ k=>rw[show FC (k+1)=_ from mE 40 k]
theorem vK(k:Nat):(FC k).prop=(bi 40).prop:=by
 cases k with
 |zero=>rw[show FC 0=bi 40 from rf 40]
 |succ k=>rw[show FC (k+1)=_ from mE 40 k]
theorem CN(k:Nat):(FC k).glob=lZ:=by
 have:(bi 40).glob=lZ:=by rw[gV 39]
 cases k with
 |zero=>rw[show FC 0=bi 40 from rf 40,this]
 |succ k=>rw[show FC (k+1)=_ from mE 40 k,this]
theorem fh{k:Nat}{f:Str}{st:aC}{args:List PV}(hk:1<=k)(h:qd.lookup f=some st):(FC k).fn f args=aO (FC (k-1)) false st args:=by
 cases k with
 |zero=>lia
 |succ k=>
  rw[show FC (k+1)=_ from mE 40 k]
  show jh (fE 40 k) f args=_
  unfold jh
  rw[h];rfl
theorem CO{k:Nat}{f:Str}{args:List PV}(h:qd.lookup f=none)(h2:f≠aa "_law_parts"):(FC k).fn f args=ia f args:=by
 cases k with
 |zero=>rw[show FC 0=bi 40 from rf 40,gV 39]
 |succ k=>
  rw[show FC (k+1)=_ from mE 40 k]
  show jh (fE 40 k) f args=_
  unfold jh
  rw[h]
  exact if_neg h2
theorem OX{k:Nat}(x y z:PV):(FC k).fn (aa "BasicType") [x,y,z]= .ok (.inst .bas [(aa "arrlist",z),(aa "base",x),(aa "sub",y)]):=by
 rw[CO (by kernel_rfl) (by decide+kernel)];kernel_rfl
theorem OY{k:Nat}(x z:PV):(FC k).fn (aa "TupleType") [x,z]= .ok (.inst .tup [(aa "arrlist",z),(aa "components",x)]):=by
 rw[CO (by kernel_rfl) (by decide+kernel)];kernel_rfl
theorem OZ{k:Nat}(hk:1<=k){s:List Nat}(hs:s.length<=90):(FC k).fn (aa "_law_parts") [.str s]= .ok (.list ((cE s).map .str)):=by
 cases k with
 |zero=>lia
 |succ k=>
  rw[show FC (k+1)=_ from mE 40 k]
  show jh (fE 40 k) (aa "_law_parts") [.str s]=_
  unfold jh
  rw[show qd.lookup (aa "_law_parts")=none by kernel_rfl]
  show(if aa "_law_parts" =aa "_law_parts" then(if s.length<=aX then Res.ok (PV.list ((cE s).map .str))else .stuck)else _)=_
  have:=dJ
  rw[if_pos rfl,if_pos (aL ‹_› (by rfl))]
section
variable{x:List Nat}{k p:Nat}
theorem CP(hk:1<=k)(hx:x.length<=90)(hp:p<=x.length):(FC k).fn (aa "_parse_digits") [.str x, .int (p:Int)]= .ok (dL x (x.drop p)):=by
 rw[fh hk (st:=ag 6) (by kernel_rfl)]
 exact MI (by rw[CN];kernel_rfl) hx hp
theorem CQ(hk:2<=k)(hx:x.length<=90)(hp:p<=x.length):(FC k).fn (aa "_parse_arrlist") [.str x, .int (p:Int)]= .ok (.tuple [bN (arr 100 (x.drop p)).1,dK x (arr 100 (x.drop p)).2]):=by
 rw[fh (aj (bV _ _) ‹_›) (st:=ag 7) (by kernel_rfl)]
 exact MN (λq hq=>CP (fq ‹_› (by rfl)) hx hq) hx hp
theorem O0(hk:2<=k)(hx:x.length<=90)(hp:p<=x.length):(FC k).fn (aa "_parse_sub") [.str x, .int (p:Int)]= .ok (.tuple [cJ (b0 (x.drop p)).1,dK x (b0 (x.drop p)).2]):=by
 rw[fh (aj (bV _ _) ‹_›) (st:=ag 8) (by kernel_rfl)]
 exact MK (λq hq=>CP (fq ‹_› (by rfl)) hx hq) hx hp
theorem CR:∀(n k p:Nat),(x.drop p).length<n->2*n+1<=k->x.length<=90->p<=x.length->(FC k).fn (aa "_parse_type") [.str x, .int (p:Int)]= .ok (iN x (d4 n (x.drop p)))
 |0,k,p,h,_,_,_=>by lia
 |n+1,k,p,h,hk,hx,hp=>by
  rw[fh (aj (bV _ _) ‹_›) (st:=ag 10) (by kernel_rfl)]
  refine MQ n (λh40=> ?_) (λq hq=>CQ (fq ‹_› (by rfl)) hx hq) (λq hq=>O0 (fq ‹_› (by rfl)) hx hq) OX (by rw[CN];kernel_rfl) hx hp
  rw[fh (fq ‹_› (by rfl)) (st:=ag 9) (by kernel_rfl)]
  have hpl:1<=(x.drop p).length:=by
   cases e:x.drop p with
   |nil=>rw[e]at h40;exact sC h40
   |cons a r=>simp
  rw[eu]at h hpl
  exact MP (f:=d4 n) (uO n) (λq h1 h2=>CR n _ q (by rw[eu];exact o9 ‹_› ‹_› ‹_›) (by lia) hx h2) (λq hq=>CQ (by lia) hx hq) OY hx hp h40
theorem rg(hk:130<=k)(hx:x.length<=63):(FC k).fn (aa "parse") [.str x]=mB x:=by
 rw[fh (aj (bV _ _) ‹_›) (st:=ag 11) (by kernel_rfl)]
 have hT:=CR (x:=x) 64 (k-1) 0 (by rw[gD];exact er ‹_›) (fq ‹_› (by rfl)) (aL ‹_› (by rfl)) (dR _)
 rw[gD]at hT
 rw[MS hT (aL ‹_› (by rfl))]
 unfold mB
 cases de x with
 |some T=>show Res.ok (d0 T)=_;rw[u8]
 |none=>rfl
theorem CS(hk:1<=k){s:List Nat}(hs:s.length<=90):(FC k).fn (aa "_law_number") [.str s]= .ok (cK s):=by
 rw[fh hk (st:=ag 21) (by kernel_rfl)]
 exact M0 hs
theorem O1(hk:2<=k){s:List Nat}(hs:s.length<=90):(FC k).fn (aa "_law_name") [.str s]= .ok (uT (fe s)):=by
 rw[fh (by lia) (st:=ag 23) (by kernel_rfl)]
 exact M8 (λs hs=>CS (by lia) hs) hs
theorem CT:∀(n k:Nat) (t:List Nat),t.length<2*n->n+2<=k->t.length<=90->(FC k).fn (aa "_law_read") [.str t]= .ok (ek (rd n t))
 |0,k,t,h,_,_=>by lia
 |n+1,k,t,h,hk,ht=>by
  rw[fh (aj (bV _ _) ‹_›) (st:=ag 24) (by kernel_rfl)]
  exact Nd n (λs hs=>CS (fq ‹_› (by rfl)) hs) (λs hs=>O1 (fq ‹_› (by rfl)) hs) (λs hs=>OZ (fq ‹_› (by rfl)) hs) (λs hs=>CT n _ s (sm ‹_› ‹_›) (sj ‹_›) (eY ‹_› ‹_› (by rfl))) ht
theorem rh(hk:66<=k)(hx:x.length<=90):(FC k).fn (aa "_law_read") [.str x]= .ok (ek ((de x).map dv)):=by
 rw[CT 64 k x (fo ‹_› (by rfl)) hk hx,NV hx]
theorem vL(hk:66<=k){T:Ty}(hF:cZ T 90):(FC k).fn (aa "_law_read") [.str (sh T)]= .ok (ek (some (dv T))):=by
 rw[rh hk hF.len,qW hF.wf (by have:=hF.len;exact aL ‹_› (by rfl))];rfl
theorem CU:∀(n k:Nat) (T:Ty) (L:Nat),cZ T L->L<=90->L<2*n->n+66<=k->(FC k).fn (aa "_law_varies") [ek (some (dv T))]= .ok (.bool (cY T))
 |0,k,T,L,_,_,h,_=>by lia
 |n+1,k, .bas b s ds,L,hF,hL,h,hk=>by
  rw[fh (aj (bV _ _) ‹_›) (st:=ag 25) (by kernel_rfl),Cz]
  exact Ou
 |n+1,k, .tup cs ds,L,hF,hL,h,hk=>by
  refine xA hF.part λh2 hp=> ?_
  refine bM (j' (cs:=cs) (ds:=ds)) λø p2 ø=> ?_
  rw[fh (aj (bV _ _) ‹_›) (st:=ag 25) (by kernel_rfl),vE]
  exact Ov (by have:=hF.len;lia) (λT hT=>vL (fq ‹_› (by rfl)) ((hp T hT).mono (aj (cM _ _) ‹_›))) (λT hT=>CU n _ T (L-2) (hp T hT) (aj (cM _ _) ‹_›) (sk ‹_› ‹_›) (sj ‹_›))
theorem CV:∀(n k:Nat) (T:Ty) (L:Nat),cZ T L->L<=90->L<2*n->n+66<=k->(FC k).fn (aa "_law_valid") [ek (some (dv T))]= .ok (.bool (cz T))
 |0,k,T,L,_,_,h,_=>by omega
 |n+1,k, .bas b s ds,L,hF,hL,h,hk=>by
  rw[fh (aj (bV _ _) ‹_›) (st:=ag 26) (by kernel_rfl),Cz,Ox hF.bas.2.2.1];rfl
 |n+1,k, .tup cs ds,L,hF,hL,h,hk=>by
  refine xA hF.part λh2 hp=> ?_
  refine bM (j' (cs:=cs) (ds:=ds)) λø p2 ø=> ?_
  rw[fh (aj (bV _ _) ‹_›) (st:=ag 26) (by kernel_rfl),vE]
  exact Ow (by have:=hF.len;omega) (λT hT=>vL (fq ‹_› (by rfl)) ((hp T hT).mono (aj (cM _ _) ‹_›))) (λT hT=>CV n _ T (L-2) (hp T hT) (aj (cM _ _) ‹_›) (sk ‹_› ‹_›) (sj ‹_›))
theorem CW(hk:131<=k)(hx:x.length<=63):(FC k).fn (aa "_law_told") [.str x]= .ok (lm x):=by
 rw[fh (aj (bV _ _) ‹_›) (st:=ag 27) (by kernel_rfl)]
 exact Oy (rg (fq ‹_› (by rfl)) hx)
theorem vM(T:Ty):sh (il T)=sh T++nm "[3]" :=by
 have e:nm "[3]" =cg (some [51]):=by decide+kernel
 rw[e]
 cases T with
 |bas b s ds=>rw[show il (.bas b s ds)= .bas b s (ds++[some [51]])from rfl,ij,ij,lk];simp
 |tup cs ds=>rw[show il (.tup cs ds)= .tup cs (ds++[some [51]])from rfl,gU,gU,lk];simp
theorem O2{T:Ty}(h:wf T=true):wf (il T)=true:=by
 have e:dg (some [51])=true:=by decide+kernel
 cases T with
 |bas b s ds=>
  rw[gS,aI]at h
  rw[show il (.bas b s ds)= .bas b s (ds++[some [51]])from rfl,gS,rW,h.1,h.2];simp[e]
 |tup cs ds=>
  rw[gT,aI]at h
  rw[show il (.tup cs ds)= .tup cs (ds++[some [51]])from rfl,gT,rW,h.1,h.2];simp[e]
theorem O3{T:Ty}{L:Nat}(h:cZ T L):cZ (fP T) L:=by
 refine⟨?_,aj CF h.len⟩
 have hw:=h.wf
 have hd:∀ds:List aF,ds.all dg=true->ds.dropLast.all dg=true:=λds h=>ba.mpr λd hd=>ba.mp h d (PH _ hd)
 cases T with
 |bas b s ds=>
  rw[gS,aI]at hw
  rw[show fP (.bas b s ds)= .bas b s ds.dropLast from rfl,gS,hw.1,hd _ hw.2];rfl
 |tup cs ds=>
  rw[gT,aI]at hw
  rw[show fP (.tup cs ds)= .tup cs ds.dropLast from rfl,gT,hw.1,hd _ hw.2];rfl
theorem Ro(T:Ty):bD (il T)=bD T:=by cases T<;>rfl
theorem CX{T:Ty}(hk:130<=k)(hF:cZ T 63):(FC k).fn (aa "parse") [.str (sh T)]= .ok (aH T):=by
 rw[rg hk hF.len]
 unfold mB
 rw[qW hF.wf (by have:=hF.len;exact aL ‹_› (by rfl))]
theorem O4{T:Ty}(hk:132<=k)(hF:cZ T 60)(hs:∀c∈sh T,c<1114112):CB (FC k) T:=by
 have hl:=hF.len
 have hA:cZ (il T) 63:=⟨O2 hF.wf,by rw[vM,cC,show(nm "[3]").length=3 by decide+kernel];exact d9 ‹_› (by rfl)⟩
 have hF3:cZ T 63:=hF.mono (by decide)
 refine bM hF.dims λd1 d2 d3=> ?_
 have hne:(sh T==sh (il T))=false:=by
  rw[beq_eq_false_iff_ne,vM]
  intro q
  have:=congrArg vY q
  rw[cC,show(nm "[3]").length=3 by decide+kernel]at this
  lia
 constructor
 ·exact vL (aj (bV _ _) ‹_›) (hF.mono (by decide))
 ·rw[CW (aj (bV _ _) ‹_›) (aL ‹_› (by rfl))]
  unfold lm
  rw[qW hF.wf (aL ‹_› (by rfl))]
 ·rw[lq];exact lp 40 T 60 hF (by decide) (by decide)
 ·rw[vK];exact vJ (by decide)
 ·rw[vK];exact CL 40 T 60 hF (by decide) (by decide)
 ·exact CU 32 k T 60 hF (by decide) (by decide) (aj (bV _ _) ‹_›)
 ·exact CX (aj (bV _ _) ‹_›) hF3
 ·rw[<-vM];exact CX (aj (bV _ _) ‹_›) hA
 ·rw[lq,mD hF hF (by decide) (by decide),beq_self_eq_true]
 ·rw[lq,mD hF3 hA (by decide) (by decide),hne]
 ·rw[lq];exact CM 40 T 60 hF (by decide) (by decide)
 ·exact CV 32 k T 60 hF (by decide) (by decide) (aj (bV _ _) ‹_›)
 ·rw[vK];exact OV hF (by decide) (by decide)
 ·intro ø;rw[lq];exact lp 40 (fP T) 60 (O3 hF) (by decide) (by decide)
 ·intro cs ds e U hU
  subst e
  rw[lq];exact lp 40 U 58 (hF.part.2 U hU) (by decide) (by decide)
 ·exact d1
 ·exact aL ‹_› (by rfl)
 ·exact⟨by lia,λd hd=>by have:=d3 d hd;exact aL ‹_› (by rfl)⟩
 ·intro cs ds e
  subst e
  refine bM (j' (cs:=cs) (ds:=ds)) λø p2 ø=> ?_
  exact bX ‹_› ‹_› (by rfl)
 ·exact hs
theorem CY(hk:133<=k)(hx:x.length<=60)(hs:∀c∈x,c<1114112):(FC k).fn (aa "_law_agrees") [.str x]= .ok (.bool true):=by
 rw[fh (aj (bV _ _) ‹_›) (st:=ag 28) (by kernel_rfl)]
 cases e:de x with
 |none=>
  refine Oz e ?_ (CW (fq ‹_› (by rfl)) (aL ‹_› (by rfl)))
  rw[rh (fq ‹_› (by rfl)) (aL ‹_› (by rfl)),e];rfl
 |some T=>
  refine xA (qR e) λh1 h2=> ?_
  subst h1
  exact OO (O4 (fq ‹_› (by rfl)) ⟨h2,hx⟩ hs)
end
end
section
noncomputable def ke:List (List Nat):=["(", ")", "[", "]", ",", "x", "0", "7", "[]", "()", " ", "a", "[12]"].map nm
theorem O5{C:Calls}:aO C false (ag 18) []= .ok (.list (ke.map .str)):=by kernel_rfl
theorem O6:ke.length=13/\ ke.all (λw=>decide (w.length<=4)&&w.all λc=>decide (c<1114112))=true:=by decide+kernel
theorem rj{C:Calls}{r:Option Rd}:bn C .IsNot (ek r) .none= .ok r.isSome:=by
 rw[iM]
 cases r with
 |none=>rfl
 |some r=>cases r<;>rfl
theorem O7{xs:List PV}{b:Nat}{v:PV}(hb:b<=1000)(h:xs[b]? =some v):fu (.list xs) (.int (b:Int))=some v:=by
 exact(mq xs b hb).trans h
theorem O8{b:Nat}(hb:b<=12):∃w,ke[b]? =some w/\ w.length<=4/\ ∀c∈w,c<1114112:=by
 refine xA O6 λh1 h2=> ?_
 have hlt:b<ke.length:=er ‹_›
 refine⟨ke[b],fV hlt,?_⟩
 have:=ba.mp h2 _ (rQ hlt)
 rw[aI,decide_eq_true_eq,ba]at this
 exact⟨this.1,λc hc=>by simpa using this.2 c hc⟩
theorem O9{C:Calls}{t:Int}:bn C .Eq (.int t) (.int 0)= .ok (t==0):=vA
theorem O'{x:List Nat}(h:dI x 40):(pE (FC 140) false 24).tst (ck (ag 29)) cf.t5 [(aa "text", .str x)]= .ok false:=by
 have ha:=CY (k:=140) (by decide) (aj h.1 (by decide)) h.2
 (conv=>lhs;arg 3;whnf)
 apply ei
 focus (repeat' first|tb_rel|exact ha)
 rfl
theorem Pa{x y:List Nat}(hx:dI x 40)(hy:dI y 20):(pE (FC 140) false 24).tst (ck (ag 29)) cf.t6 [(aa "text", .str x),(aa "other", .str y)]= .ok false:=by
 have hl1:=hx.1
 have hl2:=hy.1
 have rx:=rh (x:=x) (k:=140) (by decide) (aL ‹_› (by rfl))
 have ry:=rh (x:=y) (k:=140) (by decide) (aL ‹_› (by rfl))
 have px:=rg (x:=x) (k:=140) (by decide) (aL ‹_› (by rfl))
 have py:=rg (x:=y) (k:=140) (by decide) (aL ‹_› (by rfl))
 unfold mB at px py
 (conv=>lhs;arg 3;whnf)
 cases e1:de x with
 |none=>
  rw[e1]at rx
  refine ei (b:=false&&false) (gh (kZ ?_ λq=>nomatch q)) rfl
  refine ei (b:=((none:Option Ty).map dv).isSome) ?_ rfl
  (repeat' first|tb_rel|exact rx|exact rj)
 |some T=>
  rw[e1]at rx px
  cases e2:de y with
  |none=>
   rw[e2]at ry
   refine ei (b:=true&&(false&&false)) (gh (kZ ?_ λø=>kZ ?_ λq=>nomatch q)) rfl
   ·refine ei (b:=((some T).map dv).isSome) ?_ rfl
    (repeat' first|tb_rel|exact rx|exact rj)
   ·refine ei (b:=((none:Option Ty).map dv).isSome) ?_ rfl
    (repeat' first|tb_rel|exact ry|exact rj)
  |some U=>
   rw[e2]at ry py
   refine xA (qR e1) λt1 t2=> ?_
   refine xA (qR e2) λu1 u2=> ?_
   have he:(FC 140).meth (bD T) (aa "__eq__") [aH T,aH U]= .ok (.bool (sh T==sh U)):=by
    rw[lq];exact mD (L:=40) ⟨t2,by rw[t1];exact aL ‹_› (by rfl)⟩ ⟨u2,by rw[u1];exact aL ‹_› (by rfl)⟩ (by decide) (by decide)
   have px:(FC 140).fn (aa "parse") [.str x]= .ok (aH T):=px
   have py:(FC 140).fn (aa "parse") [.str y]= .ok (aH U):=py
   refine ei (b:=((some T).map dv).isSome&&(((some U).map dv).isSome&&((sh T==sh U) !=(x==y)))) ?_ ?_
   ·(repeat' first|tb_rel|exact rx|exact ry|exact px|exact py|exact rj|exact vH he|exact bj|exact re)
   ·rw[t1,u1];simp
theorem Pb{x:List Nat}(h:dI x 60):(pE (FC 140) false 24).ev (ck (ag 29)) cf.ep [(aa "text", .str x)]= .ok (.int ((x.length:Int)+1)):=by
 have hS:Sm x:=by have:=h.1;unfold Sm;exact aL ‹_› (by rfl)
 (conv=>lhs;arg 3;whnf)
 apply jk
 focus (repeat' first|tb_rel|exact fJ hS|exact cH)
 rfl
theorem Pc{t:Int}{x:List Nat}(h:dI x 60):(pE (FC 140) false 24).ev (ck (ag 29)) cf.e8 [(aa "turns", .int t),(aa "text", .str x)]= .ok (.bool true):=by
 (conv=>lhs;arg 3;whnf)
 apply jk (v:= .bool ((t==0)||true))
 focus (repeat' first|tb_rel|exact(CY (k:=140) (by decide) h.1 h.2)|exact O9)
 rw[Bool.or_true]
theorem Pd{x:List Nat}{i m:Int}{L:Nat}(h:dI x L)(hL:L<=56)(hi0:0<=i)(hi:i<(x.length:Int)+1)(hm0:0<=m)(hm:m<16):∃z,(pE (FC 140) false 24).ev (ck (ag 29)) (.IfExp cf.x1 cf.x2 cf.x3 (cf.p 53)) [(aa "text", .str x),(aa "place", .int i),(aa "mark", .int m)]= .ok (.str z)/\ dI z (L+4):=by
 refine xE (PW hi0) λa zq1=> ?_;subst zq1
 refine xE (PW hm0) λb zq1=> ?_;subst zq1
 have hl:=h.1
 have hS:Sm x:=by unfold Sm;lia
 have ha:a<=1000:=by lia
 have h1:(x.take a).length<=x.length:=(List.take_sublist a x).length_le
 have h2:(x.drop a).length<=x.length:=(List.drop_sublist a x).length_le
 have hsum:(x.take a).length+(x.drop a).length=x.length:=by rw[<-cC,kv]
 have ht:(pE (FC 140) false 23).tst (ck (ag 29)) cf.x1 [(aa "text", .str x),(aa "place", .int (a:Int)),(aa "mark", .int (b:Int))]= .ok (decide ((b:Int)>12)):=by
  (conv=>lhs;arg 3;whnf)
  (repeat' first|tb_rel|exact vr)
 by_cases hb:b<=12
 ·refine bA (O8 hb) λw w1 w2 w3=> ?_
  have hfn:(FC 140).fn (aa "_law_marks") []= .ok (.list (ke.map .str)):=by
   rw[fh (by decide) (st:=ag 18) (by kernel_rfl)];exact O5
  have hw:(ke.map PV.str)[b]? =some (.str w):=by rw[lB,w1];rfl
  refine⟨x.take a++w++x.drop a,lc ht (by rw[decide_eq_false_iff_not];lia) ?_,?_,?_⟩
  ·(conv=>lhs;arg 3;whnf)
   (repeat' first|tb_rel|exact mr hS ha|exact hfn|exact O7 (by lia) hw|exact qz hS ha|(with_reducible exact gR (by lia))|(with_reducible exact gR (by rw[cC];lia)))
  ·rw[cC,cC];lia
  ·intro c hc
   refine cr (g8.mp hc) (λhc=> ?_) (λhc=> ?_)
   ·refine cr (g8.mp hc) (λhc=> ?_) (λhc=> ?_)
    ·exact h.2 c (wC hc)
    ·exact w3 c hc
   ·exact h.2 c (PX hc)
 ·have h3:(x.drop (a+1)).length<=x.length:=(List.drop_sublist (a+1) x).length_le
  have h4:(x.drop (a+1)).length<=(x.drop a).length:=by rw[eu,eu];lia
  refine⟨x.take a++x.drop (a+1),lb ht (by rw[decide_eq_true_eq];lia) ?_,?_,?_⟩
  ·(conv=>lhs;arg 3;whnf)
   (repeat' first|tb_rel|(with_reducible exact cH)|(with_reducible exact mr hS ha)|(with_reducible exact qz hS (by lia))|(with_reducible exact gR (by lia)))
  ·rw[cC];lia
  ·intro c hc
   refine cr (g8.mp hc) (λhc=> ?_) (λhc=> ?_)
   ·exact h.2 c (wC hc)
   ·exact h.2 c (PX hc)
theorem Pe:mc (ck (ag 29)) (pE (fE J0 K0) false 24) where
 t5:=λx h=>O' h
 t6:=λx y h h' =>Pa h h'
 ep:=λx h=>Pb h
 c16:=λρ=>Bk
 c3:=λρ=>Bk
 ifx:=λx i m L h1 h2 h3 h4 h5 h6=>Pd h1 h2 h3 h4 h5 h6
 e8:=λt x h=>Pc h
end
section
end
end Mine
section
open PySem PySem.W PySem.Calls PyProof.Rows Mine
theorem PySem.Challenge.cw_iv0009_01_holds : PySem.Challenge.rw_iv0009_01.Holds := by
 w_on
 refine holds_law E5 λsaid=> ?_
 refine holds_open (q:=vw) (loose:=["ABIType", "TupleType", "BasicType"]) (Xt:=λs=>xlAt vw [] s&&recOk (C4 gm.row.toRowW) s) (XP:=XL vw []) (Yf:=Hook.obs hH) (Ya:=Hook.val hH) (YP:=Hook.says hH) (N:=5602) E4 (Hook.of hH) (Hook.keeps hH) (λs e=>xl_of s (ju.mp e).1) XL.keeps (by rfl) (by rfl) (by rfl) (λs e=>recFacts_of (ju.mp e).2) (by rfl) said (by decide+kernel) ⟨rfl,rfl,rfl,rfl,rfl,by decide+kernel⟩ ?hw ?hc
 case hw=>w_witness2
 intro w s₀ s₁ mg mb G Y fa o pm cd doc dV kV ho hd hcd hD hmg hg args vals as hpre hlay hrd hwl hlo
 have KX:=km_in_of Y
 have TB:=km_tabs_of Y
 refine Ground.open G ?_
 intro T B D TE TW
 try (refine guard_noD D ?_)
 wrow_args hpre hlay hrd hwl hlo
 rename_i hL ra w1 r0 hI hr hc hc2
 exact Mq Pe KX TB T hg hmg hL hI hc
end
